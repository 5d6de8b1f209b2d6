import JvmDerived
import JvmDerived.Pilot.@@N@@Statement
import JvmDerived.Pilot.@@N@@Code
set_option linter.unusedVariables false
set_option linter.unusedSimpArgs false
@@BLOCK:NumsL.lean.txt@@
namespace Jvm.RoadKit
open Sem ClassFile Op Lib Jvm.Stand Jvm.Free Jvm.LawKit
section New
variable {p : Program} {l : Launch} {e : Env} {R : Room} {s : State} {m : MethodId} {args : Array Value} {below : List Frame} {meth : Method} {c : Code} {T : State} {locs : List Loc} {cells slots : Nat}
theorem retI (X : Stand p l e R s m args below meth c T locs cells slots) (hx : p.tables.exec = Jvm.exec) {pc : Nat} {Ls : Array Slot} {z : Int32} {rest : List Value} (hret : meth.sig.returnType = some .int) (hd : decode c.code pc = .ok (.ireturn, 1)) {fs : List Frame}
    (hl : ∀ (f : JFrame) (acts : List Action), f.method = m → f.locked = none → f.entered = [] → (doReturn e (T.setTop f) acts (some (.int z))).1 = T.setFrames fs) : Steps p.tables e below (T.setTop (mkF m pc Ls (.int z :: rest))) (T.setFrames fs) := by
  have hm' : T.vm.method? m = some meth := X.method'
  have hn : narrow .int (.int z) = .int z := rfl
  show Steps p.tables e below (T.setTop { method := m, pc := pc, locals := Ls, stack := _ :: rest, locked := none }) _
  jvm_step X.here [X.here.top, hx, hd, hm', hret, hn]
  first | (intro acts; rw [hl _ acts rfl rfl rfl]) | rw [hl _ _ rfl rfl rfl]
  exact Steps.refl _
end New
end Jvm.RoadKit
namespace Jvm.Pilot.@@N@@
open Jvm Jvm.ClassFile Sem Op Lib Jvm.Free Jvm.Stand Jvm.LawKit Jvm.RoadKit Bundle Jvm.Pilot.@@N@@.Jvm.D
/-! own text: doubles as whole numbers of 2^-1074 (own_Fin), what a double can hold (own_Rep), and the four operations by bounds -/
def own_Rep (z : Int) : Prop := ∃ (s : Bool) (c : Nat) (q : Int), FP.Core.fits FP.Core.b64 (.fin s c q) ∧ FP.Core.zval FP.Core.b64 (.fin s c q) = z
def own_Fin (a : UInt64) (z : Int) : Prop := FP.Core.DFin a ∧ FP.Core.zval FP.Core.b64 (FP.Core.val64 a) = z
def own_U : Int := ((FP.Core.one64 : Nat) : Int)
theorem own_U_pos : 0 < own_U := Int.natCast_pos.mpr FP.Core.one64_pos
theorem own_U_lit : own_U = 202402253307310618352495346718917307049556649764142118356901358027430339567995346891960383701437124495187077864316811911389808737385793476867013399940738509921517424276566361364466907742093216341239767678472745068562007483424692698618103355649159556340810056512358769552333414615230502532186327508646006263307707741093494784 := by decide +kernel
theorem own_Fin.rep {a : UInt64} {z : Int} (h : own_Fin a z) : own_Rep z := by
  obtain ⟨⟨s, c, q, e⟩, h⟩ := h
  refine ⟨s, c, q, ?_, ?_⟩
  · rw [← e]; exact FP.Core.val64_fits a
  · rw [← e]; exact h
theorem own_Fin.ne {a : UInt64} {z : Int} (h : own_Fin a z) : FP.Core.val64 a ≠ .nan := h.1.ne_nan
theorem own_Fin.nn {a : UInt64} {z : Int} (h : own_Fin a z) : Jvm.Free.Fl.NoNaN64 a := Jvm.Free.Fl.val64_no.mpr h.ne
def own_Val (a : UInt64) (z : Int) : Prop := FP.Core.val64 a ≠ .nan ∧ FP.Core.zval FP.Core.b64 (FP.Core.val64 a) = z
theorem own_Fin.v {a : UInt64} {z : Int} (h : own_Fin a z) : own_Val a z := ⟨h.ne, h.2⟩
theorem own_Val.nn {a : UInt64} {z : Int} (h : own_Val a z) : Jvm.Free.Fl.NoNaN64 a := Jvm.Free.Fl.val64_no.mpr h.1
theorem own_Fin.cast {a : UInt64} {z w : Int} (h : own_Fin a z) (e : z = w) : own_Fin a w := e ▸ h
theorem own_signed_le (s : Bool) (n : Nat) : FP.Core.signed s n ≤ (n : Int) ∧ -(n : Int) ≤ FP.Core.signed s n := by
  cases s <;> simp only [FP.Core.signed, if_true, Bool.false_eq_true, if_false] <;> omega
theorem own_zval_inf (f : FP.Core.Fmt) (s : Bool) : FP.Core.zval f (.inf s) = FP.Core.signed s (f.tails * 2 ^ (f.exps - 2)) := rfl
theorem own_zval_fin (f : FP.Core.Fmt) (s : Bool) (c : Nat) (q : Int) : FP.Core.zval f (.fin s c q) = FP.Core.signed s (FP.Core.inUnits c q f.qmin) := rfl
theorem own_Rep.lt {z : Int} (h : own_Rep z) : z < ((FP.Core.b64.tails * 2 ^ (FP.Core.b64.exps - 2) : Nat) : Int) ∧ -((FP.Core.b64.tails * 2 ^ (FP.Core.b64.exps - 2) : Nat) : Int) < z := by
  obtain ⟨s, c, q, hf, rfl⟩ := h
  have h1 := FP.Core.zmag_lt_top FP.Core.good_b64 hf
  have h2 := own_signed_le s (FP.Core.inUnits c q FP.Core.b64.qmin)
  rw [own_zval_fin]
  generalize FP.Core.inUnits c q FP.Core.b64.qmin = n at *
  generalize FP.Core.b64.tails * 2 ^ (FP.Core.b64.exps - 2) = t at *
  omega
theorem own_fin_of {r : UInt64} {lo hi : Int} (hn : FP.Core.val64 r ≠ .nan) (rl : own_Rep lo) (rh : own_Rep hi) (h1 : lo ≤ FP.Core.zval FP.Core.b64 (FP.Core.val64 r)) (h2 : FP.Core.zval FP.Core.b64 (FP.Core.val64 r) ≤ hi) :
    ∃ z, own_Fin r z ∧ lo ≤ z ∧ z ≤ hi := by
  refine ⟨_, ⟨?_, rfl⟩, h1, h2⟩
  have a := rl.lt
  have b := rh.lt
  cases hv : FP.Core.val64 r with
  | nan => exact absurd hv hn
  | fin s c q => exact ⟨s, c, q, hv⟩
  | inf s =>
    exfalso
    rw [hv, own_zval_inf] at h1 h2
    generalize FP.Core.b64.tails * 2 ^ (FP.Core.b64.exps - 2) = t at *
    cases s <;> simp only [FP.Core.signed, if_true, Bool.false_eq_true, if_false] at h1 h2 <;> omega
theorem own_add {a b : UInt64} {x y lo hi : Int} (ha : own_Fin a x) (hb : own_Fin b y) (rl : own_Rep lo) (rh : own_Rep hi) (h1 : lo ≤ x + y) (h2 : x + y ≤ hi) : ∃ z, own_Fin (FP.dadd a b) z ∧ lo ≤ z ∧ z ≤ hi := by
  obtain ⟨s1, c1, q1, f1, e1⟩ := id rl
  obtain ⟨s2, c2, q2, f2, e2⟩ := id rh
  have ev : FP.Core.val64 (FP.dadd a b) = _ := FP.Core.val64_dadd a b
  refine own_fin_of ((FP.Core.notNaN_iff _).mp (FP.Core.dadd_out ha.1.notNaN hb.1)) rl rh ?_ ?_
  · rw [ev, ← e1]
    exact FP.Core.sum_ge FP.Core.good_b64 ha.1 hb.1 (FP.Core.val64_fits a) (FP.Core.val64_fits b) f1 (fun q => nomatch q) (by rw [e1, ha.2, hb.2]; exact h1)
  · rw [ev, ← e2]
    exact FP.Core.sum_le FP.Core.good_b64 ha.1 hb.1 (FP.Core.val64_fits a) (FP.Core.val64_fits b) f2 (fun q => nomatch q) (by rw [e2, ha.2, hb.2]; exact h2)
theorem own_add_e {a b : UInt64} {x y : Int} (ha : own_Fin a x) (hb : own_Fin b y) (r : own_Rep (x + y)) : own_Fin (FP.dadd a b) (x + y) := by
  obtain ⟨z, h, h1, h2⟩ := own_add ha hb r r (Int.le_refl _) (Int.le_refl _)
  exact h.cast (Int.le_antisymm h2 h1)
theorem own_fin_negate {d : FP.Core.Datum} (h : ∃ s c q, d = .fin s c q) : ∃ s c q, FP.Core.negate d = .fin s c q := by
  obtain ⟨s, c, q, rfl⟩ := h
  exact ⟨!s, c, q, rfl⟩
theorem own_sub {a b : UInt64} {x y lo hi : Int} (ha : own_Fin a x) (hb : own_Fin b y) (rl : own_Rep lo) (rh : own_Rep hi) (h1 : lo ≤ x - y) (h2 : x - y ≤ hi) : ∃ z, own_Fin (FP.dsub a b) z ∧ lo ≤ z ∧ z ≤ hi := by
  obtain ⟨s1, c1, q1, f1, e1⟩ := id rl
  obtain ⟨s2, c2, q2, f2, e2⟩ := id rh
  have ev : FP.Core.val64 (FP.dsub a b) = _ := FP.Core.val64_dsub a b
  refine own_fin_of ((FP.Core.notNaN_iff _).mp (FP.Core.dsub_out ha.1.notNaN hb.1)) rl rh ?_ ?_
  · rw [ev, ← e1]
    exact FP.Core.sum_ge FP.Core.good_b64 ha.1 (own_fin_negate hb.1) (FP.Core.val64_fits a) (FP.Core.negate_fits (FP.Core.val64_fits b)) f1 (fun q => nomatch q) (by rw [e1, ha.2, FP.Core.zval_negate, hb.2]; omega)
  · rw [ev, ← e2]
    exact FP.Core.sum_le FP.Core.good_b64 ha.1 (own_fin_negate hb.1) (FP.Core.val64_fits a) (FP.Core.negate_fits (FP.Core.val64_fits b)) f2 (fun q => nomatch q) (by rw [e2, ha.2, FP.Core.zval_negate, hb.2]; omega)
theorem own_sub_e {a b : UInt64} {x y : Int} (ha : own_Fin a x) (hb : own_Fin b y) (r : own_Rep (x - y)) : own_Fin (FP.dsub a b) (x - y) := by
  obtain ⟨z, h, h1, h2⟩ := own_sub ha hb r r (Int.le_refl _) (Int.le_refl _)
  exact h.cast (Int.le_antisymm h2 h1)
theorem own_qq : (FP.Core.b64.qmin - 2 * FP.Core.b64.qmin).toNat = (-FP.Core.b64.qmin).toNat := by rw [FP.Core.qmin_b64]; rfl
theorem own_mul_ge {a b : UInt64} {x y lo : Int} (ha : own_Fin a x) (hb : own_Fin b y) (rl : own_Rep lo) (h1 : lo * own_U ≤ x * y) : lo ≤ FP.Core.zval FP.Core.b64 (FP.Core.val64 (FP.dmul a b)) := by
  obtain ⟨s1, c1, q1, f1, e1⟩ := id rl
  obtain ⟨s, c, q, ea⟩ := id ha.1
  obtain ⟨t, d, r, eb⟩ := id hb.1
  have fa := FP.Core.val64_fits a
  have fb := FP.Core.val64_fits b
  have za := ha.2
  have zb := hb.2
  have ev : FP.Core.val64 (FP.dmul a b) = _ := FP.Core.val64_dmul a b
  rw [ea] at fa za ev
  rw [eb] at fb zb ev
  obtain ⟨p1, p2, p3⟩ := FP.Core.product_units fa fb
  rw [p1] at ev
  have hq : 2 * FP.Core.b64.qmin ≤ FP.Core.b64.qmin := by rw [FP.Core.qmin_b64]; decide
  have hs : FP.Core.signed (s != t) (FP.Core.inUnits (c * d) (q + r) (2 * FP.Core.b64.qmin)) = x * y := by
    rw [p3, FP.Core.signed_xor, ← za, ← zb]; rfl
  have hu : ((2 ^ (FP.Core.b64.qmin - 2 * FP.Core.b64.qmin).toNat : Nat) : Int) = own_U := by rw [own_qq, FP.Core.pow_qmin64]; rfl
  rw [ev, ← e1]
  exact FP.Core.zval_round_ge FP.Core.good_b64 f1 (fun q => nomatch q) hq p2 (by rw [hs, hu, e1]; exact h1)
theorem own_mul_le {a b : UInt64} {x y hi : Int} (ha : own_Fin a x) (hb : own_Fin b y) (rh : own_Rep hi) (h2 : x * y ≤ hi * own_U) : FP.Core.zval FP.Core.b64 (FP.Core.val64 (FP.dmul a b)) ≤ hi := by
  obtain ⟨s2, c2, q2, f2, e2⟩ := id rh
  obtain ⟨s, c, q, ea⟩ := id ha.1
  obtain ⟨t, d, r, eb⟩ := id hb.1
  have fa := FP.Core.val64_fits a
  have fb := FP.Core.val64_fits b
  have za := ha.2
  have zb := hb.2
  have ev : FP.Core.val64 (FP.dmul a b) = _ := FP.Core.val64_dmul a b
  rw [ea] at fa za ev
  rw [eb] at fb zb ev
  obtain ⟨p1, p2, p3⟩ := FP.Core.product_units fa fb
  rw [p1] at ev
  have hq : 2 * FP.Core.b64.qmin ≤ FP.Core.b64.qmin := by rw [FP.Core.qmin_b64]; decide
  have hs : FP.Core.signed (s != t) (FP.Core.inUnits (c * d) (q + r) (2 * FP.Core.b64.qmin)) = x * y := by
    rw [p3, FP.Core.signed_xor, ← za, ← zb]; rfl
  have hu : ((2 ^ (FP.Core.b64.qmin - 2 * FP.Core.b64.qmin).toNat : Nat) : Int) = own_U := by rw [own_qq, FP.Core.pow_qmin64]; rfl
  rw [ev, ← e2]
  exact FP.Core.zval_round_le FP.Core.good_b64 f2 (fun q => nomatch q) hq p2 (by rw [hs, hu, e2]; exact h2)
theorem own_mul_ne {a b : UInt64} {x y : Int} (ha : own_Fin a x) (hb : own_Fin b y) : FP.Core.val64 (FP.dmul a b) ≠ .nan := (FP.Core.notNaN_iff _).mp (FP.Core.dmul_out ha.1 hb.1)
theorem own_mul {a b : UInt64} {x y lo hi : Int} (ha : own_Fin a x) (hb : own_Fin b y) (rl : own_Rep lo) (rh : own_Rep hi) (h1 : lo * own_U ≤ x * y) (h2 : x * y ≤ hi * own_U) : ∃ z, own_Fin (FP.dmul a b) z ∧ lo ≤ z ∧ z ≤ hi :=
  own_fin_of (own_mul_ne ha hb) rl rh (own_mul_ge ha hb rl h1) (own_mul_le ha hb rh h2)
theorem own_mul_e {a b : UInt64} {x y z : Int} (ha : own_Fin a x) (hb : own_Fin b y) (r : own_Rep z) (e : x * y = z * own_U) : own_Fin (FP.dmul a b) z := by
  obtain ⟨w, h, h1, h2⟩ := own_mul ha hb r r (Int.le_of_eq e.symm) (Int.le_of_eq e)
  exact h.cast (Int.le_antisymm h2 h1)
theorem own_ratio_units {c d : Nat} {q r m : Int} (hq : m ≤ q) (hr : m ≤ r) (hm : m < 0) :
    FP.Core.inUnits c (q - r) (m + m - r) = FP.Core.inUnits c q m * 2 ^ (-m).toNat ∧ ∀ v : Nat, v * 2 ^ (m - (m + m - r)).toNat * d = v * FP.Core.inUnits d r m := by
  constructor
  · unfold FP.Core.inUnits
    rw [show (q - r - (m + m - r)).toNat = (q - m).toNat + (-m).toNat by omega, Nat.pow_add, Nat.mul_assoc]
  · intro v
    unfold FP.Core.inUnits
    rw [show (m - (m + m - r)).toNat = (r - m).toNat by omega, Nat.mul_assoc, Nat.mul_comm d]
theorem own_ratio_le {s s' t : Bool} {c d : Nat} {q r : Int} {V : FP.Core.Datum} (hx : FP.Core.fits FP.Core.b64 (.fin s c q)) (hy : FP.Core.fits FP.Core.b64 (.fin t d r)) (hd : 0 < d) (hV : FP.Core.fits FP.Core.b64 V) (hn : V ≠ .nan)
    (h : FP.Core.inUnits c q FP.Core.b64.qmin * FP.Core.one64 ≤ FP.Core.zmag FP.Core.b64 V * FP.Core.inUnits d r FP.Core.b64.qmin) : FP.Core.zmag FP.Core.b64 (FP.Core.roundRatio FP.Core.b64 s' c d (q - r)) ≤ FP.Core.zmag FP.Core.b64 V := by
  have hm : FP.Core.b64.qmin < 0 := by rw [FP.Core.qmin_b64]; decide
  obtain ⟨u1, u2⟩ := own_ratio_units (c := c) (d := d) hx.2.1 hy.2.1 hm
  have hqx := hx.2.1
  have hqy := hy.2.1
  refine FP.Core.zmag_roundRatio_le FP.Core.good_b64 (e0 := FP.Core.b64.qmin + FP.Core.b64.qmin - r) hd hV hn (by omega) (by omega) ?_
  rw [u1, u2, FP.Core.pow_qmin64]; exact h
theorem own_ratio_ge {s s' t : Bool} {c d : Nat} {q r : Int} {V : FP.Core.Datum} (hx : FP.Core.fits FP.Core.b64 (.fin s c q)) (hy : FP.Core.fits FP.Core.b64 (.fin t d r)) (hd : 0 < d) (hV : FP.Core.fits FP.Core.b64 V)
    (h : FP.Core.zmag FP.Core.b64 V * FP.Core.inUnits d r FP.Core.b64.qmin ≤ FP.Core.inUnits c q FP.Core.b64.qmin * FP.Core.one64) : FP.Core.zmag FP.Core.b64 V ≤ FP.Core.zmag FP.Core.b64 (FP.Core.roundRatio FP.Core.b64 s' c d (q - r)) := by
  have hm : FP.Core.b64.qmin < 0 := by rw [FP.Core.qmin_b64]; decide
  obtain ⟨u1, u2⟩ := own_ratio_units (c := c) (d := d) hx.2.1 hy.2.1 hm
  have hqx := hx.2.1
  have hqy := hy.2.1
  refine FP.Core.zmag_roundRatio_ge FP.Core.good_b64 (e0 := FP.Core.b64.qmin + FP.Core.b64.qmin - r) hd hV (by omega) (by omega) ?_
  rw [u1, u2, FP.Core.pow_qmin64]; exact h
theorem own_quot {a b : UInt64} {y : Int} {s : Bool} {c : Nat} {q : Int} (ea : FP.Core.val64 a = .fin s c q) (hb : own_Fin b y) (hy : 0 < y) :
    ∃ d r, FP.Core.val64 b = .fin false d r ∧ 0 < d ∧ y = ((FP.Core.inUnits d r FP.Core.b64.qmin : Nat) : Int) ∧ FP.Core.val64 (FP.ddiv a b) = FP.Core.roundRatio FP.Core.b64 s c d (q - r) := by
  obtain ⟨t, d, r, eb⟩ := id hb.1
  have zb := hb.2
  rw [eb, own_zval_fin] at zb
  obtain ⟨k1, k2⟩ := FP.Core.signed_pos (s := t) (m := FP.Core.inUnits d r FP.Core.b64.qmin) (by rw [zb]; exact hy)
  have ht : t = false := by
    cases t with
    | false => rfl
    | true =>
      simp only [FP.Core.signed, if_true] at k1; omega
  subst ht
  have hd : 0 < d := by
    rcases Nat.eq_zero_or_pos d with h | h
    · subst h; unfold FP.Core.inUnits at k2; omega
    · exact h
  refine ⟨d, r, eb, hd, by rw [← zb, k1], ?_⟩
  have ev : FP.Core.val64 (FP.ddiv a b) = _ := FP.Core.val64_ddiv a b
  rw [ea, eb] at ev
  rw [ev]
  show (if d = 0 then _ else FP.Core.roundRatio FP.Core.b64 (s != false) c d (q - r)) = _
  rw [if_neg (Nat.pos_iff_ne_zero.mp hd)]
  cases s <;> rfl
theorem own_div_le {a b : UInt64} {x y hi : Int} (ha : own_Fin a x) (hb : own_Fin b y) (hy : 0 < y) (rh : own_Rep hi) (h2 : x * own_U ≤ hi * y) : FP.Core.zval FP.Core.b64 (FP.Core.val64 (FP.ddiv a b)) ≤ hi := by
  obtain ⟨s2, c2, q2, f2, e2⟩ := id rh
  obtain ⟨s, c, q, ea⟩ := id ha.1
  obtain ⟨d, r, eb, hd, ey, ev⟩ := own_quot ea hb hy
  have fa := FP.Core.val64_fits a
  have fb := FP.Core.val64_fits b
  have za := ha.2
  rw [ea] at fa za
  rw [eb] at fb
  have l1 := own_ratio_le (s' := s) fa fb hd f2 (fun q => nomatch q)
  have l2 := own_ratio_ge (s' := s) fa fb hd f2
  have hY : 0 < FP.Core.inUnits d r FP.Core.b64.qmin := by omega
  rw [ev, ← e2]
  unfold FP.Core.zval
  rw [FP.Core.sgn_roundRatio]
  rw [own_zval_fin] at za
  have e2' : FP.Core.signed s2 (FP.Core.zmag FP.Core.b64 (.fin s2 c2 q2)) = hi := e2
  show FP.Core.signed s _ ≤ FP.Core.signed s2 _
  rw [← e2', ← za, ey] at h2
  unfold own_U at h2
  rw [← FP.Core.signed_mul, ← FP.Core.signed_mul] at h2
  generalize FP.Core.zmag FP.Core.b64 (FP.Core.roundRatio FP.Core.b64 s c d (q - r)) = zR at *
  generalize FP.Core.zmag FP.Core.b64 (.fin s2 c2 q2) = v at *
  have hz : v * FP.Core.inUnits d r FP.Core.b64.qmin = 0 → v = 0 := fun h => (Nat.mul_eq_zero.mp h).resolve_right (by omega)
  generalize v * FP.Core.inUnits d r FP.Core.b64.qmin = B at *
  generalize FP.Core.inUnits c q FP.Core.b64.qmin * FP.Core.one64 = A at *
  cases s <;> cases s2 <;> simp only [FP.Core.signed, if_true, Bool.false_eq_true, if_false] at h2 ⊢
  · have := l1 (by omega); omega
  · have := l1 (by omega); have := hz (by omega); omega
  · omega
  · have := l2 (by omega); omega
theorem own_neg {a : UInt64} {x : Int} (ha : own_Fin a x) : own_Fin (FP.dneg a) (-x) := by
  have e : FP.Core.val64 (FP.dneg a) = _ := FP.val64_dneg a
  refine ⟨?_, ?_⟩
  · show ∃ s c q, _ = _
    rw [e]; exact own_fin_negate ha.1
  · rw [e, FP.Core.zval_negate, ha.2]
theorem own_div_ge {a b : UInt64} {x y lo : Int} (ha : own_Fin a x) (hb : own_Fin b y) (hy : 0 < y) (rl : own_Rep lo) (h1 : lo * y ≤ x * own_U) : lo ≤ FP.Core.zval FP.Core.b64 (FP.Core.val64 (FP.ddiv a b)) := by
  obtain ⟨s2, c2, q2, f2, e2⟩ := id rl
  obtain ⟨s, c, q, ea⟩ := id ha.1
  obtain ⟨d, r, eb, hd, ey, ev⟩ := own_quot ea hb hy
  have fa := FP.Core.val64_fits a
  have fb := FP.Core.val64_fits b
  have za := ha.2
  rw [ea] at fa za
  rw [eb] at fb
  have l1 := own_ratio_le (s' := s) fa fb hd f2 (fun q => nomatch q)
  have l2 := own_ratio_ge (s' := s) fa fb hd f2
  have hY : 0 < FP.Core.inUnits d r FP.Core.b64.qmin := by omega
  rw [ev, ← e2]
  unfold FP.Core.zval
  rw [FP.Core.sgn_roundRatio]
  rw [own_zval_fin] at za
  have e2' : FP.Core.signed s2 (FP.Core.zmag FP.Core.b64 (.fin s2 c2 q2)) = lo := e2
  show FP.Core.signed s2 _ ≤ FP.Core.signed s _
  rw [← e2', ← za, ey] at h1
  unfold own_U at h1
  rw [← FP.Core.signed_mul, ← FP.Core.signed_mul] at h1
  generalize FP.Core.zmag FP.Core.b64 (FP.Core.roundRatio FP.Core.b64 s c d (q - r)) = zR at *
  generalize FP.Core.zmag FP.Core.b64 (.fin s2 c2 q2) = v at *
  have hz : v * FP.Core.inUnits d r FP.Core.b64.qmin = 0 → v = 0 := fun h => (Nat.mul_eq_zero.mp h).resolve_right (by omega)
  generalize v * FP.Core.inUnits d r FP.Core.b64.qmin = B at *
  generalize FP.Core.inUnits c q FP.Core.b64.qmin * FP.Core.one64 = A at *
  cases s <;> cases s2 <;> simp only [FP.Core.signed, if_true, Bool.false_eq_true, if_false] at h1 ⊢
  · have := l2 (by omega); omega
  · omega
  · have := l1 (by omega); have := hz (by omega); omega
  · have := l1 (by omega); omega
theorem own_div {a b : UInt64} {x y lo hi : Int} (ha : own_Fin a x) (hb : own_Fin b y) (hy : 0 < y) (rl : own_Rep lo) (rh : own_Rep hi) (h1 : lo * y ≤ x * own_U) (h2 : x * own_U ≤ hi * y) : ∃ z, own_Fin (FP.ddiv a b) z ∧ lo ≤ z ∧ z ≤ hi := by
  refine own_fin_of ?_ rl rh (own_div_ge ha hb hy rl h1) (own_div_le ha hb hy rh h2)
  obtain ⟨s, c, q, ea⟩ := id ha.1
  obtain ⟨d, r, eb, hd, ey, ev⟩ := own_quot ea hb hy
  rw [ev]; exact FP.Core.roundRatio_ne_nan _ _ _ _ _
theorem own_div_e {a b : UInt64} {x y z : Int} (ha : own_Fin a x) (hb : own_Fin b y) (hy : 0 < y) (r : own_Rep z) (e : x * own_U = z * y) : own_Fin (FP.ddiv a b) z := by
  obtain ⟨w, h, h1, h2⟩ := own_div ha hb hy r r (Int.le_of_eq e.symm) (Int.le_of_eq e)
  exact h.cast (Int.le_antisymm h2 h1)
/-- quotients of one value are one double -/
theorem own_div_same {a b a' b' : UInt64} {x y x' y' : Int} (ha : own_Fin a x) (hb : own_Fin b y) (ha' : own_Fin a' x') (hb' : own_Fin b' y') (hx : 0 < x) (hx' : 0 < x') (hy : 0 < y) (hy' : 0 < y') (e : x * y' = x' * y) : FP.Core.val64 (FP.ddiv a b) = FP.Core.val64 (FP.ddiv a' b') := by
  obtain ⟨s, c, q, ea⟩ := id ha.1
  obtain ⟨d, r, eb, hd, ey, ev⟩ := own_quot ea hb hy
  obtain ⟨s', c', q', ea'⟩ := id ha'.1
  obtain ⟨d', r', eb', hd', ey', ev'⟩ := own_quot ea' hb' hy'
  have za := ha.2
  have za' := ha'.2
  have fa := FP.Core.val64_fits a
  have fb := FP.Core.val64_fits b
  have fa' := FP.Core.val64_fits a'
  have fb' := FP.Core.val64_fits b'
  rw [ea] at za fa
  rw [ea'] at za' fa'
  rw [eb] at fb
  rw [eb'] at fb'
  rw [own_zval_fin] at za za'
  obtain ⟨k1, k2⟩ := FP.Core.signed_pos (s := s) (m := FP.Core.inUnits c q FP.Core.b64.qmin) (by rw [za]; exact hx)
  obtain ⟨k1', k2'⟩ := FP.Core.signed_pos (s := s') (m := FP.Core.inUnits c' q' FP.Core.b64.qmin) (by rw [za']; exact hx')
  have hs : s = false := by
    cases s with
    | false => rfl
    | true => simp only [FP.Core.signed, if_true] at k1; omega
  have hs' : s' = false := by
    cases s' with
    | false => rfl
    | true => simp only [FP.Core.signed, if_true] at k1'; omega
  subst hs hs'
  rw [ev, ev']
  have E : FP.Core.inUnits c q FP.Core.b64.qmin * FP.Core.inUnits d' r' FP.Core.b64.qmin = FP.Core.inUnits c' q' FP.Core.b64.qmin * FP.Core.inUnits d r FP.Core.b64.qmin := by
    have h : ((FP.Core.inUnits c q FP.Core.b64.qmin * FP.Core.inUnits d' r' FP.Core.b64.qmin : Nat) : Int) = ((FP.Core.inUnits c' q' FP.Core.b64.qmin * FP.Core.inUnits d r FP.Core.b64.qmin : Nat) : Int) := by
      rw [Int.natCast_mul, Int.natCast_mul, ← k1, ← k1', za, za', ← ey, ← ey']; exact e
    exact Int.ofNat_inj.mp h
  have g1 := fa.2.1
  have g2 := fb.2.1
  have g3 := fa'.2.1
  have g4 := fb'.2.1
  generalize FP.Core.b64.qmin = m at *
  refine FP.Core.roundRatio_congr hd hd' ?_
  unfold FP.Core.inUnits at E
  generalize ha1 : (q - m).toNat = A1 at *
  generalize ha2 : (r - m).toNat = A2 at *
  generalize ha3 : (q' - m).toNat = A3 at *
  generalize ha4 : (r' - m).toNat = A4 at *
  have E' : c * d' * 2 ^ (A1 + A4) = c' * d * 2 ^ (A3 + A2) := by
    rw [Nat.pow_add, Nat.pow_add]
    calc c * d' * (2 ^ A1 * 2 ^ A4) = c * 2 ^ A1 * (d' * 2 ^ A4) := by simp only [Nat.mul_assoc, Nat.mul_left_comm, Nat.mul_comm]
      _ = c' * 2 ^ A3 * (d * 2 ^ A2) := E
      _ = c' * d * (2 ^ A3 * 2 ^ A2) := by simp only [Nat.mul_assoc, Nat.mul_left_comm, Nat.mul_comm]
  rcases Nat.le_total (A3 + A2) (A1 + A4) with h | h
  · rw [show (q - r - (q' - r')).toNat = (A1 + A4) - (A3 + A2) by omega, show (q' - r' - (q - r)).toNat = 0 by omega]
    have : 2 ^ (A1 + A4) = 2 ^ ((A1 + A4) - (A3 + A2)) * 2 ^ (A3 + A2) := by rw [← Nat.pow_add]; congr 1; omega
    rw [this, ← Nat.mul_assoc] at E'
    rw [Nat.pow_zero, Nat.mul_one]
    exact Nat.eq_of_mul_eq_mul_right (Nat.two_pow_pos _) E'
  · rw [show (q - r - (q' - r')).toNat = 0 by omega, show (q' - r' - (q - r)).toNat = (A3 + A2) - (A1 + A4) by omega]
    have : 2 ^ (A3 + A2) = 2 ^ ((A3 + A2) - (A1 + A4)) * 2 ^ (A1 + A4) := by rw [← Nat.pow_add]; congr 1; omega
    rw [this, ← Nat.mul_assoc] at E'
    rw [Nat.pow_zero, Nat.mul_one]
    exact Nat.eq_of_mul_eq_mul_right (Nat.two_pow_pos _) E'
theorem own_cmp {a b : UInt64} {x y : Int} (ha : own_Val a x) (hb : own_Val b y) (o : CmpOp) : cmpValue (FP.dcmp a b) o = if x < y then -1 else if x = y then 0 else 1 := by
  rw [show FP.dcmp a b = _ from FP.Core.dcmp_zval ha.1 hb.1, ha.2, hb.2, FP.Core.compare_ite]
  by_cases h1 : x < y
  · rw [if_pos h1, if_pos h1]; rfl
  · rw [if_neg h1, if_neg h1]
    by_cases h2 : x = y
    · rw [if_pos h2, if_pos h2]; rfl
    · rw [if_neg h2, if_neg h2]; rfl
theorem own_if {a b : UInt64} {x y : Int} (ha : own_Val a x) (hb : own_Val b y) (o : CmpOp) :
    (ifCond.holds .eq (cmpValue (FP.dcmp a b) o) = decide (x = y)) ∧ (ifCond.holds .ne (cmpValue (FP.dcmp a b) o) = decide (x ≠ y)) ∧ (ifCond.holds .lt (cmpValue (FP.dcmp a b) o) = decide (x < y)) ∧
    (ifCond.holds .ge (cmpValue (FP.dcmp a b) o) = decide (y ≤ x)) ∧ (ifCond.holds .gt (cmpValue (FP.dcmp a b) o) = decide (y < x)) ∧ (ifCond.holds .le (cmpValue (FP.dcmp a b) o) = decide (x ≤ y)) := by
  rw [own_cmp ha hb o]
  by_cases h1 : x < y
  · rw [if_pos h1]
    rw [decide_eq_false (show ¬ x = y by omega), decide_eq_true (show x ≠ y by omega), decide_eq_true h1, decide_eq_false (show ¬ y ≤ x by omega), decide_eq_false (show ¬ y < x by omega), decide_eq_true (show x ≤ y by omega)]
    decide
  · rw [if_neg h1]
    by_cases h2 : x = y
    · rw [if_pos h2]
      rw [decide_eq_true h2, decide_eq_false (show ¬ x ≠ y by omega), decide_eq_false h1, decide_eq_true (show y ≤ x by omega), decide_eq_false (show ¬ y < x by omega), decide_eq_true (show x ≤ y by omega)]
      decide
    · rw [if_neg h2]
      rw [decide_eq_false h2, decide_eq_true (show x ≠ y by omega), decide_eq_false h1, decide_eq_true (show y ≤ x by omega), decide_eq_true (show y < x by omega), decide_eq_false (show ¬ x ≤ y by omega)]
      decide
theorem own_of_dint {i : Int} {a : UInt64} (h : FP.Core.DInt i a) : own_Fin a (i * own_U) := by
  refine ⟨?_, FP.Core.DInt_zval h⟩
  have h' : FP.Core.Whole i (FP.Core.val64 a) := h
  cases hv : FP.Core.val64 a with
  | nan => rw [hv] at h'; exact h'.elim
  | inf s => rw [hv] at h'; exact h'.elim
  | fin s c q => exact ⟨s, c, q, hv⟩
theorem own_i2d (n : Int32) : own_Fin (FP.i2d n) (n.toInt * own_U) := own_of_dint (FP.Core.i2d_int n)
theorem own_l2d {n : Int64} (h : n.toInt.natAbs ≤ 9007199254740992) : own_Fin (FP.l2d n) (n.toInt * own_U) := own_of_dint (FP.Core.l2d_int h)
theorem own_signed_self (n : Int) : FP.Core.signed (decide (n < 0)) n.natAbs = n := by
  by_cases h : n < 0
  · rw [decide_eq_true h]; simp only [FP.Core.signed, if_true]; omega
  · rw [decide_eq_false h]; simp only [FP.Core.signed, Bool.false_eq_true, if_false]; omega
theorem own_rep (n : Int) (k : Nat) {P : Int} (hP : ((2 ^ k : Nat) : Int) = P) (hn : n.natAbs < 9007199254740992) (hk : k ≤ 2045) : own_Rep (n * P) := by
  have hmax : FP.Core.b64.qmax = 971 := by decide
  obtain ⟨c', q', h1, h2⟩ := FP.Core.round_exact FP.Core.good_b64 (decide (n < 0)) (c := n.natAbs) (q := (k : Int) - 1074) (show n.natAbs < 2 ^ 53 by omega) (by rw [FP.Core.qmin_b64]; omega) (by rw [hmax]; omega)
  refine ⟨decide (n < 0), c', q', ?_, ?_⟩
  · rw [← h1]; exact FP.Core.round_fits FP.Core.good_b64 _
  · rw [own_zval_fin, h2]
    unfold FP.Core.inUnits
    rw [show ((k : Int) - 1074 - FP.Core.b64.qmin).toNat = k by rw [FP.Core.qmin_b64]; omega, FP.Core.signed_mul, hP, own_signed_self]
theorem own_rep_U (n : Int) (hn : n.natAbs < 9007199254740992) : own_Rep (n * own_U) := own_rep n 1074 rfl hn (by decide)
/-! own text: ints, longs and branches in plain integers -/
theorem own_h_eq (x : Int32) : (ifCond.holds .eq x = true) ↔ x.toInt = 0 := by
  simp only [ifCond.holds, beq_iff_eq, ← Int32.toInt_inj, Int32.toInt_zero]
theorem own_h_ne (x : Int32) : (ifCond.holds .ne x = true) ↔ x.toInt ≠ 0 := by
  simp only [ifCond.holds, bne_iff_ne, ne_eq, ← Int32.toInt_inj, Int32.toInt_zero]
theorem own_h_lt (x : Int32) : (ifCond.holds .lt x = true) ↔ x.toInt < 0 := by
  simp only [ifCond.holds, decide_eq_true_eq, Int32.lt_iff_toInt_lt, Int32.toInt_zero]
theorem own_h_ge (x : Int32) : (ifCond.holds .ge x = true) ↔ 0 ≤ x.toInt := by
  simp only [ifCond.holds, decide_eq_true_eq, ge_iff_le, Int32.le_iff_toInt_le, Int32.toInt_zero]
theorem own_h_gt (x : Int32) : (ifCond.holds .gt x = true) ↔ 0 < x.toInt := by
  simp only [ifCond.holds, decide_eq_true_eq, gt_iff_lt, Int32.lt_iff_toInt_lt, Int32.toInt_zero]
theorem own_h_le (x : Int32) : (ifCond.holds .le x = true) ↔ x.toInt ≤ 0 := by
  simp only [ifCond.holds, decide_eq_true_eq, Int32.le_iff_toInt_le, Int32.toInt_zero]
theorem own_c_eq (x y : Int32) : (if_icmp.holds .eq x y = true) ↔ x.toInt = y.toInt := by
  simp only [if_icmp.holds, beq_iff_eq, ← Int32.toInt_inj]
theorem own_c_ne (x y : Int32) : (if_icmp.holds .ne x y = true) ↔ x.toInt ≠ y.toInt := by
  simp only [if_icmp.holds, bne_iff_ne, ne_eq, ← Int32.toInt_inj]
theorem own_c_lt (x y : Int32) : (if_icmp.holds .lt x y = true) ↔ x.toInt < y.toInt := by
  simp only [if_icmp.holds, decide_eq_true_eq, Int32.lt_iff_toInt_lt]
theorem own_c_ge (x y : Int32) : (if_icmp.holds .ge x y = true) ↔ y.toInt ≤ x.toInt := by
  simp only [if_icmp.holds, decide_eq_true_eq, ge_iff_le, Int32.le_iff_toInt_le]
theorem own_c_gt (x y : Int32) : (if_icmp.holds .gt x y = true) ↔ y.toInt < x.toInt := by
  simp only [if_icmp.holds, decide_eq_true_eq, gt_iff_lt, Int32.lt_iff_toInt_lt]
theorem own_c_le (x y : Int32) : (if_icmp.holds .le x y = true) ↔ x.toInt ≤ y.toInt := by
  simp only [if_icmp.holds, decide_eq_true_eq, Int32.le_iff_toInt_le]
theorem own_L (x y : Int64) : (XT.cmpL x y).toInt = if y.toInt < x.toInt then 1 else if x.toInt = y.toInt then 0 else -1 := by
  unfold XT.cmpL
  simp only [Int64.lt_iff_toInt_lt, ← Int64.toInt_inj]
  split
  · rfl
  · split <;> rfl
theorem own_f_of {b : Bool} {p : Prop} (h : (b = true) ↔ p) (hp : ¬ p) : b = false := Bool.eq_false_iff.mpr fun q => hp (h.mp q)
theorem own_irem (x y : Int32) : (x - x / y * y).toInt = x.toInt.tmod y.toInt := by
  have a := (x % y).toInt_lt; have b := (x % y).le_toInt
  rw [Int32.toInt_mod] at a b
  rw [Int32.toInt_sub, Int32.toInt_mul, Int32.toInt_div, Int.bmod_mul_bmod, Int.sub_bmod_bmod, Int.mul_comm, ← Int.tmod_def]
  exact Jvm.Kit.bmod32 b a
theorem own_irem_nn {x y : Int32} (hx : 0 ≤ x.toInt) : (x - x / y * y).toInt = x.toInt % y.toInt := by rw [own_irem, Int.tmod_eq_emod_of_nonneg hx]
theorem own_ne0 {y : Int32} (h : y.toInt ≠ 0) : y ≠ 0 := fun q => h (by rw [q]; rfl)
theorem own_ne0L {y : Int64} (h : y.toInt ≠ 0) : y ≠ 0 := fun q => h (by rw [q]; rfl)
theorem own_mask31 (x : Int32) : 0 ≤ (x &&& 2147483647).toInt ∧ (x &&& 2147483647).toInt < 2147483648 := by
  rw [Jvm.Kit.i32_mask x 2147483647 (k := 31) (by decide) (by decide)]
  omega











def lw_q0 (p1 : Int32) (p2 : Int32) (p3 : Int64) (p4 : Int32) (p5 : Int32) (p6 : Int32) : UInt64 := (FP.i2d ((Int32.toInt8 p4).toInt32))
def lw_alpha (p1 : Int32) (p2 : Int32) (p3 : Int64) (p4 : Int32) (p5 : Int32) (p6 : Int32) : UInt64 := (FP.i2d ((Int32.toInt8 (p4 >>> ((8 : Int32) &&& 31))).toInt32))
def lw_beta (p1 : Int32) (p2 : Int32) (p3 : Int64) (p4 : Int32) (p5 : Int32) (p6 : Int32) : UInt64 := (FP.i2d ((Int32.toInt8 (p4 >>> ((16 : Int32) &&& 31))).toInt32))
def lw_rho (p1 : Int32) (p2 : Int32) (p3 : Int64) (p4 : Int32) (p5 : Int32) (p6 : Int32) : UInt64 := (FP.i2d ((Int32.toInt8 (p4 >>> ((24 : Int32) &&& 31))).toInt32))
def lw_pres (p1 : Int32) (p2 : Int32) (p3 : Int64) (p4 : Int32) (p5 : Int32) (p6 : Int32) : UInt64 := (FP.i2d p5)
def lw_np (p1 : Int32) (p2 : Int32) (p3 : Int64) (p4 : Int32) (p5 : Int32) (p6 : Int32) : UInt64 := (FP.i2d p6)
theorem own_dd {x : UInt64} (h : Jvm.Free.Fl.NoNaN64 x) (o : CmpOp) : ifCond.holds .ne (cmpValue (FP.dcmp x x) o) = false := by rw [dcmpV_self h o]; decide
theorem own_ie (x : Int32) : if_icmp.holds .ne x x = false := own_f_of (own_c_ne _ _) (fun h => h rfl)
theorem own_ll (x : Int64) : ifCond.holds .ne (XT.cmpL x x) = false := by
  refine own_f_of (own_h_ne _) (fun h => h ?_)
  rw [own_L, if_neg (by omega), if_pos rfl]
theorem d1_0 : decode prog_8_method_1_code 0 = .ok (.aload_n 0, 1) := by decide +kernel
theorem d1_1 : decode prog_8_method_1_code 1 = .ok (.invokespecial 1, 3) := by decide +kernel
theorem d1_4 : decode prog_8_method_1_code 4 = .ok (.aload_n 0, 1) := by decide +kernel
theorem d1_5 : decode prog_8_method_1_code 5 = .ok (.iload_n 1, 1) := by decide +kernel
theorem d1_6 : decode prog_8_method_1_code 6 = .ok (.putfield 7, 3) := by decide +kernel
theorem d1_9 : decode prog_8_method_1_code 9 = .ok (.aload_n 0, 1) := by decide +kernel
theorem d1_10 : decode prog_8_method_1_code 10 = .ok (.dload_n 2, 1) := by decide +kernel
theorem d1_11 : decode prog_8_method_1_code 11 = .ok (.putfield 13, 3) := by decide +kernel
theorem d1_14 : decode prog_8_method_1_code 14 = .ok (.aload_n 0, 1) := by decide +kernel
theorem d1_15 : decode prog_8_method_1_code 15 = .ok (.dload 4, 2) := by decide +kernel
theorem d1_17 : decode prog_8_method_1_code 17 = .ok (.putfield 17, 3) := by decide +kernel
theorem d1_20 : decode prog_8_method_1_code 20 = .ok (.aload_n 0, 1) := by decide +kernel
theorem d1_21 : decode prog_8_method_1_code 21 = .ok (.dload 6, 2) := by decide +kernel
theorem d1_23 : decode prog_8_method_1_code 23 = .ok (.putfield 20, 3) := by decide +kernel
theorem d1_26 : decode prog_8_method_1_code 26 = .ok (.aload_n 0, 1) := by decide +kernel
theorem d1_27 : decode prog_8_method_1_code 27 = .ok (.dload 8, 2) := by decide +kernel
theorem d1_29 : decode prog_8_method_1_code 29 = .ok (.putfield 23, 3) := by decide +kernel
theorem d1_32 : decode prog_8_method_1_code 32 = .ok (.aload_n 0, 1) := by decide +kernel
theorem d1_33 : decode prog_8_method_1_code 33 = .ok (.iload 10, 2) := by decide +kernel
theorem d1_35 : decode prog_8_method_1_code 35 = .ok (.putfield 26, 3) := by decide +kernel
theorem d1_38 : decode prog_8_method_1_code 38 = .ok (.aload_n 0, 1) := by decide +kernel
theorem d1_39 : decode prog_8_method_1_code 39 = .ok (.dload 11, 2) := by decide +kernel
theorem d1_41 : decode prog_8_method_1_code 41 = .ok (.putfield 29, 3) := by decide +kernel
theorem d1_44 : decode prog_8_method_1_code 44 = .ok (.aload_n 0, 1) := by decide +kernel
theorem d1_45 : decode prog_8_method_1_code 45 = .ok (.lload 13, 2) := by decide +kernel
theorem d1_47 : decode prog_8_method_1_code 47 = .ok (.putfield 32, 3) := by decide +kernel
theorem d1_50 : decode prog_8_method_1_code 50 = .ok (.return_, 1) := by decide +kernel
theorem d2_0 : decode jdk_30_method_1_code 0 = .ok (.aload_n 0, 1) := by decide +kernel
theorem d2_1 : decode jdk_30_method_1_code 1 = .ok (.invokespecial 1, 3) := by decide +kernel
theorem d2_4 : decode jdk_30_method_1_code 4 = .ok (.return_, 1) := by decide +kernel
theorem d4_0 : decode prog_8_method_2_code 0 = .ok (.new 8, 3) := by decide +kernel
theorem d4_3 : decode prog_8_method_2_code 3 = .ok (.dup, 1) := by decide +kernel
theorem d4_4 : decode prog_8_method_2_code 4 = .ok (.aload_n 0, 1) := by decide +kernel
theorem d4_5 : decode prog_8_method_2_code 5 = .ok (.getfield 7, 3) := by decide +kernel
theorem d4_8 : decode prog_8_method_2_code 8 = .ok (.aload_n 0, 1) := by decide +kernel
theorem d4_9 : decode prog_8_method_2_code 9 = .ok (.getfield 13, 3) := by decide +kernel
theorem d4_12 : decode prog_8_method_2_code 12 = .ok (.aload_n 0, 1) := by decide +kernel
theorem d4_13 : decode prog_8_method_2_code 13 = .ok (.getfield 17, 3) := by decide +kernel
theorem d4_16 : decode prog_8_method_2_code 16 = .ok (.aload_n 0, 1) := by decide +kernel
theorem d4_17 : decode prog_8_method_2_code 17 = .ok (.getfield 20, 3) := by decide +kernel
theorem d4_20 : decode prog_8_method_2_code 20 = .ok (.aload_n 0, 1) := by decide +kernel
theorem d4_21 : decode prog_8_method_2_code 21 = .ok (.getfield 23, 3) := by decide +kernel
theorem d4_24 : decode prog_8_method_2_code 24 = .ok (.aload_n 0, 1) := by decide +kernel
theorem d4_25 : decode prog_8_method_2_code 25 = .ok (.getfield 26, 3) := by decide +kernel
theorem d4_28 : decode prog_8_method_2_code 28 = .ok (.dload_n 1, 1) := by decide +kernel
theorem d4_29 : decode prog_8_method_2_code 29 = .ok (.aload_n 0, 1) := by decide +kernel
theorem d4_30 : decode prog_8_method_2_code 30 = .ok (.getfield 32, 3) := by decide +kernel
theorem d4_33 : decode prog_8_method_2_code 33 = .ok (.invokespecial 36, 3) := by decide +kernel
theorem d4_36 : decode prog_8_method_2_code 36 = .ok (.areturn, 1) := by decide +kernel
theorem d5_0 : decode prog_8_method_6_code 0 = .ok (.aload_n 0, 1) := by decide +kernel
theorem d5_1 : decode prog_8_method_6_code 1 = .ok (.getfield 7, 3) := by decide +kernel
theorem d5_4 : decode prog_8_method_6_code 4 = .ok (.ireturn, 1) := by decide +kernel
theorem d6_0 : decode prog_8_method_7_code 0 = .ok (.aload_n 0, 1) := by decide +kernel
theorem d6_1 : decode prog_8_method_7_code 1 = .ok (.getfield 13, 3) := by decide +kernel
theorem d6_4 : decode prog_8_method_7_code 4 = .ok (.dreturn, 1) := by decide +kernel
theorem d7_0 : decode prog_8_method_8_code 0 = .ok (.aload_n 0, 1) := by decide +kernel
theorem d7_1 : decode prog_8_method_8_code 1 = .ok (.getfield 17, 3) := by decide +kernel
theorem d7_4 : decode prog_8_method_8_code 4 = .ok (.dreturn, 1) := by decide +kernel
theorem d8_0 : decode prog_8_method_9_code 0 = .ok (.aload_n 0, 1) := by decide +kernel
theorem d8_1 : decode prog_8_method_9_code 1 = .ok (.getfield 20, 3) := by decide +kernel
theorem d8_4 : decode prog_8_method_9_code 4 = .ok (.dreturn, 1) := by decide +kernel
theorem d9_0 : decode prog_8_method_10_code 0 = .ok (.aload_n 0, 1) := by decide +kernel
theorem d9_1 : decode prog_8_method_10_code 1 = .ok (.getfield 23, 3) := by decide +kernel
theorem d9_4 : decode prog_8_method_10_code 4 = .ok (.dreturn, 1) := by decide +kernel
theorem d10_0 : decode prog_8_method_11_code 0 = .ok (.aload_n 0, 1) := by decide +kernel
theorem d10_1 : decode prog_8_method_11_code 1 = .ok (.getfield 26, 3) := by decide +kernel
theorem d10_4 : decode prog_8_method_11_code 4 = .ok (.ireturn, 1) := by decide +kernel
theorem d11_0 : decode prog_8_method_13_code 0 = .ok (.aload_n 0, 1) := by decide +kernel
theorem d11_1 : decode prog_8_method_13_code 1 = .ok (.getfield 32, 3) := by decide +kernel
theorem d11_4 : decode prog_8_method_13_code 4 = .ok (.lreturn, 1) := by decide +kernel
theorem d12_0 : decode prog_8_method_12_code 0 = .ok (.aload_n 0, 1) := by decide +kernel
theorem d12_1 : decode prog_8_method_12_code 1 = .ok (.getfield 29, 3) := by decide +kernel
theorem d12_4 : decode prog_8_method_12_code 4 = .ok (.dreturn, 1) := by decide +kernel
theorem pn_0 : plainName "java/lang/Record" = true := by first | (simp [plainName, overriddenIn]; done) | decide +kernel
theorem pn_1 : plainName "com/example/trailhive/trailhive/Colony$Settings" = true := by first | (simp [plainName, overriddenIn]; done) | decide +kernel
theorem pn_2 : plainName "com/example/trailhive/trailhive/SettingsWithPreservePinLaw" = true := by first | (simp [plainName, overriddenIn]; done) | decide +kernel
theorem pd_0 : parseMethodDescriptor "()V" = some ⟨[], none⟩ := by decide +kernel
theorem pd_1 : parseMethodDescriptor "(IDDDDIDJ)V" = some ⟨[.int, .double, .double, .double, .double, .int, .double, .long], none⟩ := by decide +kernel
theorem pd_2 : parseMethodDescriptor "(D)Lcom/example/trailhive/trailhive/Colony$Settings;" = some ⟨[.double], some (.object "com/example/trailhive/trailhive/Colony$Settings")⟩ := by decide +kernel
theorem pd_3 : parseMethodDescriptor "()I" = some ⟨[], some .int⟩ := by decide +kernel
theorem pd_4 : parseMethodDescriptor "()D" = some ⟨[], some .double⟩ := by decide +kernel
theorem pd_5 : parseMethodDescriptor "()J" = some ⟨[], some .long⟩ := by decide +kernel
theorem ef_rc (m : MethodId) (a1 : Addr) : entryFrame m #[(.ref a1)] 1 = (mkF m 0 #[.val (.ref a1)] []) := by first | (simp [entryFrame, mkF, argsToLocals, Value.category]; done) | rfl
def Q_rc (Z : State) (a1 : Addr)  (h0 : Heap) (n0 : Nat) (v : Option Value) (h : Heap) (L : List Loc) : Prop := v = none ∧ Fr n0 L ∧ h = h0
set_option maxRecDepth 65536 in
set_option maxHeartbeats 40000000 in
theorem rm_rc (l : Launch) (Z : State) (a0 : Array Value) (hw : ∀ d ∈ tables_1, d.before a0 Z = true) (ws : List Jvm.Cond) (a1 : Addr)  (h0 : Heap) (n0 : Nat) (Z0 : n0 ≤ h0.size)    :
    MetFree l (⟨"java/lang/Record", "<init>", "()V"⟩ : MethodName) (head1 (Jvm.Cond.code (⟨"java/lang/Record", "<init>", "()V"⟩ : MethodName) jdk_30_method_1_code 1 none :: ws) ({ frames := 1, cells := 0, slots := 0, locals := 12 } : Room)) (fun a U => a = #[(.ref a1)] ∧ Z.Warmed39 U.vm ∧ U.heap = h0) (fun _ _ _ _ _ => True) (fun _ U o U' => ∃ v L, o = .returned v ∧ Q_rc Z a1  h0 n0 v U'.heap L ∧ FrameEnd U o U' L ({ frames := 1, cells := 0, slots := 0, locals := 12 } : Room).cells ({ frames := 1, cells := 0, slots := 0, locals := 12 } : Room).slots) := by
  refine MetFree.of_bodySF (plainFor_of_name pn_0) hisR ?_
  intro p e s m args below meth c s₁ Bd hml0 hP hK
  obtain ⟨rfl, hZ, hh⟩ := hP
  have hx := Bd.exec
  have hby := Bd.bytes
  have hml : c.maxLocals = 1 := hml0
  have hown : s.vm.findClass "java/lang/Record" = some m.cls := findClass_of_methodNamed Bd.named
  have hnm := (name_of_methodNamed Bd.named Bd.method).1
  have X0 : Stand p l e ({ frames := 1, cells := 0, slots := 0, locals := 12 } : Room) s m #[(.ref a1)] below meth c s₁ [] 0 0 := Stand.of_body Bd
  have e0 : s₁.heap = h0 := by rw [← hh, Bd.state]; rfl
  have N0 := Fr.nil n0
  have pre0 : ∀ t, Steps p.tables e below (s₁.setTop (mkF m 0 #[.val (.ref a1)] [])) t → Steps p.tables e below (s₁.setTop (entryFrame m #[(.ref a1)] 1)) t := fun t k => castTop (ef_rc m a1) k
  obtain ⟨T1, X1, e1, st1⟩ := initO X0 hx hZ hown (hw _ (List.mem_of_getElem? (i := 11) rfl)) (hw _ (List.mem_of_getElem? (i := 12) rfl)) (hw _ (List.mem_of_getElem? (i := 13) rfl)) e0 (g := (mkF m 1 #[.val (.ref a1)] [(.ref a1)])) rfl (by rw [hml]; rfl) rfl (hb hby d2_1) (by decide) (W := 0) (by show 2 * 0 + _ ≤ _; exact Nat.le_of_eq rfl) (by decide)
  obtain ⟨fs, hr, hrun, hended, hW, hsame⟩ := X1.leave (v := none) (fun _ => rfl)
  refine ⟨_, _, pre0 _ ?_, hrun, hended, _, _, rfl, ?_, ⟨_, rfl⟩, hW, hsame.mono (Nat.le_of_ble_eq_true rfl) (Nat.le_of_ble_eq_true rfl)⟩
  · show Steps p.tables e below (s₁.setTop (mkF m 0 #[.val (.ref a1)] [])) _
    refine XS.aloadN X0.here hx rfl (hb hby d2_0) rfl rfl ?_
    show Steps p.tables e below (s₁.setTop (mkF m 1 #[.val (.ref a1)] [(.ref a1)])) _
    refine st1 _ ?_
    show Steps p.tables e below (T1.setTop (mkF m 4 #[.val (.ref a1)] [])) _
    exact X1.returnOut hx Bd.returns (hb hby d2_4) hr
  · show Q_rc Z a1  h0 n0 _ T1.heap _
    exact ⟨rfl, N0, e1⟩
theorem ef_ini (m : MethodId) (a1 : Addr) (i1 : Int32) (d1 : UInt64) (d2 : UInt64) (d3 : UInt64) (d4 : UInt64) (i2 : Int32) (d5 : UInt64) (j1 : Int64) : entryFrame m #[(.ref a1), (.int i1), (.double d1), (.double d2), (.double d3), (.double d4), (.int i2), (.double d5), (.long j1)] 15 = (mkF m 0 #[.val (.ref a1), .val (.int i1), .val (.double d1), .second, .val (.double d2), .second, .val (.double d3), .second, .val (.double d4), .second, .val (.int i2), .val (.double d5), .second, .val (.long j1), .second] []) := by first | (simp [entryFrame, mkF, argsToLocals, Value.category]; done) | rfl
def Q_ini (Z : State) (a1 : Addr) (i1 : Int32) (d1 : UInt64) (d2 : UInt64) (d3 : UInt64) (d4 : UInt64) (i2 : Int32) (d5 : UInt64) (j1 : Int64)  (h0 : Heap) (n0 : Nat) (v : Option Value) (h : Heap) (L : List Loc) : Prop := v = none ∧ Fr n0 L ∧ Keep h0 h [a1] ∧ (Exa Z h a1 "com/example/trailhive/trailhive/Colony$Settings") ∧ (Fld Z h a1 "com/example/trailhive/trailhive/Colony$Settings" "ants" "I" (.int i1)) ∧ (Fld Z h a1 "com/example/trailhive/trailhive/Colony$Settings" "q0" "D" (.double d1)) ∧ (Fld Z h a1 "com/example/trailhive/trailhive/Colony$Settings" "alpha" "D" (.double d2)) ∧ (Fld Z h a1 "com/example/trailhive/trailhive/Colony$Settings" "beta" "D" (.double d3)) ∧ (Fld Z h a1 "com/example/trailhive/trailhive/Colony$Settings" "rho" "D" (.double d4)) ∧ (Fld Z h a1 "com/example/trailhive/trailhive/Colony$Settings" "candidates" "I" (.int i2)) ∧ (Fld Z h a1 "com/example/trailhive/trailhive/Colony$Settings" "preserve" "D" (.double d5)) ∧ (Fld Z h a1 "com/example/trailhive/trailhive/Colony$Settings" "seed" "J" (.long j1))
set_option maxRecDepth 65536 in
set_option maxHeartbeats 40000000 in
theorem rm_ini (l : Launch) (Z : State) (a0 : Array Value) (hw : ∀ d ∈ tables_1, d.before a0 Z = true) (ws : List Jvm.Cond) (a1 : Addr) (i1 : Int32) (d1 : UInt64) (d2 : UInt64) (d3 : UInt64) (d4 : UInt64) (i2 : Int32) (d5 : UInt64) (j1 : Int64)  (h0 : Heap) (n0 : Nat) (Z0 : n0 ≤ h0.size) (k0_ : Fld Z h0 a1 "com/example/trailhive/trailhive/Colony$Settings" "ants" "I" (.int (0 : Int32))) (k1_ : Fld Z h0 a1 "com/example/trailhive/trailhive/Colony$Settings" "q0" "D" (.double (0 : UInt64))) (k2_ : Fld Z h0 a1 "com/example/trailhive/trailhive/Colony$Settings" "alpha" "D" (.double (0 : UInt64))) (k3_ : Fld Z h0 a1 "com/example/trailhive/trailhive/Colony$Settings" "beta" "D" (.double (0 : UInt64))) (k4_ : Fld Z h0 a1 "com/example/trailhive/trailhive/Colony$Settings" "rho" "D" (.double (0 : UInt64))) (k5_ : Fld Z h0 a1 "com/example/trailhive/trailhive/Colony$Settings" "candidates" "I" (.int (0 : Int32))) (k6_ : Fld Z h0 a1 "com/example/trailhive/trailhive/Colony$Settings" "preserve" "D" (.double (0 : UInt64))) (k7_ : Fld Z h0 a1 "com/example/trailhive/trailhive/Colony$Settings" "seed" "J" (.long (0 : Int64))) (k8_ : Exa Z h0 a1 "com/example/trailhive/trailhive/Colony$Settings") (k9_ : n0 ≤ a1)   :
    MetFree l (⟨"com/example/trailhive/trailhive/Colony$Settings", "<init>", "(IDDDDIDJ)V"⟩ : MethodName) (head1 (Jvm.Cond.code (⟨"com/example/trailhive/trailhive/Colony$Settings", "<init>", "(IDDDDIDJ)V"⟩ : MethodName) prog_8_method_1_code 15 none :: ws) ({ frames := 2, cells := 0, slots := 0, locals := 24 } : Room)) (fun a U => a = #[(.ref a1), (.int i1), (.double d1), (.double d2), (.double d3), (.double d4), (.int i2), (.double d5), (.long j1)] ∧ Z.Warmed39 U.vm ∧ U.heap = h0) (fun _ _ _ _ _ => True) (fun _ U o U' => ∃ v L, o = .returned v ∧ Q_ini Z a1 i1 d1 d2 d3 d4 i2 d5 j1  h0 n0 v U'.heap L ∧ FrameEnd U o U' L ({ frames := 2, cells := 0, slots := 0, locals := 24 } : Room).cells ({ frames := 2, cells := 0, slots := 0, locals := 24 } : Room).slots) := by
  refine MetFree.of_bodySF (plainFor_of_name pn_1) hisR ?_
  intro p e s m args below meth c s₁ Bd hml0 hP hK
  obtain ⟨rfl, hZ, hh⟩ := hP
  have hx := Bd.exec
  have hby := Bd.bytes
  have hml : c.maxLocals = 15 := hml0
  have hown : s.vm.findClass "com/example/trailhive/trailhive/Colony$Settings" = some m.cls := findClass_of_methodNamed Bd.named
  have hnm := (name_of_methodNamed Bd.named Bd.method).1
  have X0 : Stand p l e ({ frames := 2, cells := 0, slots := 0, locals := 24 } : Room) s m #[(.ref a1), (.int i1), (.double d1), (.double d2), (.double d3), (.double d4), (.int i2), (.double d5), (.long j1)] below meth c s₁ [] 0 0 := Stand.of_body Bd
  have e0 : s₁.heap = h0 := by rw [← hh, Bd.state]; rfl
  have N0 := Fr.nil n0
  have pre0 : ∀ t, Steps p.tables e below (s₁.setTop (mkF m 0 #[.val (.ref a1), .val (.int i1), .val (.double d1), .second, .val (.double d2), .second, .val (.double d3), .second, .val (.double d4), .second, .val (.int i2), .val (.double d5), .second, .val (.long j1), .second] [])) t → Steps p.tables e below (s₁.setTop (entryFrame m #[(.ref a1), (.int i1), (.double d1), (.double d2), (.double d3), (.double d4), (.int i2), (.double d5), (.long j1)] 15)) t := fun t k => castTop (ef_ini m a1 i1 d1 d2 d3 d4 i2 d5 j1) k
  have K0 := Keep.refl h0 [a1]
  obtain ⟨_, _, ⟨T1, L1, k1, n1⟩, -, X1, ⟨Lc1, hQ1, l1, y1, z1⟩, st1⟩ := X0.specialBack hx (y := (⟨"java/lang/Record", "<init>", "()V"⟩ : MethodName)) rfl hown (mvT hZ (hw _ (List.mem_of_getElem? (i := 6) rfl))) (mvT hZ (hw _ (List.mem_of_getElem? (i := 7) rfl))) (mvT hZ (hw _ (List.mem_of_getElem? (i := 10) rfl))) (by decide) (backOf (W := 0) (rm_rc l Z a0 hw [] a1  (h0) n0 Z0  ) hZ (hw _ (List.mem_of_getElem? (i := 10) rfl)) (hw _ (List.mem_of_getElem? (i := 9) rfl)) (by decide) (by decide)) (g := (mkF m 1 #[.val (.ref a1), .val (.int i1), .val (.double d1), .second, .val (.double d2), .second, .val (.double d3), .second, .val (.double d4), .second, .val (.int i2), .val (.double d5), .second, .val (.long j1), .second] [(.ref a1)])) rfl (by rw [hml]; rfl) (Steps.refl _) (a := a1) (argsL := []) (rest := []) (lenOf pd_0 rfl) rfl (by show 2 * 0 + _ ≤ _; exact Nat.le_of_eq rfl) (hb hby d1_1) (fun _ _ => ⟨rfl, e0, (by decide : 0 + 0 ≤ _), (by decide : 0 + 0 ≤ _)⟩)
  dsimp only [Pt.U, Pt.locs, Pt.cells, Pt.slots] at X1 l1 y1 z1 st1 hQ1
  subst l1 y1 z1
  obtain ⟨rfl, N1, e1⟩ := hQ1
  have Nn1 := Fr.app N0 N1
  obtain ⟨T2, h2, X2, e2, W2, st2⟩ := putF X1 hx hZ hown (host := "") (Or.inl (hw _ (List.mem_of_getElem? (i := 14) rfl))) Via.refl e1 k0_ k8_ (Or.inr ⟨(hw _ (List.mem_of_getElem? (i := 15) rfl)), rfl, hnm⟩) (hw _ (List.mem_of_getElem? (i := 1) rfl)) (ty := .int) (by decide) rfl rfl (g := (mkF m 6 #[.val (.ref a1), .val (.int i1), .val (.double d1), .second, .val (.double d2), .second, .val (.double d3), .second, .val (.double d4), .second, .val (.int i2), .val (.double d5), .second, .val (.long j1), .second] [(.int i1), (.ref a1)])) rfl rfl (hb hby d1_6)
  have Nn2 := Fr.snoc X2 Nn1 k9_
  have q3 : Fld Z h2 a1 "com/example/trailhive/trailhive/Colony$Settings" "q0" "D" (.double (0 : UInt64)) := (k1_.other W2 (Or.inr (slot_ne (a0 := a0) (C := "com/example/trailhive/trailhive/Colony$Settings") (Or.inr (hw _ (List.mem_of_getElem? (i := 17) rfl))) (Or.inr (hw _ (List.mem_of_getElem? (i := 15) rfl))) (by decide) (t := .double) (t' := .int) (by decide) (by decide))))
  have q4 : Fld Z h2 a1 "com/example/trailhive/trailhive/Colony$Settings" "alpha" "D" (.double (0 : UInt64)) := (k2_.other W2 (Or.inr (slot_ne (a0 := a0) (C := "com/example/trailhive/trailhive/Colony$Settings") (Or.inr (hw _ (List.mem_of_getElem? (i := 19) rfl))) (Or.inr (hw _ (List.mem_of_getElem? (i := 15) rfl))) (by decide) (t := .double) (t' := .int) (by decide) (by decide))))
  have q5 : Fld Z h2 a1 "com/example/trailhive/trailhive/Colony$Settings" "beta" "D" (.double (0 : UInt64)) := (k3_.other W2 (Or.inr (slot_ne (a0 := a0) (C := "com/example/trailhive/trailhive/Colony$Settings") (Or.inr (hw _ (List.mem_of_getElem? (i := 21) rfl))) (Or.inr (hw _ (List.mem_of_getElem? (i := 15) rfl))) (by decide) (t := .double) (t' := .int) (by decide) (by decide))))
  have q6 : Fld Z h2 a1 "com/example/trailhive/trailhive/Colony$Settings" "rho" "D" (.double (0 : UInt64)) := (k4_.other W2 (Or.inr (slot_ne (a0 := a0) (C := "com/example/trailhive/trailhive/Colony$Settings") (Or.inr (hw _ (List.mem_of_getElem? (i := 23) rfl))) (Or.inr (hw _ (List.mem_of_getElem? (i := 15) rfl))) (by decide) (t := .double) (t' := .int) (by decide) (by decide))))
  have q7 : Fld Z h2 a1 "com/example/trailhive/trailhive/Colony$Settings" "candidates" "I" (.int (0 : Int32)) := (k5_.other W2 (Or.inr (slot_ne (a0 := a0) (C := "com/example/trailhive/trailhive/Colony$Settings") (Or.inr (hw _ (List.mem_of_getElem? (i := 25) rfl))) (Or.inr (hw _ (List.mem_of_getElem? (i := 15) rfl))) (by decide) (t := .int) (t' := .int) (by decide) (by decide))))
  have q8 : Fld Z h2 a1 "com/example/trailhive/trailhive/Colony$Settings" "preserve" "D" (.double (0 : UInt64)) := (k6_.other W2 (Or.inr (slot_ne (a0 := a0) (C := "com/example/trailhive/trailhive/Colony$Settings") (Or.inr (hw _ (List.mem_of_getElem? (i := 27) rfl))) (Or.inr (hw _ (List.mem_of_getElem? (i := 15) rfl))) (by decide) (t := .double) (t' := .int) (by decide) (by decide))))
  have q9 : Fld Z h2 a1 "com/example/trailhive/trailhive/Colony$Settings" "seed" "J" (.long (0 : Int64)) := (k7_.other W2 (Or.inr (slot_ne (a0 := a0) (C := "com/example/trailhive/trailhive/Colony$Settings") (Or.inr (hw _ (List.mem_of_getElem? (i := 29) rfl))) (Or.inr (hw _ (List.mem_of_getElem? (i := 15) rfl))) (by decide) (t := .long) (t' := .int) (by decide) (by decide))))
  have q10 : Exa Z h2 a1 "com/example/trailhive/trailhive/Colony$Settings" := (k8_.wr W2)
  have q2n : Fld Z h2 a1 "com/example/trailhive/trailhive/Colony$Settings" "ants" "I" (.int i1) := (k0_.same W2)
  have K2 := K0.wr W2 (Or.inl (List.mem_of_getElem? (i := 0) rfl))
  have Z2 : n0 ≤ h2.size := Nat.le_trans Z0 (Keep.of_wr W2).1
  obtain ⟨T11, h11, X11, e11, W11, st11⟩ := putF X2 hx hZ hown (host := "") (Or.inl (hw _ (List.mem_of_getElem? (i := 16) rfl))) Via.refl e2 q3 q10 (Or.inr ⟨(hw _ (List.mem_of_getElem? (i := 17) rfl)), rfl, hnm⟩) (hw _ (List.mem_of_getElem? (i := 1) rfl)) (ty := .double) (by decide) rfl rfl (g := (mkF m 11 #[.val (.ref a1), .val (.int i1), .val (.double d1), .second, .val (.double d2), .second, .val (.double d3), .second, .val (.double d4), .second, .val (.int i2), .val (.double d5), .second, .val (.long j1), .second] [(.double d1), (.ref a1)])) rfl rfl (hb hby d1_11)
  have Nn11 := Fr.snoc X11 Nn2 k9_
  have q12 : Fld Z h11 a1 "com/example/trailhive/trailhive/Colony$Settings" "alpha" "D" (.double (0 : UInt64)) := (q4.other W11 (Or.inr (slot_ne (a0 := a0) (C := "com/example/trailhive/trailhive/Colony$Settings") (Or.inr (hw _ (List.mem_of_getElem? (i := 19) rfl))) (Or.inr (hw _ (List.mem_of_getElem? (i := 17) rfl))) (by decide) (t := .double) (t' := .double) (by decide) (by decide))))
  have q13 : Fld Z h11 a1 "com/example/trailhive/trailhive/Colony$Settings" "beta" "D" (.double (0 : UInt64)) := (q5.other W11 (Or.inr (slot_ne (a0 := a0) (C := "com/example/trailhive/trailhive/Colony$Settings") (Or.inr (hw _ (List.mem_of_getElem? (i := 21) rfl))) (Or.inr (hw _ (List.mem_of_getElem? (i := 17) rfl))) (by decide) (t := .double) (t' := .double) (by decide) (by decide))))
  have q14 : Fld Z h11 a1 "com/example/trailhive/trailhive/Colony$Settings" "rho" "D" (.double (0 : UInt64)) := (q6.other W11 (Or.inr (slot_ne (a0 := a0) (C := "com/example/trailhive/trailhive/Colony$Settings") (Or.inr (hw _ (List.mem_of_getElem? (i := 23) rfl))) (Or.inr (hw _ (List.mem_of_getElem? (i := 17) rfl))) (by decide) (t := .double) (t' := .double) (by decide) (by decide))))
  have q15 : Fld Z h11 a1 "com/example/trailhive/trailhive/Colony$Settings" "candidates" "I" (.int (0 : Int32)) := (q7.other W11 (Or.inr (slot_ne (a0 := a0) (C := "com/example/trailhive/trailhive/Colony$Settings") (Or.inr (hw _ (List.mem_of_getElem? (i := 25) rfl))) (Or.inr (hw _ (List.mem_of_getElem? (i := 17) rfl))) (by decide) (t := .int) (t' := .double) (by decide) (by decide))))
  have q16 : Fld Z h11 a1 "com/example/trailhive/trailhive/Colony$Settings" "preserve" "D" (.double (0 : UInt64)) := (q8.other W11 (Or.inr (slot_ne (a0 := a0) (C := "com/example/trailhive/trailhive/Colony$Settings") (Or.inr (hw _ (List.mem_of_getElem? (i := 27) rfl))) (Or.inr (hw _ (List.mem_of_getElem? (i := 17) rfl))) (by decide) (t := .double) (t' := .double) (by decide) (by decide))))
  have q17 : Fld Z h11 a1 "com/example/trailhive/trailhive/Colony$Settings" "seed" "J" (.long (0 : Int64)) := (q9.other W11 (Or.inr (slot_ne (a0 := a0) (C := "com/example/trailhive/trailhive/Colony$Settings") (Or.inr (hw _ (List.mem_of_getElem? (i := 29) rfl))) (Or.inr (hw _ (List.mem_of_getElem? (i := 17) rfl))) (by decide) (t := .long) (t' := .double) (by decide) (by decide))))
  have q18 : Exa Z h11 a1 "com/example/trailhive/trailhive/Colony$Settings" := (q10.wr W11)
  have q19 : Fld Z h11 a1 "com/example/trailhive/trailhive/Colony$Settings" "ants" "I" (.int i1) := (q2n.other W11 (Or.inr (slot_ne (a0 := a0) (C := "com/example/trailhive/trailhive/Colony$Settings") (Or.inr (hw _ (List.mem_of_getElem? (i := 15) rfl))) (Or.inr (hw _ (List.mem_of_getElem? (i := 17) rfl))) (by decide) (t := .int) (t' := .double) (by decide) (by decide))))
  have q11n : Fld Z h11 a1 "com/example/trailhive/trailhive/Colony$Settings" "q0" "D" (.double d1) := (q3.same W11)
  have K11 := K2.wr W11 (Or.inl (List.mem_of_getElem? (i := 0) rfl))
  have Z11 : n0 ≤ h11.size := Nat.le_trans Z2 (Keep.of_wr W11).1
  obtain ⟨T20, h20, X20, e20, W20, st20⟩ := putF X11 hx hZ hown (host := "") (Or.inl (hw _ (List.mem_of_getElem? (i := 18) rfl))) Via.refl e11 q12 q18 (Or.inr ⟨(hw _ (List.mem_of_getElem? (i := 19) rfl)), rfl, hnm⟩) (hw _ (List.mem_of_getElem? (i := 1) rfl)) (ty := .double) (by decide) rfl rfl (g := (mkF m 17 #[.val (.ref a1), .val (.int i1), .val (.double d1), .second, .val (.double d2), .second, .val (.double d3), .second, .val (.double d4), .second, .val (.int i2), .val (.double d5), .second, .val (.long j1), .second] [(.double d2), (.ref a1)])) rfl rfl (hb hby d1_17)
  have Nn20 := Fr.snoc X20 Nn11 k9_
  have q21 : Fld Z h20 a1 "com/example/trailhive/trailhive/Colony$Settings" "beta" "D" (.double (0 : UInt64)) := (q13.other W20 (Or.inr (slot_ne (a0 := a0) (C := "com/example/trailhive/trailhive/Colony$Settings") (Or.inr (hw _ (List.mem_of_getElem? (i := 21) rfl))) (Or.inr (hw _ (List.mem_of_getElem? (i := 19) rfl))) (by decide) (t := .double) (t' := .double) (by decide) (by decide))))
  have q22 : Fld Z h20 a1 "com/example/trailhive/trailhive/Colony$Settings" "rho" "D" (.double (0 : UInt64)) := (q14.other W20 (Or.inr (slot_ne (a0 := a0) (C := "com/example/trailhive/trailhive/Colony$Settings") (Or.inr (hw _ (List.mem_of_getElem? (i := 23) rfl))) (Or.inr (hw _ (List.mem_of_getElem? (i := 19) rfl))) (by decide) (t := .double) (t' := .double) (by decide) (by decide))))
  have q23 : Fld Z h20 a1 "com/example/trailhive/trailhive/Colony$Settings" "candidates" "I" (.int (0 : Int32)) := (q15.other W20 (Or.inr (slot_ne (a0 := a0) (C := "com/example/trailhive/trailhive/Colony$Settings") (Or.inr (hw _ (List.mem_of_getElem? (i := 25) rfl))) (Or.inr (hw _ (List.mem_of_getElem? (i := 19) rfl))) (by decide) (t := .int) (t' := .double) (by decide) (by decide))))
  have q24 : Fld Z h20 a1 "com/example/trailhive/trailhive/Colony$Settings" "preserve" "D" (.double (0 : UInt64)) := (q16.other W20 (Or.inr (slot_ne (a0 := a0) (C := "com/example/trailhive/trailhive/Colony$Settings") (Or.inr (hw _ (List.mem_of_getElem? (i := 27) rfl))) (Or.inr (hw _ (List.mem_of_getElem? (i := 19) rfl))) (by decide) (t := .double) (t' := .double) (by decide) (by decide))))
  have q25 : Fld Z h20 a1 "com/example/trailhive/trailhive/Colony$Settings" "seed" "J" (.long (0 : Int64)) := (q17.other W20 (Or.inr (slot_ne (a0 := a0) (C := "com/example/trailhive/trailhive/Colony$Settings") (Or.inr (hw _ (List.mem_of_getElem? (i := 29) rfl))) (Or.inr (hw _ (List.mem_of_getElem? (i := 19) rfl))) (by decide) (t := .long) (t' := .double) (by decide) (by decide))))
  have q26 : Exa Z h20 a1 "com/example/trailhive/trailhive/Colony$Settings" := (q18.wr W20)
  have q27 : Fld Z h20 a1 "com/example/trailhive/trailhive/Colony$Settings" "ants" "I" (.int i1) := (q19.other W20 (Or.inr (slot_ne (a0 := a0) (C := "com/example/trailhive/trailhive/Colony$Settings") (Or.inr (hw _ (List.mem_of_getElem? (i := 15) rfl))) (Or.inr (hw _ (List.mem_of_getElem? (i := 19) rfl))) (by decide) (t := .int) (t' := .double) (by decide) (by decide))))
  have q28 : Fld Z h20 a1 "com/example/trailhive/trailhive/Colony$Settings" "q0" "D" (.double d1) := (q11n.other W20 (Or.inr (slot_ne (a0 := a0) (C := "com/example/trailhive/trailhive/Colony$Settings") (Or.inr (hw _ (List.mem_of_getElem? (i := 17) rfl))) (Or.inr (hw _ (List.mem_of_getElem? (i := 19) rfl))) (by decide) (t := .double) (t' := .double) (by decide) (by decide))))
  have q20n : Fld Z h20 a1 "com/example/trailhive/trailhive/Colony$Settings" "alpha" "D" (.double d2) := (q12.same W20)
  have K20 := K11.wr W20 (Or.inl (List.mem_of_getElem? (i := 0) rfl))
  have Z20 : n0 ≤ h20.size := Nat.le_trans Z11 (Keep.of_wr W20).1
  obtain ⟨T29, h29, X29, e29, W29, st29⟩ := putF X20 hx hZ hown (host := "") (Or.inl (hw _ (List.mem_of_getElem? (i := 20) rfl))) Via.refl e20 q21 q26 (Or.inr ⟨(hw _ (List.mem_of_getElem? (i := 21) rfl)), rfl, hnm⟩) (hw _ (List.mem_of_getElem? (i := 1) rfl)) (ty := .double) (by decide) rfl rfl (g := (mkF m 23 #[.val (.ref a1), .val (.int i1), .val (.double d1), .second, .val (.double d2), .second, .val (.double d3), .second, .val (.double d4), .second, .val (.int i2), .val (.double d5), .second, .val (.long j1), .second] [(.double d3), (.ref a1)])) rfl rfl (hb hby d1_23)
  have Nn29 := Fr.snoc X29 Nn20 k9_
  have q30 : Fld Z h29 a1 "com/example/trailhive/trailhive/Colony$Settings" "rho" "D" (.double (0 : UInt64)) := (q22.other W29 (Or.inr (slot_ne (a0 := a0) (C := "com/example/trailhive/trailhive/Colony$Settings") (Or.inr (hw _ (List.mem_of_getElem? (i := 23) rfl))) (Or.inr (hw _ (List.mem_of_getElem? (i := 21) rfl))) (by decide) (t := .double) (t' := .double) (by decide) (by decide))))
  have q31 : Fld Z h29 a1 "com/example/trailhive/trailhive/Colony$Settings" "candidates" "I" (.int (0 : Int32)) := (q23.other W29 (Or.inr (slot_ne (a0 := a0) (C := "com/example/trailhive/trailhive/Colony$Settings") (Or.inr (hw _ (List.mem_of_getElem? (i := 25) rfl))) (Or.inr (hw _ (List.mem_of_getElem? (i := 21) rfl))) (by decide) (t := .int) (t' := .double) (by decide) (by decide))))
  have q32 : Fld Z h29 a1 "com/example/trailhive/trailhive/Colony$Settings" "preserve" "D" (.double (0 : UInt64)) := (q24.other W29 (Or.inr (slot_ne (a0 := a0) (C := "com/example/trailhive/trailhive/Colony$Settings") (Or.inr (hw _ (List.mem_of_getElem? (i := 27) rfl))) (Or.inr (hw _ (List.mem_of_getElem? (i := 21) rfl))) (by decide) (t := .double) (t' := .double) (by decide) (by decide))))
  have q33 : Fld Z h29 a1 "com/example/trailhive/trailhive/Colony$Settings" "seed" "J" (.long (0 : Int64)) := (q25.other W29 (Or.inr (slot_ne (a0 := a0) (C := "com/example/trailhive/trailhive/Colony$Settings") (Or.inr (hw _ (List.mem_of_getElem? (i := 29) rfl))) (Or.inr (hw _ (List.mem_of_getElem? (i := 21) rfl))) (by decide) (t := .long) (t' := .double) (by decide) (by decide))))
  have q34 : Exa Z h29 a1 "com/example/trailhive/trailhive/Colony$Settings" := (q26.wr W29)
  have q35 : Fld Z h29 a1 "com/example/trailhive/trailhive/Colony$Settings" "ants" "I" (.int i1) := (q27.other W29 (Or.inr (slot_ne (a0 := a0) (C := "com/example/trailhive/trailhive/Colony$Settings") (Or.inr (hw _ (List.mem_of_getElem? (i := 15) rfl))) (Or.inr (hw _ (List.mem_of_getElem? (i := 21) rfl))) (by decide) (t := .int) (t' := .double) (by decide) (by decide))))
  have q36 : Fld Z h29 a1 "com/example/trailhive/trailhive/Colony$Settings" "q0" "D" (.double d1) := (q28.other W29 (Or.inr (slot_ne (a0 := a0) (C := "com/example/trailhive/trailhive/Colony$Settings") (Or.inr (hw _ (List.mem_of_getElem? (i := 17) rfl))) (Or.inr (hw _ (List.mem_of_getElem? (i := 21) rfl))) (by decide) (t := .double) (t' := .double) (by decide) (by decide))))
  have q37 : Fld Z h29 a1 "com/example/trailhive/trailhive/Colony$Settings" "alpha" "D" (.double d2) := (q20n.other W29 (Or.inr (slot_ne (a0 := a0) (C := "com/example/trailhive/trailhive/Colony$Settings") (Or.inr (hw _ (List.mem_of_getElem? (i := 19) rfl))) (Or.inr (hw _ (List.mem_of_getElem? (i := 21) rfl))) (by decide) (t := .double) (t' := .double) (by decide) (by decide))))
  have q29n : Fld Z h29 a1 "com/example/trailhive/trailhive/Colony$Settings" "beta" "D" (.double d3) := (q21.same W29)
  have K29 := K20.wr W29 (Or.inl (List.mem_of_getElem? (i := 0) rfl))
  have Z29 : n0 ≤ h29.size := Nat.le_trans Z20 (Keep.of_wr W29).1
  obtain ⟨T38, h38, X38, e38, W38, st38⟩ := putF X29 hx hZ hown (host := "") (Or.inl (hw _ (List.mem_of_getElem? (i := 22) rfl))) Via.refl e29 q30 q34 (Or.inr ⟨(hw _ (List.mem_of_getElem? (i := 23) rfl)), rfl, hnm⟩) (hw _ (List.mem_of_getElem? (i := 1) rfl)) (ty := .double) (by decide) rfl rfl (g := (mkF m 29 #[.val (.ref a1), .val (.int i1), .val (.double d1), .second, .val (.double d2), .second, .val (.double d3), .second, .val (.double d4), .second, .val (.int i2), .val (.double d5), .second, .val (.long j1), .second] [(.double d4), (.ref a1)])) rfl rfl (hb hby d1_29)
  have Nn38 := Fr.snoc X38 Nn29 k9_
  have q39 : Fld Z h38 a1 "com/example/trailhive/trailhive/Colony$Settings" "candidates" "I" (.int (0 : Int32)) := (q31.other W38 (Or.inr (slot_ne (a0 := a0) (C := "com/example/trailhive/trailhive/Colony$Settings") (Or.inr (hw _ (List.mem_of_getElem? (i := 25) rfl))) (Or.inr (hw _ (List.mem_of_getElem? (i := 23) rfl))) (by decide) (t := .int) (t' := .double) (by decide) (by decide))))
  have q40 : Fld Z h38 a1 "com/example/trailhive/trailhive/Colony$Settings" "preserve" "D" (.double (0 : UInt64)) := (q32.other W38 (Or.inr (slot_ne (a0 := a0) (C := "com/example/trailhive/trailhive/Colony$Settings") (Or.inr (hw _ (List.mem_of_getElem? (i := 27) rfl))) (Or.inr (hw _ (List.mem_of_getElem? (i := 23) rfl))) (by decide) (t := .double) (t' := .double) (by decide) (by decide))))
  have q41 : Fld Z h38 a1 "com/example/trailhive/trailhive/Colony$Settings" "seed" "J" (.long (0 : Int64)) := (q33.other W38 (Or.inr (slot_ne (a0 := a0) (C := "com/example/trailhive/trailhive/Colony$Settings") (Or.inr (hw _ (List.mem_of_getElem? (i := 29) rfl))) (Or.inr (hw _ (List.mem_of_getElem? (i := 23) rfl))) (by decide) (t := .long) (t' := .double) (by decide) (by decide))))
  have q42 : Exa Z h38 a1 "com/example/trailhive/trailhive/Colony$Settings" := (q34.wr W38)
  have q43 : Fld Z h38 a1 "com/example/trailhive/trailhive/Colony$Settings" "ants" "I" (.int i1) := (q35.other W38 (Or.inr (slot_ne (a0 := a0) (C := "com/example/trailhive/trailhive/Colony$Settings") (Or.inr (hw _ (List.mem_of_getElem? (i := 15) rfl))) (Or.inr (hw _ (List.mem_of_getElem? (i := 23) rfl))) (by decide) (t := .int) (t' := .double) (by decide) (by decide))))
  have q44 : Fld Z h38 a1 "com/example/trailhive/trailhive/Colony$Settings" "q0" "D" (.double d1) := (q36.other W38 (Or.inr (slot_ne (a0 := a0) (C := "com/example/trailhive/trailhive/Colony$Settings") (Or.inr (hw _ (List.mem_of_getElem? (i := 17) rfl))) (Or.inr (hw _ (List.mem_of_getElem? (i := 23) rfl))) (by decide) (t := .double) (t' := .double) (by decide) (by decide))))
  have q45 : Fld Z h38 a1 "com/example/trailhive/trailhive/Colony$Settings" "alpha" "D" (.double d2) := (q37.other W38 (Or.inr (slot_ne (a0 := a0) (C := "com/example/trailhive/trailhive/Colony$Settings") (Or.inr (hw _ (List.mem_of_getElem? (i := 19) rfl))) (Or.inr (hw _ (List.mem_of_getElem? (i := 23) rfl))) (by decide) (t := .double) (t' := .double) (by decide) (by decide))))
  have q46 : Fld Z h38 a1 "com/example/trailhive/trailhive/Colony$Settings" "beta" "D" (.double d3) := (q29n.other W38 (Or.inr (slot_ne (a0 := a0) (C := "com/example/trailhive/trailhive/Colony$Settings") (Or.inr (hw _ (List.mem_of_getElem? (i := 21) rfl))) (Or.inr (hw _ (List.mem_of_getElem? (i := 23) rfl))) (by decide) (t := .double) (t' := .double) (by decide) (by decide))))
  have q38n : Fld Z h38 a1 "com/example/trailhive/trailhive/Colony$Settings" "rho" "D" (.double d4) := (q30.same W38)
  have K38 := K29.wr W38 (Or.inl (List.mem_of_getElem? (i := 0) rfl))
  have Z38 : n0 ≤ h38.size := Nat.le_trans Z29 (Keep.of_wr W38).1
  obtain ⟨T47, h47, X47, e47, W47, st47⟩ := putF X38 hx hZ hown (host := "") (Or.inl (hw _ (List.mem_of_getElem? (i := 24) rfl))) Via.refl e38 q39 q42 (Or.inr ⟨(hw _ (List.mem_of_getElem? (i := 25) rfl)), rfl, hnm⟩) (hw _ (List.mem_of_getElem? (i := 1) rfl)) (ty := .int) (by decide) rfl rfl (g := (mkF m 35 #[.val (.ref a1), .val (.int i1), .val (.double d1), .second, .val (.double d2), .second, .val (.double d3), .second, .val (.double d4), .second, .val (.int i2), .val (.double d5), .second, .val (.long j1), .second] [(.int i2), (.ref a1)])) rfl rfl (hb hby d1_35)
  have Nn47 := Fr.snoc X47 Nn38 k9_
  have q48 : Fld Z h47 a1 "com/example/trailhive/trailhive/Colony$Settings" "preserve" "D" (.double (0 : UInt64)) := (q40.other W47 (Or.inr (slot_ne (a0 := a0) (C := "com/example/trailhive/trailhive/Colony$Settings") (Or.inr (hw _ (List.mem_of_getElem? (i := 27) rfl))) (Or.inr (hw _ (List.mem_of_getElem? (i := 25) rfl))) (by decide) (t := .double) (t' := .int) (by decide) (by decide))))
  have q49 : Fld Z h47 a1 "com/example/trailhive/trailhive/Colony$Settings" "seed" "J" (.long (0 : Int64)) := (q41.other W47 (Or.inr (slot_ne (a0 := a0) (C := "com/example/trailhive/trailhive/Colony$Settings") (Or.inr (hw _ (List.mem_of_getElem? (i := 29) rfl))) (Or.inr (hw _ (List.mem_of_getElem? (i := 25) rfl))) (by decide) (t := .long) (t' := .int) (by decide) (by decide))))
  have q50 : Exa Z h47 a1 "com/example/trailhive/trailhive/Colony$Settings" := (q42.wr W47)
  have q51 : Fld Z h47 a1 "com/example/trailhive/trailhive/Colony$Settings" "ants" "I" (.int i1) := (q43.other W47 (Or.inr (slot_ne (a0 := a0) (C := "com/example/trailhive/trailhive/Colony$Settings") (Or.inr (hw _ (List.mem_of_getElem? (i := 15) rfl))) (Or.inr (hw _ (List.mem_of_getElem? (i := 25) rfl))) (by decide) (t := .int) (t' := .int) (by decide) (by decide))))
  have q52 : Fld Z h47 a1 "com/example/trailhive/trailhive/Colony$Settings" "q0" "D" (.double d1) := (q44.other W47 (Or.inr (slot_ne (a0 := a0) (C := "com/example/trailhive/trailhive/Colony$Settings") (Or.inr (hw _ (List.mem_of_getElem? (i := 17) rfl))) (Or.inr (hw _ (List.mem_of_getElem? (i := 25) rfl))) (by decide) (t := .double) (t' := .int) (by decide) (by decide))))
  have q53 : Fld Z h47 a1 "com/example/trailhive/trailhive/Colony$Settings" "alpha" "D" (.double d2) := (q45.other W47 (Or.inr (slot_ne (a0 := a0) (C := "com/example/trailhive/trailhive/Colony$Settings") (Or.inr (hw _ (List.mem_of_getElem? (i := 19) rfl))) (Or.inr (hw _ (List.mem_of_getElem? (i := 25) rfl))) (by decide) (t := .double) (t' := .int) (by decide) (by decide))))
  have q54 : Fld Z h47 a1 "com/example/trailhive/trailhive/Colony$Settings" "beta" "D" (.double d3) := (q46.other W47 (Or.inr (slot_ne (a0 := a0) (C := "com/example/trailhive/trailhive/Colony$Settings") (Or.inr (hw _ (List.mem_of_getElem? (i := 21) rfl))) (Or.inr (hw _ (List.mem_of_getElem? (i := 25) rfl))) (by decide) (t := .double) (t' := .int) (by decide) (by decide))))
  have q55 : Fld Z h47 a1 "com/example/trailhive/trailhive/Colony$Settings" "rho" "D" (.double d4) := (q38n.other W47 (Or.inr (slot_ne (a0 := a0) (C := "com/example/trailhive/trailhive/Colony$Settings") (Or.inr (hw _ (List.mem_of_getElem? (i := 23) rfl))) (Or.inr (hw _ (List.mem_of_getElem? (i := 25) rfl))) (by decide) (t := .double) (t' := .int) (by decide) (by decide))))
  have q47n : Fld Z h47 a1 "com/example/trailhive/trailhive/Colony$Settings" "candidates" "I" (.int i2) := (q39.same W47)
  have K47 := K38.wr W47 (Or.inl (List.mem_of_getElem? (i := 0) rfl))
  have Z47 : n0 ≤ h47.size := Nat.le_trans Z38 (Keep.of_wr W47).1
  obtain ⟨T56, h56, X56, e56, W56, st56⟩ := putF X47 hx hZ hown (host := "") (Or.inl (hw _ (List.mem_of_getElem? (i := 26) rfl))) Via.refl e47 q48 q50 (Or.inr ⟨(hw _ (List.mem_of_getElem? (i := 27) rfl)), rfl, hnm⟩) (hw _ (List.mem_of_getElem? (i := 1) rfl)) (ty := .double) (by decide) rfl rfl (g := (mkF m 41 #[.val (.ref a1), .val (.int i1), .val (.double d1), .second, .val (.double d2), .second, .val (.double d3), .second, .val (.double d4), .second, .val (.int i2), .val (.double d5), .second, .val (.long j1), .second] [(.double d5), (.ref a1)])) rfl rfl (hb hby d1_41)
  have Nn56 := Fr.snoc X56 Nn47 k9_
  have q57 : Fld Z h56 a1 "com/example/trailhive/trailhive/Colony$Settings" "seed" "J" (.long (0 : Int64)) := (q49.other W56 (Or.inr (slot_ne (a0 := a0) (C := "com/example/trailhive/trailhive/Colony$Settings") (Or.inr (hw _ (List.mem_of_getElem? (i := 29) rfl))) (Or.inr (hw _ (List.mem_of_getElem? (i := 27) rfl))) (by decide) (t := .long) (t' := .double) (by decide) (by decide))))
  have q58 : Exa Z h56 a1 "com/example/trailhive/trailhive/Colony$Settings" := (q50.wr W56)
  have q59 : Fld Z h56 a1 "com/example/trailhive/trailhive/Colony$Settings" "ants" "I" (.int i1) := (q51.other W56 (Or.inr (slot_ne (a0 := a0) (C := "com/example/trailhive/trailhive/Colony$Settings") (Or.inr (hw _ (List.mem_of_getElem? (i := 15) rfl))) (Or.inr (hw _ (List.mem_of_getElem? (i := 27) rfl))) (by decide) (t := .int) (t' := .double) (by decide) (by decide))))
  have q60 : Fld Z h56 a1 "com/example/trailhive/trailhive/Colony$Settings" "q0" "D" (.double d1) := (q52.other W56 (Or.inr (slot_ne (a0 := a0) (C := "com/example/trailhive/trailhive/Colony$Settings") (Or.inr (hw _ (List.mem_of_getElem? (i := 17) rfl))) (Or.inr (hw _ (List.mem_of_getElem? (i := 27) rfl))) (by decide) (t := .double) (t' := .double) (by decide) (by decide))))
  have q61 : Fld Z h56 a1 "com/example/trailhive/trailhive/Colony$Settings" "alpha" "D" (.double d2) := (q53.other W56 (Or.inr (slot_ne (a0 := a0) (C := "com/example/trailhive/trailhive/Colony$Settings") (Or.inr (hw _ (List.mem_of_getElem? (i := 19) rfl))) (Or.inr (hw _ (List.mem_of_getElem? (i := 27) rfl))) (by decide) (t := .double) (t' := .double) (by decide) (by decide))))
  have q62 : Fld Z h56 a1 "com/example/trailhive/trailhive/Colony$Settings" "beta" "D" (.double d3) := (q54.other W56 (Or.inr (slot_ne (a0 := a0) (C := "com/example/trailhive/trailhive/Colony$Settings") (Or.inr (hw _ (List.mem_of_getElem? (i := 21) rfl))) (Or.inr (hw _ (List.mem_of_getElem? (i := 27) rfl))) (by decide) (t := .double) (t' := .double) (by decide) (by decide))))
  have q63 : Fld Z h56 a1 "com/example/trailhive/trailhive/Colony$Settings" "rho" "D" (.double d4) := (q55.other W56 (Or.inr (slot_ne (a0 := a0) (C := "com/example/trailhive/trailhive/Colony$Settings") (Or.inr (hw _ (List.mem_of_getElem? (i := 23) rfl))) (Or.inr (hw _ (List.mem_of_getElem? (i := 27) rfl))) (by decide) (t := .double) (t' := .double) (by decide) (by decide))))
  have q64 : Fld Z h56 a1 "com/example/trailhive/trailhive/Colony$Settings" "candidates" "I" (.int i2) := (q47n.other W56 (Or.inr (slot_ne (a0 := a0) (C := "com/example/trailhive/trailhive/Colony$Settings") (Or.inr (hw _ (List.mem_of_getElem? (i := 25) rfl))) (Or.inr (hw _ (List.mem_of_getElem? (i := 27) rfl))) (by decide) (t := .int) (t' := .double) (by decide) (by decide))))
  have q56n : Fld Z h56 a1 "com/example/trailhive/trailhive/Colony$Settings" "preserve" "D" (.double d5) := (q48.same W56)
  have K56 := K47.wr W56 (Or.inl (List.mem_of_getElem? (i := 0) rfl))
  have Z56 : n0 ≤ h56.size := Nat.le_trans Z47 (Keep.of_wr W56).1
  obtain ⟨T65, h65, X65, e65, W65, st65⟩ := putF X56 hx hZ hown (host := "") (Or.inl (hw _ (List.mem_of_getElem? (i := 28) rfl))) Via.refl e56 q57 q58 (Or.inr ⟨(hw _ (List.mem_of_getElem? (i := 29) rfl)), rfl, hnm⟩) (hw _ (List.mem_of_getElem? (i := 1) rfl)) (ty := .long) (by decide) rfl rfl (g := (mkF m 47 #[.val (.ref a1), .val (.int i1), .val (.double d1), .second, .val (.double d2), .second, .val (.double d3), .second, .val (.double d4), .second, .val (.int i2), .val (.double d5), .second, .val (.long j1), .second] [(.long j1), (.ref a1)])) rfl rfl (hb hby d1_47)
  have Nn65 := Fr.snoc X65 Nn56 k9_
  have q66 : Exa Z h65 a1 "com/example/trailhive/trailhive/Colony$Settings" := (q58.wr W65)
  have q67 : Fld Z h65 a1 "com/example/trailhive/trailhive/Colony$Settings" "ants" "I" (.int i1) := (q59.other W65 (Or.inr (slot_ne (a0 := a0) (C := "com/example/trailhive/trailhive/Colony$Settings") (Or.inr (hw _ (List.mem_of_getElem? (i := 15) rfl))) (Or.inr (hw _ (List.mem_of_getElem? (i := 29) rfl))) (by decide) (t := .int) (t' := .long) (by decide) (by decide))))
  have q68 : Fld Z h65 a1 "com/example/trailhive/trailhive/Colony$Settings" "q0" "D" (.double d1) := (q60.other W65 (Or.inr (slot_ne (a0 := a0) (C := "com/example/trailhive/trailhive/Colony$Settings") (Or.inr (hw _ (List.mem_of_getElem? (i := 17) rfl))) (Or.inr (hw _ (List.mem_of_getElem? (i := 29) rfl))) (by decide) (t := .double) (t' := .long) (by decide) (by decide))))
  have q69 : Fld Z h65 a1 "com/example/trailhive/trailhive/Colony$Settings" "alpha" "D" (.double d2) := (q61.other W65 (Or.inr (slot_ne (a0 := a0) (C := "com/example/trailhive/trailhive/Colony$Settings") (Or.inr (hw _ (List.mem_of_getElem? (i := 19) rfl))) (Or.inr (hw _ (List.mem_of_getElem? (i := 29) rfl))) (by decide) (t := .double) (t' := .long) (by decide) (by decide))))
  have q70 : Fld Z h65 a1 "com/example/trailhive/trailhive/Colony$Settings" "beta" "D" (.double d3) := (q62.other W65 (Or.inr (slot_ne (a0 := a0) (C := "com/example/trailhive/trailhive/Colony$Settings") (Or.inr (hw _ (List.mem_of_getElem? (i := 21) rfl))) (Or.inr (hw _ (List.mem_of_getElem? (i := 29) rfl))) (by decide) (t := .double) (t' := .long) (by decide) (by decide))))
  have q71 : Fld Z h65 a1 "com/example/trailhive/trailhive/Colony$Settings" "rho" "D" (.double d4) := (q63.other W65 (Or.inr (slot_ne (a0 := a0) (C := "com/example/trailhive/trailhive/Colony$Settings") (Or.inr (hw _ (List.mem_of_getElem? (i := 23) rfl))) (Or.inr (hw _ (List.mem_of_getElem? (i := 29) rfl))) (by decide) (t := .double) (t' := .long) (by decide) (by decide))))
  have q72 : Fld Z h65 a1 "com/example/trailhive/trailhive/Colony$Settings" "candidates" "I" (.int i2) := (q64.other W65 (Or.inr (slot_ne (a0 := a0) (C := "com/example/trailhive/trailhive/Colony$Settings") (Or.inr (hw _ (List.mem_of_getElem? (i := 25) rfl))) (Or.inr (hw _ (List.mem_of_getElem? (i := 29) rfl))) (by decide) (t := .int) (t' := .long) (by decide) (by decide))))
  have q73 : Fld Z h65 a1 "com/example/trailhive/trailhive/Colony$Settings" "preserve" "D" (.double d5) := (q56n.other W65 (Or.inr (slot_ne (a0 := a0) (C := "com/example/trailhive/trailhive/Colony$Settings") (Or.inr (hw _ (List.mem_of_getElem? (i := 27) rfl))) (Or.inr (hw _ (List.mem_of_getElem? (i := 29) rfl))) (by decide) (t := .double) (t' := .long) (by decide) (by decide))))
  have q65n : Fld Z h65 a1 "com/example/trailhive/trailhive/Colony$Settings" "seed" "J" (.long j1) := (q57.same W65)
  have K65 := K56.wr W65 (Or.inl (List.mem_of_getElem? (i := 0) rfl))
  have Z65 : n0 ≤ h65.size := Nat.le_trans Z56 (Keep.of_wr W65).1
  obtain ⟨fs, hr, hrun, hended, hW, hsame⟩ := X65.leave (v := none) (fun _ => rfl)
  refine ⟨_, _, pre0 _ ?_, hrun, hended, _, _, rfl, ?_, ⟨_, rfl⟩, hW, hsame.mono (Nat.le_of_ble_eq_true rfl) (Nat.le_of_ble_eq_true rfl)⟩
  · show Steps p.tables e below (s₁.setTop (mkF m 0 #[.val (.ref a1), .val (.int i1), .val (.double d1), .second, .val (.double d2), .second, .val (.double d3), .second, .val (.double d4), .second, .val (.int i2), .val (.double d5), .second, .val (.long j1), .second] [])) _
    refine XS.aloadN X0.here hx rfl (hb hby d1_0) rfl rfl ?_
    show Steps p.tables e below (s₁.setTop (mkF m 1 #[.val (.ref a1), .val (.int i1), .val (.double d1), .second, .val (.double d2), .second, .val (.double d3), .second, .val (.double d4), .second, .val (.int i2), .val (.double d5), .second, .val (.long j1), .second] [(.ref a1)])) _
    refine st1.trans ?_
    show Steps p.tables e below (T1.setTop (mkF m 4 #[.val (.ref a1), .val (.int i1), .val (.double d1), .second, .val (.double d2), .second, .val (.double d3), .second, .val (.double d4), .second, .val (.int i2), .val (.double d5), .second, .val (.long j1), .second] [])) _
    refine XS.aloadN X1.here hx rfl (hb hby d1_4) rfl rfl ?_
    show Steps p.tables e below (T1.setTop (mkF m 5 #[.val (.ref a1), .val (.int i1), .val (.double d1), .second, .val (.double d2), .second, .val (.double d3), .second, .val (.double d4), .second, .val (.int i2), .val (.double d5), .second, .val (.long j1), .second] [(.ref a1)])) _
    refine XS.iloadN X1.here hx rfl (hb hby d1_5) rfl ?_
    show Steps p.tables e below (T1.setTop (mkF m 6 #[.val (.ref a1), .val (.int i1), .val (.double d1), .second, .val (.double d2), .second, .val (.double d3), .second, .val (.double d4), .second, .val (.int i2), .val (.double d5), .second, .val (.long j1), .second] [(.int i1), (.ref a1)])) _
    refine st2 _ ?_
    show Steps p.tables e below (T2.setTop (mkF m 9 #[.val (.ref a1), .val (.int i1), .val (.double d1), .second, .val (.double d2), .second, .val (.double d3), .second, .val (.double d4), .second, .val (.int i2), .val (.double d5), .second, .val (.long j1), .second] [])) _
    refine XS.aloadN X2.here hx rfl (hb hby d1_9) rfl rfl ?_
    show Steps p.tables e below (T2.setTop (mkF m 10 #[.val (.ref a1), .val (.int i1), .val (.double d1), .second, .val (.double d2), .second, .val (.double d3), .second, .val (.double d4), .second, .val (.int i2), .val (.double d5), .second, .val (.long j1), .second] [(.ref a1)])) _
    refine XS.dloadN X2.here hx rfl (hb hby d1_10) rfl ?_
    show Steps p.tables e below (T2.setTop (mkF m 11 #[.val (.ref a1), .val (.int i1), .val (.double d1), .second, .val (.double d2), .second, .val (.double d3), .second, .val (.double d4), .second, .val (.int i2), .val (.double d5), .second, .val (.long j1), .second] [(.double d1), (.ref a1)])) _
    refine st11 _ ?_
    show Steps p.tables e below (T11.setTop (mkF m 14 #[.val (.ref a1), .val (.int i1), .val (.double d1), .second, .val (.double d2), .second, .val (.double d3), .second, .val (.double d4), .second, .val (.int i2), .val (.double d5), .second, .val (.long j1), .second] [])) _
    refine XS.aloadN X11.here hx rfl (hb hby d1_14) rfl rfl ?_
    show Steps p.tables e below (T11.setTop (mkF m 15 #[.val (.ref a1), .val (.int i1), .val (.double d1), .second, .val (.double d2), .second, .val (.double d3), .second, .val (.double d4), .second, .val (.int i2), .val (.double d5), .second, .val (.long j1), .second] [(.ref a1)])) _
    refine XS.dload X11.here hx rfl (hb hby d1_15) rfl ?_
    show Steps p.tables e below (T11.setTop (mkF m 17 #[.val (.ref a1), .val (.int i1), .val (.double d1), .second, .val (.double d2), .second, .val (.double d3), .second, .val (.double d4), .second, .val (.int i2), .val (.double d5), .second, .val (.long j1), .second] [(.double d2), (.ref a1)])) _
    refine st20 _ ?_
    show Steps p.tables e below (T20.setTop (mkF m 20 #[.val (.ref a1), .val (.int i1), .val (.double d1), .second, .val (.double d2), .second, .val (.double d3), .second, .val (.double d4), .second, .val (.int i2), .val (.double d5), .second, .val (.long j1), .second] [])) _
    refine XS.aloadN X20.here hx rfl (hb hby d1_20) rfl rfl ?_
    show Steps p.tables e below (T20.setTop (mkF m 21 #[.val (.ref a1), .val (.int i1), .val (.double d1), .second, .val (.double d2), .second, .val (.double d3), .second, .val (.double d4), .second, .val (.int i2), .val (.double d5), .second, .val (.long j1), .second] [(.ref a1)])) _
    refine XS.dload X20.here hx rfl (hb hby d1_21) rfl ?_
    show Steps p.tables e below (T20.setTop (mkF m 23 #[.val (.ref a1), .val (.int i1), .val (.double d1), .second, .val (.double d2), .second, .val (.double d3), .second, .val (.double d4), .second, .val (.int i2), .val (.double d5), .second, .val (.long j1), .second] [(.double d3), (.ref a1)])) _
    refine st29 _ ?_
    show Steps p.tables e below (T29.setTop (mkF m 26 #[.val (.ref a1), .val (.int i1), .val (.double d1), .second, .val (.double d2), .second, .val (.double d3), .second, .val (.double d4), .second, .val (.int i2), .val (.double d5), .second, .val (.long j1), .second] [])) _
    refine XS.aloadN X29.here hx rfl (hb hby d1_26) rfl rfl ?_
    show Steps p.tables e below (T29.setTop (mkF m 27 #[.val (.ref a1), .val (.int i1), .val (.double d1), .second, .val (.double d2), .second, .val (.double d3), .second, .val (.double d4), .second, .val (.int i2), .val (.double d5), .second, .val (.long j1), .second] [(.ref a1)])) _
    refine XS.dload X29.here hx rfl (hb hby d1_27) rfl ?_
    show Steps p.tables e below (T29.setTop (mkF m 29 #[.val (.ref a1), .val (.int i1), .val (.double d1), .second, .val (.double d2), .second, .val (.double d3), .second, .val (.double d4), .second, .val (.int i2), .val (.double d5), .second, .val (.long j1), .second] [(.double d4), (.ref a1)])) _
    refine st38 _ ?_
    show Steps p.tables e below (T38.setTop (mkF m 32 #[.val (.ref a1), .val (.int i1), .val (.double d1), .second, .val (.double d2), .second, .val (.double d3), .second, .val (.double d4), .second, .val (.int i2), .val (.double d5), .second, .val (.long j1), .second] [])) _
    refine XS.aloadN X38.here hx rfl (hb hby d1_32) rfl rfl ?_
    show Steps p.tables e below (T38.setTop (mkF m 33 #[.val (.ref a1), .val (.int i1), .val (.double d1), .second, .val (.double d2), .second, .val (.double d3), .second, .val (.double d4), .second, .val (.int i2), .val (.double d5), .second, .val (.long j1), .second] [(.ref a1)])) _
    refine XS.iload X38.here hx rfl (hb hby d1_33) rfl ?_
    show Steps p.tables e below (T38.setTop (mkF m 35 #[.val (.ref a1), .val (.int i1), .val (.double d1), .second, .val (.double d2), .second, .val (.double d3), .second, .val (.double d4), .second, .val (.int i2), .val (.double d5), .second, .val (.long j1), .second] [(.int i2), (.ref a1)])) _
    refine st47 _ ?_
    show Steps p.tables e below (T47.setTop (mkF m 38 #[.val (.ref a1), .val (.int i1), .val (.double d1), .second, .val (.double d2), .second, .val (.double d3), .second, .val (.double d4), .second, .val (.int i2), .val (.double d5), .second, .val (.long j1), .second] [])) _
    refine XS.aloadN X47.here hx rfl (hb hby d1_38) rfl rfl ?_
    show Steps p.tables e below (T47.setTop (mkF m 39 #[.val (.ref a1), .val (.int i1), .val (.double d1), .second, .val (.double d2), .second, .val (.double d3), .second, .val (.double d4), .second, .val (.int i2), .val (.double d5), .second, .val (.long j1), .second] [(.ref a1)])) _
    refine XS.dload X47.here hx rfl (hb hby d1_39) rfl ?_
    show Steps p.tables e below (T47.setTop (mkF m 41 #[.val (.ref a1), .val (.int i1), .val (.double d1), .second, .val (.double d2), .second, .val (.double d3), .second, .val (.double d4), .second, .val (.int i2), .val (.double d5), .second, .val (.long j1), .second] [(.double d5), (.ref a1)])) _
    refine st56 _ ?_
    show Steps p.tables e below (T56.setTop (mkF m 44 #[.val (.ref a1), .val (.int i1), .val (.double d1), .second, .val (.double d2), .second, .val (.double d3), .second, .val (.double d4), .second, .val (.int i2), .val (.double d5), .second, .val (.long j1), .second] [])) _
    refine XS.aloadN X56.here hx rfl (hb hby d1_44) rfl rfl ?_
    show Steps p.tables e below (T56.setTop (mkF m 45 #[.val (.ref a1), .val (.int i1), .val (.double d1), .second, .val (.double d2), .second, .val (.double d3), .second, .val (.double d4), .second, .val (.int i2), .val (.double d5), .second, .val (.long j1), .second] [(.ref a1)])) _
    refine XT.lload X56.here hx rfl (hb hby d1_45) rfl ?_
    show Steps p.tables e below (T56.setTop (mkF m 47 #[.val (.ref a1), .val (.int i1), .val (.double d1), .second, .val (.double d2), .second, .val (.double d3), .second, .val (.double d4), .second, .val (.int i2), .val (.double d5), .second, .val (.long j1), .second] [(.long j1), (.ref a1)])) _
    refine st65 _ ?_
    show Steps p.tables e below (T65.setTop (mkF m 50 #[.val (.ref a1), .val (.int i1), .val (.double d1), .second, .val (.double d2), .second, .val (.double d3), .second, .val (.double d4), .second, .val (.int i2), .val (.double d5), .second, .val (.long j1), .second] [])) _
    exact X65.returnOut hx Bd.returns (hb hby d1_50) hr
  · show Q_ini Z a1 i1 d1 d2 d3 d4 i2 d5 j1  h0 n0 _ T65.heap _
    rw [e65]
    exact ⟨rfl, Nn65, K65, q66, q67, q68, q69, q70, q71, q72, q73, q65n⟩
theorem ef_wp (m : MethodId) (a1 : Addr) (d9 : UInt64) : entryFrame m #[(.ref a1), (.double d9)] 3 = (mkF m 0 #[.val (.ref a1), .val (.double d9), .second] []) := by first | (simp [entryFrame, mkF, argsToLocals, Value.category]; done) | rfl
def Q_wp (Z : State) (a1 : Addr) (d9 : UInt64) (i1 : Int32) (d1 : UInt64) (d2 : UInt64) (d3 : UInt64) (d4 : UInt64) (i2 : Int32) (j1 : Int64) (h0 : Heap) (n0 : Nat) (v : Option Value) (h : Heap) (L : List Loc) : Prop := ∃ ad : Addr, v = some (.ref ad) ∧ Fr n0 L ∧ Keep h0 h [] ∧ h0.size ≤ ad ∧ (Exa Z h ad "com/example/trailhive/trailhive/Colony$Settings") ∧ (Fld Z h ad "com/example/trailhive/trailhive/Colony$Settings" "ants" "I" (.int i1)) ∧ (Fld Z h ad "com/example/trailhive/trailhive/Colony$Settings" "q0" "D" (.double d1)) ∧ (Fld Z h ad "com/example/trailhive/trailhive/Colony$Settings" "alpha" "D" (.double d2)) ∧ (Fld Z h ad "com/example/trailhive/trailhive/Colony$Settings" "beta" "D" (.double d3)) ∧ (Fld Z h ad "com/example/trailhive/trailhive/Colony$Settings" "rho" "D" (.double d4)) ∧ (Fld Z h ad "com/example/trailhive/trailhive/Colony$Settings" "candidates" "I" (.int i2)) ∧ (Fld Z h ad "com/example/trailhive/trailhive/Colony$Settings" "preserve" "D" (.double d9)) ∧ (Fld Z h ad "com/example/trailhive/trailhive/Colony$Settings" "seed" "J" (.long j1))
set_option maxRecDepth 65536 in
set_option maxHeartbeats 40000000 in
theorem rm_wp (l : Launch) (Z : State) (a0 : Array Value) (hw : ∀ d ∈ tables_1, d.before a0 Z = true) (ws : List Jvm.Cond) (a1 : Addr) (d9 : UInt64) (i1 : Int32) (d1 : UInt64) (d2 : UInt64) (d3 : UInt64) (d4 : UInt64) (i2 : Int32) (j1 : Int64) (h0 : Heap) (n0 : Nat) (Z0 : n0 ≤ h0.size) (k0_ : Exa Z h0 a1 "com/example/trailhive/trailhive/Colony$Settings") (k1_ : Fld Z h0 a1 "com/example/trailhive/trailhive/Colony$Settings" "ants" "I" (.int i1)) (k2_ : Fld Z h0 a1 "com/example/trailhive/trailhive/Colony$Settings" "q0" "D" (.double d1)) (k3_ : Fld Z h0 a1 "com/example/trailhive/trailhive/Colony$Settings" "alpha" "D" (.double d2)) (k4_ : Fld Z h0 a1 "com/example/trailhive/trailhive/Colony$Settings" "beta" "D" (.double d3)) (k5_ : Fld Z h0 a1 "com/example/trailhive/trailhive/Colony$Settings" "rho" "D" (.double d4)) (k6_ : Fld Z h0 a1 "com/example/trailhive/trailhive/Colony$Settings" "candidates" "I" (.int i2)) (k7_ : Fld Z h0 a1 "com/example/trailhive/trailhive/Colony$Settings" "seed" "J" (.long j1))   :
    MetFree l (⟨"com/example/trailhive/trailhive/Colony$Settings", "withPreserve", "(D)Lcom/example/trailhive/trailhive/Colony$Settings;"⟩ : MethodName) (head1 (Jvm.Cond.code (⟨"com/example/trailhive/trailhive/Colony$Settings", "withPreserve", "(D)Lcom/example/trailhive/trailhive/Colony$Settings;"⟩ : MethodName) prog_8_method_2_code 3 (some (.object "com/example/trailhive/trailhive/Colony$Settings")) :: ws) ({ frames := 3, cells := 1, slots := 8, locals := 51 } : Room)) (fun a U => a = #[(.ref a1), (.double d9)] ∧ Z.Warmed39 U.vm ∧ U.heap = h0) (fun _ _ _ _ _ => True) (fun _ U o U' => ∃ v L, o = .returned v ∧ Q_wp Z a1 d9 i1 d1 d2 d3 d4 i2 j1 h0 n0 v U'.heap L ∧ FrameEnd U o U' L ({ frames := 3, cells := 1, slots := 8, locals := 51 } : Room).cells ({ frames := 3, cells := 1, slots := 8, locals := 51 } : Room).slots) := by
  refine MetFree.of_bodySF (plainFor_of_name pn_1) hisR ?_
  intro p e s m args below meth c s₁ Bd hml0 hP hK
  obtain ⟨rfl, hZ, hh⟩ := hP
  have hx := Bd.exec
  have hby := Bd.bytes
  have hml : c.maxLocals = 3 := hml0
  have hown : s.vm.findClass "com/example/trailhive/trailhive/Colony$Settings" = some m.cls := findClass_of_methodNamed Bd.named
  have hnm := (name_of_methodNamed Bd.named Bd.method).1
  have X0 : Stand p l e ({ frames := 3, cells := 1, slots := 8, locals := 51 } : Room) s m #[(.ref a1), (.double d9)] below meth c s₁ [] 0 0 := Stand.of_body Bd
  have e0 : s₁.heap = h0 := by rw [← hh, Bd.state]; rfl
  have N0 := Fr.nil n0
  have pre0 : ∀ t, Steps p.tables e below (s₁.setTop (mkF m 0 #[.val (.ref a1), .val (.double d9), .second] [])) t → Steps p.tables e below (s₁.setTop (entryFrame m #[(.ref a1), (.double d9)] 3)) t := fun t k => castTop (ef_wp m a1 d9) k
  have K0 := Keep.refl h0 []
  obtain ⟨T1, h1, X1, e1, E1, A1, D1, -, st1⟩ := newO X0 hx hZ hown (hw _ (List.mem_of_getElem? (i := 35) rfl)) (hw _ (List.mem_of_getElem? (i := 1) rfl)) (hw _ (List.mem_of_getElem? (i := 2) rfl)) e0 (g := (mkF m 0 #[.val (.ref a1), .val (.double d9), .second] [])) rfl (hb hby d4_0) (by decide) (by decide)
  obtain ⟨ad1, g1⟩ : ∃ z, z = (h0).size := ⟨_, rfl⟩
  rw [← g1] at A1 D1 st1
  have ne_a1_ad1 : a1 ≠ ad1 := Nat.ne_of_lt (Nat.lt_of_lt_of_le (k0_.lt) (Nat.le_of_eq g1.symm))
  have q2 : Exa Z h1 a1 "com/example/trailhive/trailhive/Colony$Settings" := (k0_.ext E1)
  have q3 : Fld Z h1 a1 "com/example/trailhive/trailhive/Colony$Settings" "ants" "I" (.int i1) := (k1_.ext E1)
  have q4 : Fld Z h1 a1 "com/example/trailhive/trailhive/Colony$Settings" "q0" "D" (.double d1) := (k2_.ext E1)
  have q5 : Fld Z h1 a1 "com/example/trailhive/trailhive/Colony$Settings" "alpha" "D" (.double d2) := (k3_.ext E1)
  have q6 : Fld Z h1 a1 "com/example/trailhive/trailhive/Colony$Settings" "beta" "D" (.double d3) := (k4_.ext E1)
  have q7 : Fld Z h1 a1 "com/example/trailhive/trailhive/Colony$Settings" "rho" "D" (.double d4) := (k5_.ext E1)
  have q8 : Fld Z h1 a1 "com/example/trailhive/trailhive/Colony$Settings" "candidates" "I" (.int i2) := (k6_.ext E1)
  have q9 : Fld Z h1 a1 "com/example/trailhive/trailhive/Colony$Settings" "seed" "J" (.long j1) := (k7_.ext E1)
  have F1_0 : Fld Z h1 ad1 "com/example/trailhive/trailhive/Colony$Settings" "ants" "I" (.int (0 : Int32)) := (D1 (Or.inr (hw _ (List.mem_of_getElem? (i := 15) rfl))) (ty := .int) (by decide))
  have F1_1 : Fld Z h1 ad1 "com/example/trailhive/trailhive/Colony$Settings" "q0" "D" (.double (0 : UInt64)) := (D1 (Or.inr (hw _ (List.mem_of_getElem? (i := 17) rfl))) (ty := .double) (by decide))
  have F1_2 : Fld Z h1 ad1 "com/example/trailhive/trailhive/Colony$Settings" "alpha" "D" (.double (0 : UInt64)) := (D1 (Or.inr (hw _ (List.mem_of_getElem? (i := 19) rfl))) (ty := .double) (by decide))
  have F1_3 : Fld Z h1 ad1 "com/example/trailhive/trailhive/Colony$Settings" "beta" "D" (.double (0 : UInt64)) := (D1 (Or.inr (hw _ (List.mem_of_getElem? (i := 21) rfl))) (ty := .double) (by decide))
  have F1_4 : Fld Z h1 ad1 "com/example/trailhive/trailhive/Colony$Settings" "rho" "D" (.double (0 : UInt64)) := (D1 (Or.inr (hw _ (List.mem_of_getElem? (i := 23) rfl))) (ty := .double) (by decide))
  have F1_5 : Fld Z h1 ad1 "com/example/trailhive/trailhive/Colony$Settings" "candidates" "I" (.int (0 : Int32)) := (D1 (Or.inr (hw _ (List.mem_of_getElem? (i := 25) rfl))) (ty := .int) (by decide))
  have F1_6 : Fld Z h1 ad1 "com/example/trailhive/trailhive/Colony$Settings" "preserve" "D" (.double (0 : UInt64)) := (D1 (Or.inr (hw _ (List.mem_of_getElem? (i := 27) rfl))) (ty := .double) (by decide))
  have F1_7 : Fld Z h1 ad1 "com/example/trailhive/trailhive/Colony$Settings" "seed" "J" (.long (0 : Int64)) := (D1 (Or.inr (hw _ (List.mem_of_getElem? (i := 29) rfl))) (ty := .long) (by decide))
  have Z1 : n0 ≤ h1.size := Nat.le_trans Z0 E1.1
  have gn1 : n0 ≤ ad1 := Nat.le_trans Z0 (Nat.le_of_eq g1.symm)
  have f01 : h0.size ≤ ad1 := Nat.le_trans K0.1 (Nat.le_of_eq g1.symm)
  have K1 := K0.ext E1
  obtain ⟨T10, X10, e10, st10⟩ := getF X1 hx hZ hown (host := "") (Or.inl (hw _ (List.mem_of_getElem? (i := 14) rfl))) Via.refl e1 q3 (g := (mkF m 5 #[.val (.ref a1), .val (.double d9), .second] [(.ref a1), (.ref ad1), (.ref ad1)])) rfl rfl (hb hby d4_5)
  obtain ⟨T11, X11, e11, st11⟩ := getF X10 hx hZ hown (host := "") (Or.inl (hw _ (List.mem_of_getElem? (i := 16) rfl))) Via.refl e10 q4 (g := (mkF m 9 #[.val (.ref a1), .val (.double d9), .second] [(.ref a1), (.int i1), (.ref ad1), (.ref ad1)])) rfl rfl (hb hby d4_9)
  obtain ⟨T12, X12, e12, st12⟩ := getF X11 hx hZ hown (host := "") (Or.inl (hw _ (List.mem_of_getElem? (i := 18) rfl))) Via.refl e11 q5 (g := (mkF m 13 #[.val (.ref a1), .val (.double d9), .second] [(.ref a1), (.double d1), (.int i1), (.ref ad1), (.ref ad1)])) rfl rfl (hb hby d4_13)
  obtain ⟨T13, X13, e13, st13⟩ := getF X12 hx hZ hown (host := "") (Or.inl (hw _ (List.mem_of_getElem? (i := 20) rfl))) Via.refl e12 q6 (g := (mkF m 17 #[.val (.ref a1), .val (.double d9), .second] [(.ref a1), (.double d2), (.double d1), (.int i1), (.ref ad1), (.ref ad1)])) rfl rfl (hb hby d4_17)
  obtain ⟨T14, X14, e14, st14⟩ := getF X13 hx hZ hown (host := "") (Or.inl (hw _ (List.mem_of_getElem? (i := 22) rfl))) Via.refl e13 q7 (g := (mkF m 21 #[.val (.ref a1), .val (.double d9), .second] [(.ref a1), (.double d3), (.double d2), (.double d1), (.int i1), (.ref ad1), (.ref ad1)])) rfl rfl (hb hby d4_21)
  obtain ⟨T15, X15, e15, st15⟩ := getF X14 hx hZ hown (host := "") (Or.inl (hw _ (List.mem_of_getElem? (i := 24) rfl))) Via.refl e14 q8 (g := (mkF m 25 #[.val (.ref a1), .val (.double d9), .second] [(.ref a1), (.double d4), (.double d3), (.double d2), (.double d1), (.int i1), (.ref ad1), (.ref ad1)])) rfl rfl (hb hby d4_25)
  obtain ⟨T16, X16, e16, st16⟩ := getF X15 hx hZ hown (host := "") (Or.inl (hw _ (List.mem_of_getElem? (i := 28) rfl))) Via.refl e15 q9 (g := (mkF m 30 #[.val (.ref a1), .val (.double d9), .second] [(.ref a1), (.double d9), (.int i2), (.double d4), (.double d3), (.double d2), (.double d1), (.int i1), (.ref ad1), (.ref ad1)])) rfl rfl (hb hby d4_30)
  obtain ⟨_, _, ⟨T17, L17, k17, n17⟩, -, X17, ⟨Lc17, hQ17, l17, y17, z17⟩, st17⟩ := X16.specialBack hx (y := (⟨"com/example/trailhive/trailhive/Colony$Settings", "<init>", "(IDDDDIDJ)V"⟩ : MethodName)) rfl hown (mvT hZ (hw _ (List.mem_of_getElem? (i := 36) rfl))) (mvT hZ (hw _ (List.mem_of_getElem? (i := 4) rfl))) (mvT hZ (hw _ (List.mem_of_getElem? (i := 5) rfl))) (by decide) (backOf (W := 1) (rm_ini l Z a0 hw [] ad1 i1 d1 d2 d3 d4 i2 d9 j1  (h1) n0 Z1 F1_0 F1_1 F1_2 F1_3 F1_4 F1_5 F1_6 F1_7 A1 gn1 ) hZ (hw _ (List.mem_of_getElem? (i := 5) rfl)) (hw _ (List.mem_of_getElem? (i := 2) rfl)) (by decide) (by decide)) (g := (mkF m 33 #[.val (.ref a1), .val (.double d9), .second] [(.long j1), (.double d9), (.int i2), (.double d4), (.double d3), (.double d2), (.double d1), (.int i1), (.ref ad1), (.ref ad1)])) rfl (by rw [hml]; rfl) (Steps.refl _) (a := ad1) (argsL := [(.int i1), (.double d1), (.double d2), (.double d3), (.double d4), (.int i2), (.double d9), (.long j1)]) (rest := [(.ref ad1)]) (lenOf pd_1 rfl) rfl (by show 2 * 0 + _ ≤ _; exact Nat.le_of_eq rfl) (hb hby d4_33) (fun _ _ => ⟨rfl, e16, (by decide : 1 + 0 ≤ _), (by decide : 8 + 0 ≤ _)⟩)
  dsimp only [Pt.U, Pt.locs, Pt.cells, Pt.slots] at X17 l17 y17 z17 st17 hQ17
  subst l17 y17 z17
  obtain ⟨rfl, N17, K17, p17_0, p17_1, p17_2, p17_3, p17_4, p17_5, p17_6, p17_7, p17_8⟩ := hQ17
  have Nn17 := Fr.app N0 N17
  have q18 : Exa Z T17.heap a1 "com/example/trailhive/trailhive/Colony$Settings" := (q2.keep K17)
  have q19 : Fld Z T17.heap a1 "com/example/trailhive/trailhive/Colony$Settings" "ants" "I" (.int i1) := (q3.keep K17 (fun q => ne_a1_ad1 (List.mem_singleton.mp q)))
  have q20 : Fld Z T17.heap a1 "com/example/trailhive/trailhive/Colony$Settings" "q0" "D" (.double d1) := (q4.keep K17 (fun q => ne_a1_ad1 (List.mem_singleton.mp q)))
  have q21 : Fld Z T17.heap a1 "com/example/trailhive/trailhive/Colony$Settings" "alpha" "D" (.double d2) := (q5.keep K17 (fun q => ne_a1_ad1 (List.mem_singleton.mp q)))
  have q22 : Fld Z T17.heap a1 "com/example/trailhive/trailhive/Colony$Settings" "beta" "D" (.double d3) := (q6.keep K17 (fun q => ne_a1_ad1 (List.mem_singleton.mp q)))
  have q23 : Fld Z T17.heap a1 "com/example/trailhive/trailhive/Colony$Settings" "rho" "D" (.double d4) := (q7.keep K17 (fun q => ne_a1_ad1 (List.mem_singleton.mp q)))
  have q24 : Fld Z T17.heap a1 "com/example/trailhive/trailhive/Colony$Settings" "candidates" "I" (.int i2) := (q8.keep K17 (fun q => ne_a1_ad1 (List.mem_singleton.mp q)))
  have q25 : Fld Z T17.heap a1 "com/example/trailhive/trailhive/Colony$Settings" "seed" "J" (.long j1) := (q9.keep K17 (fun q => ne_a1_ad1 (List.mem_singleton.mp q)))
  have Z17 : n0 ≤ T17.heap.size := Nat.le_trans Z1 K17.1
  have KK17 := K1.trans K17 (fun x hx => Or.inr (by cases List.mem_singleton.mp hx; exact f01))
  obtain ⟨fs, hr, hrun, hended, hW, hsame⟩ := X17.leave (v := some (.ref ad1)) (fun h => by rw [Bd.returns] at h; cases h)
  refine ⟨_, _, pre0 _ ?_, hrun, hended, _, _, rfl, ?_, ⟨_, rfl⟩, hW, hsame.mono (Nat.le_of_ble_eq_true rfl) (Nat.le_of_ble_eq_true rfl)⟩
  · show Steps p.tables e below (s₁.setTop (mkF m 0 #[.val (.ref a1), .val (.double d9), .second] [])) _
    refine st1 _ ?_
    show Steps p.tables e below (T1.setTop (mkF m 3 #[.val (.ref a1), .val (.double d9), .second] [(.ref ad1)])) _
    refine XS.dup X1.here hx rfl (hb hby d4_3) rfl rfl ?_
    show Steps p.tables e below (T1.setTop (mkF m 4 #[.val (.ref a1), .val (.double d9), .second] [(.ref ad1), (.ref ad1)])) _
    refine XS.aloadN X1.here hx rfl (hb hby d4_4) rfl rfl ?_
    show Steps p.tables e below (T1.setTop (mkF m 5 #[.val (.ref a1), .val (.double d9), .second] [(.ref a1), (.ref ad1), (.ref ad1)])) _
    refine st10 _ ?_
    show Steps p.tables e below (T10.setTop (mkF m 8 #[.val (.ref a1), .val (.double d9), .second] [(.int i1), (.ref ad1), (.ref ad1)])) _
    refine XS.aloadN X10.here hx rfl (hb hby d4_8) rfl rfl ?_
    show Steps p.tables e below (T10.setTop (mkF m 9 #[.val (.ref a1), .val (.double d9), .second] [(.ref a1), (.int i1), (.ref ad1), (.ref ad1)])) _
    refine st11 _ ?_
    show Steps p.tables e below (T11.setTop (mkF m 12 #[.val (.ref a1), .val (.double d9), .second] [(.double d1), (.int i1), (.ref ad1), (.ref ad1)])) _
    refine XS.aloadN X11.here hx rfl (hb hby d4_12) rfl rfl ?_
    show Steps p.tables e below (T11.setTop (mkF m 13 #[.val (.ref a1), .val (.double d9), .second] [(.ref a1), (.double d1), (.int i1), (.ref ad1), (.ref ad1)])) _
    refine st12 _ ?_
    show Steps p.tables e below (T12.setTop (mkF m 16 #[.val (.ref a1), .val (.double d9), .second] [(.double d2), (.double d1), (.int i1), (.ref ad1), (.ref ad1)])) _
    refine XS.aloadN X12.here hx rfl (hb hby d4_16) rfl rfl ?_
    show Steps p.tables e below (T12.setTop (mkF m 17 #[.val (.ref a1), .val (.double d9), .second] [(.ref a1), (.double d2), (.double d1), (.int i1), (.ref ad1), (.ref ad1)])) _
    refine st13 _ ?_
    show Steps p.tables e below (T13.setTop (mkF m 20 #[.val (.ref a1), .val (.double d9), .second] [(.double d3), (.double d2), (.double d1), (.int i1), (.ref ad1), (.ref ad1)])) _
    refine XS.aloadN X13.here hx rfl (hb hby d4_20) rfl rfl ?_
    show Steps p.tables e below (T13.setTop (mkF m 21 #[.val (.ref a1), .val (.double d9), .second] [(.ref a1), (.double d3), (.double d2), (.double d1), (.int i1), (.ref ad1), (.ref ad1)])) _
    refine st14 _ ?_
    show Steps p.tables e below (T14.setTop (mkF m 24 #[.val (.ref a1), .val (.double d9), .second] [(.double d4), (.double d3), (.double d2), (.double d1), (.int i1), (.ref ad1), (.ref ad1)])) _
    refine XS.aloadN X14.here hx rfl (hb hby d4_24) rfl rfl ?_
    show Steps p.tables e below (T14.setTop (mkF m 25 #[.val (.ref a1), .val (.double d9), .second] [(.ref a1), (.double d4), (.double d3), (.double d2), (.double d1), (.int i1), (.ref ad1), (.ref ad1)])) _
    refine st15 _ ?_
    show Steps p.tables e below (T15.setTop (mkF m 28 #[.val (.ref a1), .val (.double d9), .second] [(.int i2), (.double d4), (.double d3), (.double d2), (.double d1), (.int i1), (.ref ad1), (.ref ad1)])) _
    refine XS.dloadN X15.here hx rfl (hb hby d4_28) rfl ?_
    show Steps p.tables e below (T15.setTop (mkF m 29 #[.val (.ref a1), .val (.double d9), .second] [(.double d9), (.int i2), (.double d4), (.double d3), (.double d2), (.double d1), (.int i1), (.ref ad1), (.ref ad1)])) _
    refine XS.aloadN X15.here hx rfl (hb hby d4_29) rfl rfl ?_
    show Steps p.tables e below (T15.setTop (mkF m 30 #[.val (.ref a1), .val (.double d9), .second] [(.ref a1), (.double d9), (.int i2), (.double d4), (.double d3), (.double d2), (.double d1), (.int i1), (.ref ad1), (.ref ad1)])) _
    refine st16 _ ?_
    show Steps p.tables e below (T16.setTop (mkF m 33 #[.val (.ref a1), .val (.double d9), .second] [(.long j1), (.double d9), (.int i2), (.double d4), (.double d3), (.double d2), (.double d1), (.int i1), (.ref ad1), (.ref ad1)])) _
    refine st17.trans ?_
    show Steps p.tables e below (T17.setTop (mkF m 36 #[.val (.ref a1), .val (.double d9), .second] [(.ref ad1)])) _
    exact retOut X17 hx Bd.returns rfl (Or.inr (Or.inr (Or.inr (Or.inr ⟨rfl, rfl, rfl⟩)))) (hb hby d4_36) hr
  · show Q_wp Z a1 d9 i1 d1 d2 d3 d4 i2 j1 h0 n0 _ T17.heap _
    show _
    exact ⟨ad1, rfl, Nn17, KK17, f01, p17_0, p17_1, p17_2, p17_3, p17_4, p17_5, p17_6, p17_7, p17_8⟩
theorem ef_gants (m : MethodId) (a1 : Addr) : entryFrame m #[(.ref a1)] 1 = (mkF m 0 #[.val (.ref a1)] []) := by first | (simp [entryFrame, mkF, argsToLocals, Value.category]; done) | rfl
def Q_gants (Z : State) (a1 : Addr) (i9 : Int32) (h0 : Heap) (n0 : Nat) (v : Option Value) (h : Heap) (L : List Loc) : Prop := v = some (.int i9) ∧ Fr n0 L ∧ h = h0
set_option maxRecDepth 65536 in
set_option maxHeartbeats 40000000 in
theorem rm_gants (l : Launch) (Z : State) (a0 : Array Value) (hw : ∀ d ∈ tables_1, d.before a0 Z = true) (ws : List Jvm.Cond) (a1 : Addr) (i9 : Int32) (h0 : Heap) (n0 : Nat) (Z0 : n0 ≤ h0.size) (k0_ : Fld Z h0 a1 "com/example/trailhive/trailhive/Colony$Settings" "ants" "I" (.int i9))   :
    MetFree l (⟨"com/example/trailhive/trailhive/Colony$Settings", "ants", "()I"⟩ : MethodName) (head1 (Jvm.Cond.code (⟨"com/example/trailhive/trailhive/Colony$Settings", "ants", "()I"⟩ : MethodName) prog_8_method_6_code 1 (some .int) :: ws) ({ frames := 0, cells := 0, slots := 0, locals := 0 } : Room)) (fun a U => a = #[(.ref a1)] ∧ Z.Warmed39 U.vm ∧ U.heap = h0) (fun _ _ _ _ _ => True) (fun _ U o U' => ∃ v L, o = .returned v ∧ Q_gants Z a1 i9 h0 n0 v U'.heap L ∧ FrameEnd U o U' L ({ frames := 0, cells := 0, slots := 0, locals := 0 } : Room).cells ({ frames := 0, cells := 0, slots := 0, locals := 0 } : Room).slots) := by
  refine MetFree.of_bodySF (plainFor_of_name pn_1) hisR ?_
  intro p e s m args below meth c s₁ Bd hml0 hP hK
  obtain ⟨rfl, hZ, hh⟩ := hP
  have hx := Bd.exec
  have hby := Bd.bytes
  have hml : c.maxLocals = 1 := hml0
  have hown : s.vm.findClass "com/example/trailhive/trailhive/Colony$Settings" = some m.cls := findClass_of_methodNamed Bd.named
  have hnm := (name_of_methodNamed Bd.named Bd.method).1
  have X0 : Stand p l e ({ frames := 0, cells := 0, slots := 0, locals := 0 } : Room) s m #[(.ref a1)] below meth c s₁ [] 0 0 := Stand.of_body Bd
  have e0 : s₁.heap = h0 := by rw [← hh, Bd.state]; rfl
  have N0 := Fr.nil n0
  have pre0 : ∀ t, Steps p.tables e below (s₁.setTop (mkF m 0 #[.val (.ref a1)] [])) t → Steps p.tables e below (s₁.setTop (entryFrame m #[(.ref a1)] 1)) t := fun t k => castTop (ef_gants m a1) k
  obtain ⟨T1, X1, e1, st1⟩ := getF X0 hx hZ hown (host := "") (Or.inl (hw _ (List.mem_of_getElem? (i := 14) rfl))) Via.refl e0 k0_ (g := (mkF m 1 #[.val (.ref a1)] [(.ref a1)])) rfl rfl (hb hby d5_1)
  obtain ⟨fs, hr, hrun, hended, hW, hsame⟩ := X1.leave (v := some (.int i9)) (fun h => by rw [Bd.returns] at h; cases h)
  refine ⟨_, _, pre0 _ ?_, hrun, hended, _, _, rfl, ?_, ⟨_, rfl⟩, hW, hsame.mono (Nat.le_of_ble_eq_true rfl) (Nat.le_of_ble_eq_true rfl)⟩
  · show Steps p.tables e below (s₁.setTop (mkF m 0 #[.val (.ref a1)] [])) _
    refine XS.aloadN X0.here hx rfl (hb hby d5_0) rfl rfl ?_
    show Steps p.tables e below (s₁.setTop (mkF m 1 #[.val (.ref a1)] [(.ref a1)])) _
    refine st1 _ ?_
    show Steps p.tables e below (T1.setTop (mkF m 4 #[.val (.ref a1)] [(.int i9)])) _
    exact retI X1 hx Bd.returns (hb hby d5_4) hr
  · show Q_gants Z a1 i9 h0 n0 _ T1.heap _
    exact ⟨rfl, N0, e1⟩
theorem ef_gq0 (m : MethodId) (a1 : Addr) : entryFrame m #[(.ref a1)] 1 = (mkF m 0 #[.val (.ref a1)] []) := by first | (simp [entryFrame, mkF, argsToLocals, Value.category]; done) | rfl
def Q_gq0 (Z : State) (a1 : Addr) (d9 : UInt64) (h0 : Heap) (n0 : Nat) (v : Option Value) (h : Heap) (L : List Loc) : Prop := v = some (.double d9) ∧ Fr n0 L ∧ h = h0
set_option maxRecDepth 65536 in
set_option maxHeartbeats 40000000 in
theorem rm_gq0 (l : Launch) (Z : State) (a0 : Array Value) (hw : ∀ d ∈ tables_1, d.before a0 Z = true) (ws : List Jvm.Cond) (a1 : Addr) (d9 : UInt64) (h0 : Heap) (n0 : Nat) (Z0 : n0 ≤ h0.size) (k0_ : Fld Z h0 a1 "com/example/trailhive/trailhive/Colony$Settings" "q0" "D" (.double d9))   :
    MetFree l (⟨"com/example/trailhive/trailhive/Colony$Settings", "q0", "()D"⟩ : MethodName) (head1 (Jvm.Cond.code (⟨"com/example/trailhive/trailhive/Colony$Settings", "q0", "()D"⟩ : MethodName) prog_8_method_7_code 1 (some .double) :: ws) ({ frames := 0, cells := 0, slots := 0, locals := 0 } : Room)) (fun a U => a = #[(.ref a1)] ∧ Z.Warmed39 U.vm ∧ U.heap = h0) (fun _ _ _ _ _ => True) (fun _ U o U' => ∃ v L, o = .returned v ∧ Q_gq0 Z a1 d9 h0 n0 v U'.heap L ∧ FrameEnd U o U' L ({ frames := 0, cells := 0, slots := 0, locals := 0 } : Room).cells ({ frames := 0, cells := 0, slots := 0, locals := 0 } : Room).slots) := by
  refine MetFree.of_bodySF (plainFor_of_name pn_1) hisR ?_
  intro p e s m args below meth c s₁ Bd hml0 hP hK
  obtain ⟨rfl, hZ, hh⟩ := hP
  have hx := Bd.exec
  have hby := Bd.bytes
  have hml : c.maxLocals = 1 := hml0
  have hown : s.vm.findClass "com/example/trailhive/trailhive/Colony$Settings" = some m.cls := findClass_of_methodNamed Bd.named
  have hnm := (name_of_methodNamed Bd.named Bd.method).1
  have X0 : Stand p l e ({ frames := 0, cells := 0, slots := 0, locals := 0 } : Room) s m #[(.ref a1)] below meth c s₁ [] 0 0 := Stand.of_body Bd
  have e0 : s₁.heap = h0 := by rw [← hh, Bd.state]; rfl
  have N0 := Fr.nil n0
  have pre0 : ∀ t, Steps p.tables e below (s₁.setTop (mkF m 0 #[.val (.ref a1)] [])) t → Steps p.tables e below (s₁.setTop (entryFrame m #[(.ref a1)] 1)) t := fun t k => castTop (ef_gq0 m a1) k
  obtain ⟨T1, X1, e1, st1⟩ := getF X0 hx hZ hown (host := "") (Or.inl (hw _ (List.mem_of_getElem? (i := 16) rfl))) Via.refl e0 k0_ (g := (mkF m 1 #[.val (.ref a1)] [(.ref a1)])) rfl rfl (hb hby d6_1)
  obtain ⟨fs, hr, hrun, hended, hW, hsame⟩ := X1.leave (v := some (.double d9)) (fun h => by rw [Bd.returns] at h; cases h)
  refine ⟨_, _, pre0 _ ?_, hrun, hended, _, _, rfl, ?_, ⟨_, rfl⟩, hW, hsame.mono (Nat.le_of_ble_eq_true rfl) (Nat.le_of_ble_eq_true rfl)⟩
  · show Steps p.tables e below (s₁.setTop (mkF m 0 #[.val (.ref a1)] [])) _
    refine XS.aloadN X0.here hx rfl (hb hby d6_0) rfl rfl ?_
    show Steps p.tables e below (s₁.setTop (mkF m 1 #[.val (.ref a1)] [(.ref a1)])) _
    refine st1 _ ?_
    show Steps p.tables e below (T1.setTop (mkF m 4 #[.val (.ref a1)] [(.double d9)])) _
    exact retOut X1 hx (t := .double) Bd.returns rfl (Or.inr (Or.inr (Or.inl ⟨rfl, rfl, _, rfl⟩))) (hb hby d6_4) hr
  · show Q_gq0 Z a1 d9 h0 n0 _ T1.heap _
    exact ⟨rfl, N0, e1⟩
theorem ef_galpha (m : MethodId) (a1 : Addr) : entryFrame m #[(.ref a1)] 1 = (mkF m 0 #[.val (.ref a1)] []) := by first | (simp [entryFrame, mkF, argsToLocals, Value.category]; done) | rfl
def Q_galpha (Z : State) (a1 : Addr) (d9 : UInt64) (h0 : Heap) (n0 : Nat) (v : Option Value) (h : Heap) (L : List Loc) : Prop := v = some (.double d9) ∧ Fr n0 L ∧ h = h0
set_option maxRecDepth 65536 in
set_option maxHeartbeats 40000000 in
theorem rm_galpha (l : Launch) (Z : State) (a0 : Array Value) (hw : ∀ d ∈ tables_1, d.before a0 Z = true) (ws : List Jvm.Cond) (a1 : Addr) (d9 : UInt64) (h0 : Heap) (n0 : Nat) (Z0 : n0 ≤ h0.size) (k0_ : Fld Z h0 a1 "com/example/trailhive/trailhive/Colony$Settings" "alpha" "D" (.double d9))   :
    MetFree l (⟨"com/example/trailhive/trailhive/Colony$Settings", "alpha", "()D"⟩ : MethodName) (head1 (Jvm.Cond.code (⟨"com/example/trailhive/trailhive/Colony$Settings", "alpha", "()D"⟩ : MethodName) prog_8_method_8_code 1 (some .double) :: ws) ({ frames := 0, cells := 0, slots := 0, locals := 0 } : Room)) (fun a U => a = #[(.ref a1)] ∧ Z.Warmed39 U.vm ∧ U.heap = h0) (fun _ _ _ _ _ => True) (fun _ U o U' => ∃ v L, o = .returned v ∧ Q_galpha Z a1 d9 h0 n0 v U'.heap L ∧ FrameEnd U o U' L ({ frames := 0, cells := 0, slots := 0, locals := 0 } : Room).cells ({ frames := 0, cells := 0, slots := 0, locals := 0 } : Room).slots) := by
  refine MetFree.of_bodySF (plainFor_of_name pn_1) hisR ?_
  intro p e s m args below meth c s₁ Bd hml0 hP hK
  obtain ⟨rfl, hZ, hh⟩ := hP
  have hx := Bd.exec
  have hby := Bd.bytes
  have hml : c.maxLocals = 1 := hml0
  have hown : s.vm.findClass "com/example/trailhive/trailhive/Colony$Settings" = some m.cls := findClass_of_methodNamed Bd.named
  have hnm := (name_of_methodNamed Bd.named Bd.method).1
  have X0 : Stand p l e ({ frames := 0, cells := 0, slots := 0, locals := 0 } : Room) s m #[(.ref a1)] below meth c s₁ [] 0 0 := Stand.of_body Bd
  have e0 : s₁.heap = h0 := by rw [← hh, Bd.state]; rfl
  have N0 := Fr.nil n0
  have pre0 : ∀ t, Steps p.tables e below (s₁.setTop (mkF m 0 #[.val (.ref a1)] [])) t → Steps p.tables e below (s₁.setTop (entryFrame m #[(.ref a1)] 1)) t := fun t k => castTop (ef_galpha m a1) k
  obtain ⟨T1, X1, e1, st1⟩ := getF X0 hx hZ hown (host := "") (Or.inl (hw _ (List.mem_of_getElem? (i := 18) rfl))) Via.refl e0 k0_ (g := (mkF m 1 #[.val (.ref a1)] [(.ref a1)])) rfl rfl (hb hby d7_1)
  obtain ⟨fs, hr, hrun, hended, hW, hsame⟩ := X1.leave (v := some (.double d9)) (fun h => by rw [Bd.returns] at h; cases h)
  refine ⟨_, _, pre0 _ ?_, hrun, hended, _, _, rfl, ?_, ⟨_, rfl⟩, hW, hsame.mono (Nat.le_of_ble_eq_true rfl) (Nat.le_of_ble_eq_true rfl)⟩
  · show Steps p.tables e below (s₁.setTop (mkF m 0 #[.val (.ref a1)] [])) _
    refine XS.aloadN X0.here hx rfl (hb hby d7_0) rfl rfl ?_
    show Steps p.tables e below (s₁.setTop (mkF m 1 #[.val (.ref a1)] [(.ref a1)])) _
    refine st1 _ ?_
    show Steps p.tables e below (T1.setTop (mkF m 4 #[.val (.ref a1)] [(.double d9)])) _
    exact retOut X1 hx (t := .double) Bd.returns rfl (Or.inr (Or.inr (Or.inl ⟨rfl, rfl, _, rfl⟩))) (hb hby d7_4) hr
  · show Q_galpha Z a1 d9 h0 n0 _ T1.heap _
    exact ⟨rfl, N0, e1⟩
theorem ef_gbeta (m : MethodId) (a1 : Addr) : entryFrame m #[(.ref a1)] 1 = (mkF m 0 #[.val (.ref a1)] []) := by first | (simp [entryFrame, mkF, argsToLocals, Value.category]; done) | rfl
def Q_gbeta (Z : State) (a1 : Addr) (d9 : UInt64) (h0 : Heap) (n0 : Nat) (v : Option Value) (h : Heap) (L : List Loc) : Prop := v = some (.double d9) ∧ Fr n0 L ∧ h = h0
set_option maxRecDepth 65536 in
set_option maxHeartbeats 40000000 in
theorem rm_gbeta (l : Launch) (Z : State) (a0 : Array Value) (hw : ∀ d ∈ tables_1, d.before a0 Z = true) (ws : List Jvm.Cond) (a1 : Addr) (d9 : UInt64) (h0 : Heap) (n0 : Nat) (Z0 : n0 ≤ h0.size) (k0_ : Fld Z h0 a1 "com/example/trailhive/trailhive/Colony$Settings" "beta" "D" (.double d9))   :
    MetFree l (⟨"com/example/trailhive/trailhive/Colony$Settings", "beta", "()D"⟩ : MethodName) (head1 (Jvm.Cond.code (⟨"com/example/trailhive/trailhive/Colony$Settings", "beta", "()D"⟩ : MethodName) prog_8_method_9_code 1 (some .double) :: ws) ({ frames := 0, cells := 0, slots := 0, locals := 0 } : Room)) (fun a U => a = #[(.ref a1)] ∧ Z.Warmed39 U.vm ∧ U.heap = h0) (fun _ _ _ _ _ => True) (fun _ U o U' => ∃ v L, o = .returned v ∧ Q_gbeta Z a1 d9 h0 n0 v U'.heap L ∧ FrameEnd U o U' L ({ frames := 0, cells := 0, slots := 0, locals := 0 } : Room).cells ({ frames := 0, cells := 0, slots := 0, locals := 0 } : Room).slots) := by
  refine MetFree.of_bodySF (plainFor_of_name pn_1) hisR ?_
  intro p e s m args below meth c s₁ Bd hml0 hP hK
  obtain ⟨rfl, hZ, hh⟩ := hP
  have hx := Bd.exec
  have hby := Bd.bytes
  have hml : c.maxLocals = 1 := hml0
  have hown : s.vm.findClass "com/example/trailhive/trailhive/Colony$Settings" = some m.cls := findClass_of_methodNamed Bd.named
  have hnm := (name_of_methodNamed Bd.named Bd.method).1
  have X0 : Stand p l e ({ frames := 0, cells := 0, slots := 0, locals := 0 } : Room) s m #[(.ref a1)] below meth c s₁ [] 0 0 := Stand.of_body Bd
  have e0 : s₁.heap = h0 := by rw [← hh, Bd.state]; rfl
  have N0 := Fr.nil n0
  have pre0 : ∀ t, Steps p.tables e below (s₁.setTop (mkF m 0 #[.val (.ref a1)] [])) t → Steps p.tables e below (s₁.setTop (entryFrame m #[(.ref a1)] 1)) t := fun t k => castTop (ef_gbeta m a1) k
  obtain ⟨T1, X1, e1, st1⟩ := getF X0 hx hZ hown (host := "") (Or.inl (hw _ (List.mem_of_getElem? (i := 20) rfl))) Via.refl e0 k0_ (g := (mkF m 1 #[.val (.ref a1)] [(.ref a1)])) rfl rfl (hb hby d8_1)
  obtain ⟨fs, hr, hrun, hended, hW, hsame⟩ := X1.leave (v := some (.double d9)) (fun h => by rw [Bd.returns] at h; cases h)
  refine ⟨_, _, pre0 _ ?_, hrun, hended, _, _, rfl, ?_, ⟨_, rfl⟩, hW, hsame.mono (Nat.le_of_ble_eq_true rfl) (Nat.le_of_ble_eq_true rfl)⟩
  · show Steps p.tables e below (s₁.setTop (mkF m 0 #[.val (.ref a1)] [])) _
    refine XS.aloadN X0.here hx rfl (hb hby d8_0) rfl rfl ?_
    show Steps p.tables e below (s₁.setTop (mkF m 1 #[.val (.ref a1)] [(.ref a1)])) _
    refine st1 _ ?_
    show Steps p.tables e below (T1.setTop (mkF m 4 #[.val (.ref a1)] [(.double d9)])) _
    exact retOut X1 hx (t := .double) Bd.returns rfl (Or.inr (Or.inr (Or.inl ⟨rfl, rfl, _, rfl⟩))) (hb hby d8_4) hr
  · show Q_gbeta Z a1 d9 h0 n0 _ T1.heap _
    exact ⟨rfl, N0, e1⟩
theorem ef_grho (m : MethodId) (a1 : Addr) : entryFrame m #[(.ref a1)] 1 = (mkF m 0 #[.val (.ref a1)] []) := by first | (simp [entryFrame, mkF, argsToLocals, Value.category]; done) | rfl
def Q_grho (Z : State) (a1 : Addr) (d9 : UInt64) (h0 : Heap) (n0 : Nat) (v : Option Value) (h : Heap) (L : List Loc) : Prop := v = some (.double d9) ∧ Fr n0 L ∧ h = h0
set_option maxRecDepth 65536 in
set_option maxHeartbeats 40000000 in
theorem rm_grho (l : Launch) (Z : State) (a0 : Array Value) (hw : ∀ d ∈ tables_1, d.before a0 Z = true) (ws : List Jvm.Cond) (a1 : Addr) (d9 : UInt64) (h0 : Heap) (n0 : Nat) (Z0 : n0 ≤ h0.size) (k0_ : Fld Z h0 a1 "com/example/trailhive/trailhive/Colony$Settings" "rho" "D" (.double d9))   :
    MetFree l (⟨"com/example/trailhive/trailhive/Colony$Settings", "rho", "()D"⟩ : MethodName) (head1 (Jvm.Cond.code (⟨"com/example/trailhive/trailhive/Colony$Settings", "rho", "()D"⟩ : MethodName) prog_8_method_10_code 1 (some .double) :: ws) ({ frames := 0, cells := 0, slots := 0, locals := 0 } : Room)) (fun a U => a = #[(.ref a1)] ∧ Z.Warmed39 U.vm ∧ U.heap = h0) (fun _ _ _ _ _ => True) (fun _ U o U' => ∃ v L, o = .returned v ∧ Q_grho Z a1 d9 h0 n0 v U'.heap L ∧ FrameEnd U o U' L ({ frames := 0, cells := 0, slots := 0, locals := 0 } : Room).cells ({ frames := 0, cells := 0, slots := 0, locals := 0 } : Room).slots) := by
  refine MetFree.of_bodySF (plainFor_of_name pn_1) hisR ?_
  intro p e s m args below meth c s₁ Bd hml0 hP hK
  obtain ⟨rfl, hZ, hh⟩ := hP
  have hx := Bd.exec
  have hby := Bd.bytes
  have hml : c.maxLocals = 1 := hml0
  have hown : s.vm.findClass "com/example/trailhive/trailhive/Colony$Settings" = some m.cls := findClass_of_methodNamed Bd.named
  have hnm := (name_of_methodNamed Bd.named Bd.method).1
  have X0 : Stand p l e ({ frames := 0, cells := 0, slots := 0, locals := 0 } : Room) s m #[(.ref a1)] below meth c s₁ [] 0 0 := Stand.of_body Bd
  have e0 : s₁.heap = h0 := by rw [← hh, Bd.state]; rfl
  have N0 := Fr.nil n0
  have pre0 : ∀ t, Steps p.tables e below (s₁.setTop (mkF m 0 #[.val (.ref a1)] [])) t → Steps p.tables e below (s₁.setTop (entryFrame m #[(.ref a1)] 1)) t := fun t k => castTop (ef_grho m a1) k
  obtain ⟨T1, X1, e1, st1⟩ := getF X0 hx hZ hown (host := "") (Or.inl (hw _ (List.mem_of_getElem? (i := 22) rfl))) Via.refl e0 k0_ (g := (mkF m 1 #[.val (.ref a1)] [(.ref a1)])) rfl rfl (hb hby d9_1)
  obtain ⟨fs, hr, hrun, hended, hW, hsame⟩ := X1.leave (v := some (.double d9)) (fun h => by rw [Bd.returns] at h; cases h)
  refine ⟨_, _, pre0 _ ?_, hrun, hended, _, _, rfl, ?_, ⟨_, rfl⟩, hW, hsame.mono (Nat.le_of_ble_eq_true rfl) (Nat.le_of_ble_eq_true rfl)⟩
  · show Steps p.tables e below (s₁.setTop (mkF m 0 #[.val (.ref a1)] [])) _
    refine XS.aloadN X0.here hx rfl (hb hby d9_0) rfl rfl ?_
    show Steps p.tables e below (s₁.setTop (mkF m 1 #[.val (.ref a1)] [(.ref a1)])) _
    refine st1 _ ?_
    show Steps p.tables e below (T1.setTop (mkF m 4 #[.val (.ref a1)] [(.double d9)])) _
    exact retOut X1 hx (t := .double) Bd.returns rfl (Or.inr (Or.inr (Or.inl ⟨rfl, rfl, _, rfl⟩))) (hb hby d9_4) hr
  · show Q_grho Z a1 d9 h0 n0 _ T1.heap _
    exact ⟨rfl, N0, e1⟩
theorem ef_gcandidates (m : MethodId) (a1 : Addr) : entryFrame m #[(.ref a1)] 1 = (mkF m 0 #[.val (.ref a1)] []) := by first | (simp [entryFrame, mkF, argsToLocals, Value.category]; done) | rfl
def Q_gcandidates (Z : State) (a1 : Addr) (i9 : Int32) (h0 : Heap) (n0 : Nat) (v : Option Value) (h : Heap) (L : List Loc) : Prop := v = some (.int i9) ∧ Fr n0 L ∧ h = h0
set_option maxRecDepth 65536 in
set_option maxHeartbeats 40000000 in
theorem rm_gcandidates (l : Launch) (Z : State) (a0 : Array Value) (hw : ∀ d ∈ tables_1, d.before a0 Z = true) (ws : List Jvm.Cond) (a1 : Addr) (i9 : Int32) (h0 : Heap) (n0 : Nat) (Z0 : n0 ≤ h0.size) (k0_ : Fld Z h0 a1 "com/example/trailhive/trailhive/Colony$Settings" "candidates" "I" (.int i9))   :
    MetFree l (⟨"com/example/trailhive/trailhive/Colony$Settings", "candidates", "()I"⟩ : MethodName) (head1 (Jvm.Cond.code (⟨"com/example/trailhive/trailhive/Colony$Settings", "candidates", "()I"⟩ : MethodName) prog_8_method_11_code 1 (some .int) :: ws) ({ frames := 0, cells := 0, slots := 0, locals := 0 } : Room)) (fun a U => a = #[(.ref a1)] ∧ Z.Warmed39 U.vm ∧ U.heap = h0) (fun _ _ _ _ _ => True) (fun _ U o U' => ∃ v L, o = .returned v ∧ Q_gcandidates Z a1 i9 h0 n0 v U'.heap L ∧ FrameEnd U o U' L ({ frames := 0, cells := 0, slots := 0, locals := 0 } : Room).cells ({ frames := 0, cells := 0, slots := 0, locals := 0 } : Room).slots) := by
  refine MetFree.of_bodySF (plainFor_of_name pn_1) hisR ?_
  intro p e s m args below meth c s₁ Bd hml0 hP hK
  obtain ⟨rfl, hZ, hh⟩ := hP
  have hx := Bd.exec
  have hby := Bd.bytes
  have hml : c.maxLocals = 1 := hml0
  have hown : s.vm.findClass "com/example/trailhive/trailhive/Colony$Settings" = some m.cls := findClass_of_methodNamed Bd.named
  have hnm := (name_of_methodNamed Bd.named Bd.method).1
  have X0 : Stand p l e ({ frames := 0, cells := 0, slots := 0, locals := 0 } : Room) s m #[(.ref a1)] below meth c s₁ [] 0 0 := Stand.of_body Bd
  have e0 : s₁.heap = h0 := by rw [← hh, Bd.state]; rfl
  have N0 := Fr.nil n0
  have pre0 : ∀ t, Steps p.tables e below (s₁.setTop (mkF m 0 #[.val (.ref a1)] [])) t → Steps p.tables e below (s₁.setTop (entryFrame m #[(.ref a1)] 1)) t := fun t k => castTop (ef_gcandidates m a1) k
  obtain ⟨T1, X1, e1, st1⟩ := getF X0 hx hZ hown (host := "") (Or.inl (hw _ (List.mem_of_getElem? (i := 24) rfl))) Via.refl e0 k0_ (g := (mkF m 1 #[.val (.ref a1)] [(.ref a1)])) rfl rfl (hb hby d10_1)
  obtain ⟨fs, hr, hrun, hended, hW, hsame⟩ := X1.leave (v := some (.int i9)) (fun h => by rw [Bd.returns] at h; cases h)
  refine ⟨_, _, pre0 _ ?_, hrun, hended, _, _, rfl, ?_, ⟨_, rfl⟩, hW, hsame.mono (Nat.le_of_ble_eq_true rfl) (Nat.le_of_ble_eq_true rfl)⟩
  · show Steps p.tables e below (s₁.setTop (mkF m 0 #[.val (.ref a1)] [])) _
    refine XS.aloadN X0.here hx rfl (hb hby d10_0) rfl rfl ?_
    show Steps p.tables e below (s₁.setTop (mkF m 1 #[.val (.ref a1)] [(.ref a1)])) _
    refine st1 _ ?_
    show Steps p.tables e below (T1.setTop (mkF m 4 #[.val (.ref a1)] [(.int i9)])) _
    exact retI X1 hx Bd.returns (hb hby d10_4) hr
  · show Q_gcandidates Z a1 i9 h0 n0 _ T1.heap _
    exact ⟨rfl, N0, e1⟩
theorem ef_gpreserve (m : MethodId) (a1 : Addr) : entryFrame m #[(.ref a1)] 1 = (mkF m 0 #[.val (.ref a1)] []) := by first | (simp [entryFrame, mkF, argsToLocals, Value.category]; done) | rfl
def Q_gpreserve (Z : State) (a1 : Addr) (d9 : UInt64) (h0 : Heap) (n0 : Nat) (v : Option Value) (h : Heap) (L : List Loc) : Prop := v = some (.double d9) ∧ Fr n0 L ∧ h = h0
set_option maxRecDepth 65536 in
set_option maxHeartbeats 40000000 in
theorem rm_gpreserve (l : Launch) (Z : State) (a0 : Array Value) (hw : ∀ d ∈ tables_1, d.before a0 Z = true) (ws : List Jvm.Cond) (a1 : Addr) (d9 : UInt64) (h0 : Heap) (n0 : Nat) (Z0 : n0 ≤ h0.size) (k0_ : Fld Z h0 a1 "com/example/trailhive/trailhive/Colony$Settings" "preserve" "D" (.double d9))   :
    MetFree l (⟨"com/example/trailhive/trailhive/Colony$Settings", "preserve", "()D"⟩ : MethodName) (head1 (Jvm.Cond.code (⟨"com/example/trailhive/trailhive/Colony$Settings", "preserve", "()D"⟩ : MethodName) prog_8_method_12_code 1 (some .double) :: ws) ({ frames := 0, cells := 0, slots := 0, locals := 0 } : Room)) (fun a U => a = #[(.ref a1)] ∧ Z.Warmed39 U.vm ∧ U.heap = h0) (fun _ _ _ _ _ => True) (fun _ U o U' => ∃ v L, o = .returned v ∧ Q_gpreserve Z a1 d9 h0 n0 v U'.heap L ∧ FrameEnd U o U' L ({ frames := 0, cells := 0, slots := 0, locals := 0 } : Room).cells ({ frames := 0, cells := 0, slots := 0, locals := 0 } : Room).slots) := by
  refine MetFree.of_bodySF (plainFor_of_name pn_1) hisR ?_
  intro p e s m args below meth c s₁ Bd hml0 hP hK
  obtain ⟨rfl, hZ, hh⟩ := hP
  have hx := Bd.exec
  have hby := Bd.bytes
  have hml : c.maxLocals = 1 := hml0
  have hown : s.vm.findClass "com/example/trailhive/trailhive/Colony$Settings" = some m.cls := findClass_of_methodNamed Bd.named
  have hnm := (name_of_methodNamed Bd.named Bd.method).1
  have X0 : Stand p l e ({ frames := 0, cells := 0, slots := 0, locals := 0 } : Room) s m #[(.ref a1)] below meth c s₁ [] 0 0 := Stand.of_body Bd
  have e0 : s₁.heap = h0 := by rw [← hh, Bd.state]; rfl
  have N0 := Fr.nil n0
  have pre0 : ∀ t, Steps p.tables e below (s₁.setTop (mkF m 0 #[.val (.ref a1)] [])) t → Steps p.tables e below (s₁.setTop (entryFrame m #[(.ref a1)] 1)) t := fun t k => castTop (ef_gpreserve m a1) k
  obtain ⟨T1, X1, e1, st1⟩ := getF X0 hx hZ hown (host := "") (Or.inl (hw _ (List.mem_of_getElem? (i := 26) rfl))) Via.refl e0 k0_ (g := (mkF m 1 #[.val (.ref a1)] [(.ref a1)])) rfl rfl (hb hby d12_1)
  obtain ⟨fs, hr, hrun, hended, hW, hsame⟩ := X1.leave (v := some (.double d9)) (fun h => by rw [Bd.returns] at h; cases h)
  refine ⟨_, _, pre0 _ ?_, hrun, hended, _, _, rfl, ?_, ⟨_, rfl⟩, hW, hsame.mono (Nat.le_of_ble_eq_true rfl) (Nat.le_of_ble_eq_true rfl)⟩
  · show Steps p.tables e below (s₁.setTop (mkF m 0 #[.val (.ref a1)] [])) _
    refine XS.aloadN X0.here hx rfl (hb hby d12_0) rfl rfl ?_
    show Steps p.tables e below (s₁.setTop (mkF m 1 #[.val (.ref a1)] [(.ref a1)])) _
    refine st1 _ ?_
    show Steps p.tables e below (T1.setTop (mkF m 4 #[.val (.ref a1)] [(.double d9)])) _
    exact retOut X1 hx (t := .double) Bd.returns rfl (Or.inr (Or.inr (Or.inl ⟨rfl, rfl, _, rfl⟩))) (hb hby d12_4) hr
  · show Q_gpreserve Z a1 d9 h0 n0 _ T1.heap _
    exact ⟨rfl, N0, e1⟩
theorem ef_gseed (m : MethodId) (a1 : Addr) : entryFrame m #[(.ref a1)] 1 = (mkF m 0 #[.val (.ref a1)] []) := by first | (simp [entryFrame, mkF, argsToLocals, Value.category]; done) | rfl
def Q_gseed (Z : State) (a1 : Addr) (j9 : Int64) (h0 : Heap) (n0 : Nat) (v : Option Value) (h : Heap) (L : List Loc) : Prop := v = some (.long j9) ∧ Fr n0 L ∧ h = h0
set_option maxRecDepth 65536 in
set_option maxHeartbeats 40000000 in
theorem rm_gseed (l : Launch) (Z : State) (a0 : Array Value) (hw : ∀ d ∈ tables_1, d.before a0 Z = true) (ws : List Jvm.Cond) (a1 : Addr) (j9 : Int64) (h0 : Heap) (n0 : Nat) (Z0 : n0 ≤ h0.size) (k0_ : Fld Z h0 a1 "com/example/trailhive/trailhive/Colony$Settings" "seed" "J" (.long j9))   :
    MetFree l (⟨"com/example/trailhive/trailhive/Colony$Settings", "seed", "()J"⟩ : MethodName) (head1 (Jvm.Cond.code (⟨"com/example/trailhive/trailhive/Colony$Settings", "seed", "()J"⟩ : MethodName) prog_8_method_13_code 1 (some .long) :: ws) ({ frames := 0, cells := 0, slots := 0, locals := 0 } : Room)) (fun a U => a = #[(.ref a1)] ∧ Z.Warmed39 U.vm ∧ U.heap = h0) (fun _ _ _ _ _ => True) (fun _ U o U' => ∃ v L, o = .returned v ∧ Q_gseed Z a1 j9 h0 n0 v U'.heap L ∧ FrameEnd U o U' L ({ frames := 0, cells := 0, slots := 0, locals := 0 } : Room).cells ({ frames := 0, cells := 0, slots := 0, locals := 0 } : Room).slots) := by
  refine MetFree.of_bodySF (plainFor_of_name pn_1) hisR ?_
  intro p e s m args below meth c s₁ Bd hml0 hP hK
  obtain ⟨rfl, hZ, hh⟩ := hP
  have hx := Bd.exec
  have hby := Bd.bytes
  have hml : c.maxLocals = 1 := hml0
  have hown : s.vm.findClass "com/example/trailhive/trailhive/Colony$Settings" = some m.cls := findClass_of_methodNamed Bd.named
  have hnm := (name_of_methodNamed Bd.named Bd.method).1
  have X0 : Stand p l e ({ frames := 0, cells := 0, slots := 0, locals := 0 } : Room) s m #[(.ref a1)] below meth c s₁ [] 0 0 := Stand.of_body Bd
  have e0 : s₁.heap = h0 := by rw [← hh, Bd.state]; rfl
  have N0 := Fr.nil n0
  have pre0 : ∀ t, Steps p.tables e below (s₁.setTop (mkF m 0 #[.val (.ref a1)] [])) t → Steps p.tables e below (s₁.setTop (entryFrame m #[(.ref a1)] 1)) t := fun t k => castTop (ef_gseed m a1) k
  obtain ⟨T1, X1, e1, st1⟩ := getF X0 hx hZ hown (host := "") (Or.inl (hw _ (List.mem_of_getElem? (i := 28) rfl))) Via.refl e0 k0_ (g := (mkF m 1 #[.val (.ref a1)] [(.ref a1)])) rfl rfl (hb hby d11_1)
  obtain ⟨fs, hr, hrun, hended, hW, hsame⟩ := X1.leave (v := some (.long j9)) (fun h => by rw [Bd.returns] at h; cases h)
  refine ⟨_, _, pre0 _ ?_, hrun, hended, _, _, rfl, ?_, ⟨_, rfl⟩, hW, hsame.mono (Nat.le_of_ble_eq_true rfl) (Nat.le_of_ble_eq_true rfl)⟩
  · show Steps p.tables e below (s₁.setTop (mkF m 0 #[.val (.ref a1)] [])) _
    refine XS.aloadN X0.here hx rfl (hb hby d11_0) rfl rfl ?_
    show Steps p.tables e below (s₁.setTop (mkF m 1 #[.val (.ref a1)] [(.ref a1)])) _
    refine st1 _ ?_
    show Steps p.tables e below (T1.setTop (mkF m 4 #[.val (.ref a1)] [(.long j9)])) _
    exact retOut X1 hx (t := .long) Bd.returns rfl (Or.inr (Or.inl ⟨rfl, rfl, _, rfl⟩)) (hb hby d11_4) hr
  · show Q_gseed Z a1 j9 h0 n0 _ T1.heap _
    exact ⟨rfl, N0, e1⟩
theorem ef_lw (m : MethodId) (p1 : Int32) (p2 : Int32) (p3 : Int64) (p4 : Int32) (p5 : Int32) (p6 : Int32) : entryFrame m #[(.int p1), (.int p2), (.long p3), (.int p4), (.int p5), (.int p6)] maxLocals = (mkF m 0 #[.val (.int p1), .val (.int p2), .val (.long p3), .second, .val (.int p4), .val (.int p5), .val (.int p6), .unset, .unset, .unset, .unset, .unset, .unset, .unset, .unset, .unset, .unset, .unset, .unset, .unset, .unset, .unset, .unset, .unset] []) := by first | (simp [entryFrame, mkF, argsToLocals, Value.category, maxLocals]; done) | rfl
def Q_lw (Z : State) (p1 : Int32) (p2 : Int32) (p3 : Int64) (p4 : Int32) (p5 : Int32) (p6 : Int32)  (h0 : Heap) (n0 : Nat) (v : Option Value) (h : Heap) (L : List Loc) : Prop := v = some (.int 1) ∧ Fr n0 L
set_option maxRecDepth 65536 in
set_option maxHeartbeats 40000000 in
theorem rm_lw (l : Launch) (Z : State) (a0 : Array Value) (hw : ∀ d ∈ tables_1, d.before a0 Z = true) (ws : List Jvm.Cond) (p1 : Int32) (p2 : Int32) (p3 : Int64) (p4 : Int32) (p5 : Int32) (p6 : Int32)  (h0 : Heap) (n0 : Nat) (Z0 : n0 ≤ h0.size)    :
    MetFree l x (head1 (Jvm.Cond.code x code maxLocals ret :: ws) room_1) (fun a U => a = #[(.int p1), (.int p2), (.long p3), (.int p4), (.int p5), (.int p6)] ∧ Z.Warmed39 U.vm ∧ U.heap = h0) (fun _ _ _ _ _ => True) (fun _ U o U' => ∃ v L, o = .returned v ∧ Q_lw Z p1 p2 p3 p4 p5 p6  h0 n0 v U'.heap L ∧ FrameEnd U o U' L 2 16) := by
  refine MetFree.of_bodySF (plainFor_of_name pn_2) hisR ?_
  intro p e s m args below meth c s₁ Bd hml0 hP hK
  obtain ⟨rfl, hZ, hh⟩ := hP
  have hx := Bd.exec
  have hby := Bd.bytes
  have hml : c.maxLocals = 24 := hml0
  have hown : s.vm.findClass "com/example/trailhive/trailhive/SettingsWithPreservePinLaw" = some m.cls := findClass_of_methodNamed Bd.named
  have hnm := (name_of_methodNamed Bd.named Bd.method).1
  have X0 : Stand p l e room_1 s m #[(.int p1), (.int p2), (.long p3), (.int p4), (.int p5), (.int p6)] below meth c s₁ [] 0 0 := Stand.of_body Bd
  have e0 : s₁.heap = h0 := by rw [← hh, Bd.state]; rfl
  have N0 := Fr.nil n0
  have pre0 : ∀ t, Steps p.tables e below (s₁.setTop (mkF m 0 #[.val (.int p1), .val (.int p2), .val (.long p3), .second, .val (.int p4), .val (.int p5), .val (.int p6), .unset, .unset, .unset, .unset, .unset, .unset, .unset, .unset, .unset, .unset, .unset, .unset, .unset, .unset, .unset, .unset, .unset] [])) t → Steps p.tables e below (s₁.setTop (entryFrame m #[(.int p1), (.int p2), (.long p3), (.int p4), (.int p5), (.int p6)] maxLocals)) t := fun t k => castTop (ef_lw m p1 p2 p3 p4 p5 p6) k
  obtain ⟨T1, h1, X1, e1, E1, A1, D1, -, st1⟩ := newO X0 hx hZ hown (hw _ (List.mem_of_getElem? (i := 0) rfl)) (hw _ (List.mem_of_getElem? (i := 1) rfl)) (hw _ (List.mem_of_getElem? (i := 2) rfl)) e0 (g := (mkF m 43 #[.val (.int p1), .val (.int p2), .val (.long p3), .second, .val (.int p4), .val (.int p5), .val (.int p6), .val (.double (lw_q0 p1 p2 p3 p4 p5 p6)), .second, .val (.double (lw_alpha p1 p2 p3 p4 p5 p6)), .second, .val (.double (lw_beta p1 p2 p3 p4 p5 p6)), .second, .val (.double (lw_rho p1 p2 p3 p4 p5 p6)), .second, .val (.double (lw_pres p1 p2 p3 p4 p5 p6)), .second, .val (.double (lw_np p1 p2 p3 p4 p5 p6)), .second, .unset, .unset, .unset, .unset, .unset] [])) rfl (hb hby at_43) (by decide) (by decide)
  obtain ⟨ad1, g1⟩ : ∃ z, z = (h0).size := ⟨_, rfl⟩
  rw [← g1] at A1 D1 st1
  have F1_0 : Fld Z h1 ad1 "com/example/trailhive/trailhive/Colony$Settings" "ants" "I" (.int (0 : Int32)) := (D1 (Or.inr (hw _ (List.mem_of_getElem? (i := 15) rfl))) (ty := .int) (by decide))
  have F1_1 : Fld Z h1 ad1 "com/example/trailhive/trailhive/Colony$Settings" "q0" "D" (.double (0 : UInt64)) := (D1 (Or.inr (hw _ (List.mem_of_getElem? (i := 17) rfl))) (ty := .double) (by decide))
  have F1_2 : Fld Z h1 ad1 "com/example/trailhive/trailhive/Colony$Settings" "alpha" "D" (.double (0 : UInt64)) := (D1 (Or.inr (hw _ (List.mem_of_getElem? (i := 19) rfl))) (ty := .double) (by decide))
  have F1_3 : Fld Z h1 ad1 "com/example/trailhive/trailhive/Colony$Settings" "beta" "D" (.double (0 : UInt64)) := (D1 (Or.inr (hw _ (List.mem_of_getElem? (i := 21) rfl))) (ty := .double) (by decide))
  have F1_4 : Fld Z h1 ad1 "com/example/trailhive/trailhive/Colony$Settings" "rho" "D" (.double (0 : UInt64)) := (D1 (Or.inr (hw _ (List.mem_of_getElem? (i := 23) rfl))) (ty := .double) (by decide))
  have F1_5 : Fld Z h1 ad1 "com/example/trailhive/trailhive/Colony$Settings" "candidates" "I" (.int (0 : Int32)) := (D1 (Or.inr (hw _ (List.mem_of_getElem? (i := 25) rfl))) (ty := .int) (by decide))
  have F1_6 : Fld Z h1 ad1 "com/example/trailhive/trailhive/Colony$Settings" "preserve" "D" (.double (0 : UInt64)) := (D1 (Or.inr (hw _ (List.mem_of_getElem? (i := 27) rfl))) (ty := .double) (by decide))
  have F1_7 : Fld Z h1 ad1 "com/example/trailhive/trailhive/Colony$Settings" "seed" "J" (.long (0 : Int64)) := (D1 (Or.inr (hw _ (List.mem_of_getElem? (i := 29) rfl))) (ty := .long) (by decide))
  have Z1 : n0 ≤ h1.size := Nat.le_trans Z0 E1.1
  have gn1 : n0 ≤ ad1 := Nat.le_trans Z0 (Nat.le_of_eq g1.symm)
  obtain ⟨_, _, ⟨T2, L2, k2, n2⟩, -, X2, ⟨Lc2, hQ2, l2, y2, z2⟩, st2⟩ := X1.specialBack hx (y := (⟨"com/example/trailhive/trailhive/Colony$Settings", "<init>", "(IDDDDIDJ)V"⟩ : MethodName)) rfl hown (mvT hZ (hw _ (List.mem_of_getElem? (i := 3) rfl))) (mvT hZ (hw _ (List.mem_of_getElem? (i := 4) rfl))) (mvT hZ (hw _ (List.mem_of_getElem? (i := 5) rfl))) (by decide) (backOf (W := 1) (rm_ini l Z a0 hw [] ad1 p1 (lw_q0 p1 p2 p3 p4 p5 p6) (lw_alpha p1 p2 p3 p4 p5 p6) (lw_beta p1 p2 p3 p4 p5 p6) (lw_rho p1 p2 p3 p4 p5 p6) p2 (lw_pres p1 p2 p3 p4 p5 p6) p3  (h1) n0 Z1 F1_0 F1_1 F1_2 F1_3 F1_4 F1_5 F1_6 F1_7 A1 gn1 ) hZ (hw _ (List.mem_of_getElem? (i := 5) rfl)) (hw _ (List.mem_of_getElem? (i := 2) rfl)) (by decide) (by decide)) (g := (mkF m 60 #[.val (.int p1), .val (.int p2), .val (.long p3), .second, .val (.int p4), .val (.int p5), .val (.int p6), .val (.double (lw_q0 p1 p2 p3 p4 p5 p6)), .second, .val (.double (lw_alpha p1 p2 p3 p4 p5 p6)), .second, .val (.double (lw_beta p1 p2 p3 p4 p5 p6)), .second, .val (.double (lw_rho p1 p2 p3 p4 p5 p6)), .second, .val (.double (lw_pres p1 p2 p3 p4 p5 p6)), .second, .val (.double (lw_np p1 p2 p3 p4 p5 p6)), .second, .unset, .unset, .unset, .unset, .unset] [(.long p3), (.double (lw_pres p1 p2 p3 p4 p5 p6)), (.int p2), (.double (lw_rho p1 p2 p3 p4 p5 p6)), (.double (lw_beta p1 p2 p3 p4 p5 p6)), (.double (lw_alpha p1 p2 p3 p4 p5 p6)), (.double (lw_q0 p1 p2 p3 p4 p5 p6)), (.int p1), (.ref ad1), (.ref ad1)])) rfl (by rw [hml]; rfl) (Steps.refl _) (a := ad1) (argsL := [(.int p1), (.double (lw_q0 p1 p2 p3 p4 p5 p6)), (.double (lw_alpha p1 p2 p3 p4 p5 p6)), (.double (lw_beta p1 p2 p3 p4 p5 p6)), (.double (lw_rho p1 p2 p3 p4 p5 p6)), (.int p2), (.double (lw_pres p1 p2 p3 p4 p5 p6)), (.long p3)]) (rest := [(.ref ad1)]) (lenOf pd_1 rfl) rfl (by show 2 * 0 + _ ≤ _; exact Nat.le_of_eq rfl) (hb hby at_60) (fun _ _ => ⟨rfl, e1, (by decide : 1 + 0 ≤ _), (by decide : 8 + 0 ≤ _)⟩)
  dsimp only [Pt.U, Pt.locs, Pt.cells, Pt.slots] at X2 l2 y2 z2 st2 hQ2
  subst l2 y2 z2
  obtain ⟨rfl, N2, K2, p2_0, p2_1, p2_2, p2_3, p2_4, p2_5, p2_6, p2_7, p2_8⟩ := hQ2
  have Nn2 := Fr.app N0 N2
  have Z2 : n0 ≤ T2.heap.size := Nat.le_trans Z1 K2.1
  obtain ⟨cq3, kq3, qa3, qb3, qc3⟩ := isOf hZ rfl p2_0
  obtain ⟨_, _, ⟨T3, L3, k3, n3⟩, -, X3, ⟨Lc3, hQ3, l3, y3, z3⟩, st3⟩ := X2.virtualBack hx (y := (⟨"com/example/trailhive/trailhive/Colony$Settings", "withPreserve", "(D)Lcom/example/trailhive/trailhive/Colony$Settings;"⟩ : MethodName)) (z := (⟨"com/example/trailhive/trailhive/Colony$Settings", "withPreserve", "(D)Lcom/example/trailhive/trailhive/Colony$Settings;"⟩ : MethodName)) hown (mvT hZ (hw _ (List.mem_of_getElem? (i := 30) rfl))) (mvT hZ (hw _ (List.mem_of_getElem? (i := 31) rfl))) (notFace_of_selects (args := #[]) (mvT hZ (hw _ (List.mem_of_getElem? (i := 33) rfl)))) (mvT hZ (hw _ (List.mem_of_getElem? (i := 33) rfl))) (mvT hZ (hw _ (List.mem_of_getElem? (i := 32) rfl))) (by decide) (backOf (W := 0) (rm_wp l Z a0 hw [] ad1 (lw_np p1 p2 p3 p4 p5 p6) p1 (lw_q0 p1 p2 p3 p4 p5 p6) (lw_alpha p1 p2 p3 p4 p5 p6) (lw_beta p1 p2 p3 p4 p5 p6) (lw_rho p1 p2 p3 p4 p5 p6) p2 p3 (T2.heap) n0 Z2 p2_0 p2_1 p2_2 p2_3 p2_4 p2_5 p2_6 p2_8 ) hZ (hw _ (List.mem_of_getElem? (i := 34) rfl)) (hw _ (List.mem_of_getElem? (i := 2) rfl)) (by decide) (by decide)) qa3 qc3 (g := (mkF m 69 #[.val (.int p1), .val (.int p2), .val (.long p3), .second, .val (.int p4), .val (.int p5), .val (.int p6), .val (.double (lw_q0 p1 p2 p3 p4 p5 p6)), .second, .val (.double (lw_alpha p1 p2 p3 p4 p5 p6)), .second, .val (.double (lw_beta p1 p2 p3 p4 p5 p6)), .second, .val (.double (lw_rho p1 p2 p3 p4 p5 p6)), .second, .val (.double (lw_pres p1 p2 p3 p4 p5 p6)), .second, .val (.double (lw_np p1 p2 p3 p4 p5 p6)), .second, .val (.ref ad1), .unset, .unset, .unset, .unset] [(.double (lw_np p1 p2 p3 p4 p5 p6)), (.ref ad1)])) rfl (by rw [hml]; rfl) (Steps.refl _) (argsL := [(.double (lw_np p1 p2 p3 p4 p5 p6))]) (rest := []) (lenOf pd_2 rfl) rfl (by show 2 * 0 + _ ≤ _; exact Nat.le_of_eq rfl) (hb hby at_69) (fun _ _ => ⟨rfl, rfl, (by decide : 1 + 1 ≤ _), (by decide : 8 + 8 ≤ _)⟩)
  dsimp only [Pt.U, Pt.locs, Pt.cells, Pt.slots] at X3 l3 y3 z3 st3 hQ3
  subst l3 y3 z3
  obtain ⟨ad3, rfl, N3, K3, fr3, p3_0, p3_1, p3_2, p3_3, p3_4, p3_5, p3_6, p3_7, p3_8⟩ := hQ3
  have Nn3 := Fr.app Nn2 N3
  have q4 : Exa Z T3.heap ad1 "com/example/trailhive/trailhive/Colony$Settings" := (p2_0.keep K3)
  have q5 : Fld Z T3.heap ad1 "com/example/trailhive/trailhive/Colony$Settings" "ants" "I" (.int p1) := (p2_1.keep K3 (fun q => nomatch q))
  have q6 : Fld Z T3.heap ad1 "com/example/trailhive/trailhive/Colony$Settings" "q0" "D" (.double (lw_q0 p1 p2 p3 p4 p5 p6)) := (p2_2.keep K3 (fun q => nomatch q))
  have q7 : Fld Z T3.heap ad1 "com/example/trailhive/trailhive/Colony$Settings" "alpha" "D" (.double (lw_alpha p1 p2 p3 p4 p5 p6)) := (p2_3.keep K3 (fun q => nomatch q))
  have q8 : Fld Z T3.heap ad1 "com/example/trailhive/trailhive/Colony$Settings" "beta" "D" (.double (lw_beta p1 p2 p3 p4 p5 p6)) := (p2_4.keep K3 (fun q => nomatch q))
  have q9 : Fld Z T3.heap ad1 "com/example/trailhive/trailhive/Colony$Settings" "rho" "D" (.double (lw_rho p1 p2 p3 p4 p5 p6)) := (p2_5.keep K3 (fun q => nomatch q))
  have q10 : Fld Z T3.heap ad1 "com/example/trailhive/trailhive/Colony$Settings" "candidates" "I" (.int p2) := (p2_6.keep K3 (fun q => nomatch q))
  have q11 : Fld Z T3.heap ad1 "com/example/trailhive/trailhive/Colony$Settings" "preserve" "D" (.double (lw_pres p1 p2 p3 p4 p5 p6)) := (p2_7.keep K3 (fun q => nomatch q))
  have q12 : Fld Z T3.heap ad1 "com/example/trailhive/trailhive/Colony$Settings" "seed" "J" (.long p3) := (p2_8.keep K3 (fun q => nomatch q))
  have Z3 : n0 ≤ T3.heap.size := Nat.le_trans Z2 K3.1
  have gn3 : n0 ≤ ad3 := Nat.le_trans Z2 fr3
  obtain ⟨cq13, kq13, qa13, qb13, qc13⟩ := isOf hZ rfl p3_0
  obtain ⟨_, _, ⟨T13, L13, k13, n13⟩, -, X13, ⟨Lc13, hQ13, l13, y13, z13⟩, st13⟩ := X3.virtualBack hx (y := (⟨"com/example/trailhive/trailhive/Colony$Settings", "ants", "()I"⟩ : MethodName)) (z := (⟨"com/example/trailhive/trailhive/Colony$Settings", "ants", "()I"⟩ : MethodName)) hown (mvT hZ (hw _ (List.mem_of_getElem? (i := 37) rfl))) (mvT hZ (hw _ (List.mem_of_getElem? (i := 38) rfl))) (notFace_of_selects (args := #[]) (mvT hZ (hw _ (List.mem_of_getElem? (i := 40) rfl)))) (mvT hZ (hw _ (List.mem_of_getElem? (i := 40) rfl))) (mvT hZ (hw _ (List.mem_of_getElem? (i := 39) rfl))) (by decide) (backOf (W := 0) (rm_gants l Z a0 hw [] ad3 p1 (T3.heap) n0 Z3 p3_1 ) hZ (hw _ (List.mem_of_getElem? (i := 41) rfl)) (hw _ (List.mem_of_getElem? (i := 2) rfl)) (by decide) (by decide)) qa13 qc13 (g := (mkF m 76 #[.val (.int p1), .val (.int p2), .val (.long p3), .second, .val (.int p4), .val (.int p5), .val (.int p6), .val (.double (lw_q0 p1 p2 p3 p4 p5 p6)), .second, .val (.double (lw_alpha p1 p2 p3 p4 p5 p6)), .second, .val (.double (lw_beta p1 p2 p3 p4 p5 p6)), .second, .val (.double (lw_rho p1 p2 p3 p4 p5 p6)), .second, .val (.double (lw_pres p1 p2 p3 p4 p5 p6)), .second, .val (.double (lw_np p1 p2 p3 p4 p5 p6)), .second, .val (.ref ad1), .val (.ref ad3), .unset, .unset, .unset] [(.ref ad3)])) rfl (by rw [hml]; rfl) (Steps.refl _) (argsL := []) (rest := []) (lenOf pd_3 rfl) rfl (by show 2 * 0 + _ ≤ _; exact Nat.le_of_eq rfl) (hb hby at_76) (fun _ _ => ⟨rfl, rfl, (by decide : 2 + 0 ≤ _), (by decide : 16 + 0 ≤ _)⟩)
  dsimp only [Pt.U, Pt.locs, Pt.cells, Pt.slots] at X13 l13 y13 z13 st13 hQ13
  subst l13 y13 z13
  obtain ⟨rfl, N13, e13⟩ := hQ13
  have Nn13 := Fr.app Nn3 N13
  obtain ⟨cq14, kq14, qa14, qb14, qc14⟩ := isOf hZ e13 p3_0
  obtain ⟨_, _, ⟨T14, L14, k14, n14⟩, -, X14, ⟨Lc14, hQ14, l14, y14, z14⟩, st14⟩ := X13.virtualBack hx (y := (⟨"com/example/trailhive/trailhive/Colony$Settings", "q0", "()D"⟩ : MethodName)) (z := (⟨"com/example/trailhive/trailhive/Colony$Settings", "q0", "()D"⟩ : MethodName)) hown (mvT hZ (hw _ (List.mem_of_getElem? (i := 42) rfl))) (mvT hZ (hw _ (List.mem_of_getElem? (i := 43) rfl))) (notFace_of_selects (args := #[]) (mvT hZ (hw _ (List.mem_of_getElem? (i := 45) rfl)))) (mvT hZ (hw _ (List.mem_of_getElem? (i := 45) rfl))) (mvT hZ (hw _ (List.mem_of_getElem? (i := 44) rfl))) (by decide) (backOf (W := 0) (rm_gq0 l Z a0 hw [] ad3 (lw_q0 p1 p2 p3 p4 p5 p6) (T3.heap) n0 Z3 p3_2 ) hZ (hw _ (List.mem_of_getElem? (i := 46) rfl)) (hw _ (List.mem_of_getElem? (i := 2) rfl)) (by decide) (by decide)) qa14 qc14 (g := (mkF m 85 #[.val (.int p1), .val (.int p2), .val (.long p3), .second, .val (.int p4), .val (.int p5), .val (.int p6), .val (.double (lw_q0 p1 p2 p3 p4 p5 p6)), .second, .val (.double (lw_alpha p1 p2 p3 p4 p5 p6)), .second, .val (.double (lw_beta p1 p2 p3 p4 p5 p6)), .second, .val (.double (lw_rho p1 p2 p3 p4 p5 p6)), .second, .val (.double (lw_pres p1 p2 p3 p4 p5 p6)), .second, .val (.double (lw_np p1 p2 p3 p4 p5 p6)), .second, .val (.ref ad1), .val (.ref ad3), .unset, .unset, .unset] [(.ref ad3)])) rfl (by rw [hml]; rfl) (Steps.refl _) (argsL := []) (rest := []) (lenOf pd_4 rfl) rfl (by show 2 * 0 + _ ≤ _; exact Nat.le_of_eq rfl) (hb hby at_85) (fun _ _ => ⟨rfl, e13, (by decide : 2 + 0 ≤ _), (by decide : 16 + 0 ≤ _)⟩)
  dsimp only [Pt.U, Pt.locs, Pt.cells, Pt.slots] at X14 l14 y14 z14 st14 hQ14
  subst l14 y14 z14
  obtain ⟨rfl, N14, e14⟩ := hQ14
  have Nn14 := Fr.app Nn13 N14
  obtain ⟨cq15, kq15, qa15, qb15, qc15⟩ := isOf hZ e14 p3_0
  obtain ⟨_, _, ⟨T15, L15, k15, n15⟩, -, X15, ⟨Lc15, hQ15, l15, y15, z15⟩, st15⟩ := X14.virtualBack hx (y := (⟨"com/example/trailhive/trailhive/Colony$Settings", "alpha", "()D"⟩ : MethodName)) (z := (⟨"com/example/trailhive/trailhive/Colony$Settings", "alpha", "()D"⟩ : MethodName)) hown (mvT hZ (hw _ (List.mem_of_getElem? (i := 47) rfl))) (mvT hZ (hw _ (List.mem_of_getElem? (i := 48) rfl))) (notFace_of_selects (args := #[]) (mvT hZ (hw _ (List.mem_of_getElem? (i := 50) rfl)))) (mvT hZ (hw _ (List.mem_of_getElem? (i := 50) rfl))) (mvT hZ (hw _ (List.mem_of_getElem? (i := 49) rfl))) (by decide) (backOf (W := 0) (rm_galpha l Z a0 hw [] ad3 (lw_alpha p1 p2 p3 p4 p5 p6) (T3.heap) n0 Z3 p3_3 ) hZ (hw _ (List.mem_of_getElem? (i := 51) rfl)) (hw _ (List.mem_of_getElem? (i := 2) rfl)) (by decide) (by decide)) qa15 qc15 (g := (mkF m 96 #[.val (.int p1), .val (.int p2), .val (.long p3), .second, .val (.int p4), .val (.int p5), .val (.int p6), .val (.double (lw_q0 p1 p2 p3 p4 p5 p6)), .second, .val (.double (lw_alpha p1 p2 p3 p4 p5 p6)), .second, .val (.double (lw_beta p1 p2 p3 p4 p5 p6)), .second, .val (.double (lw_rho p1 p2 p3 p4 p5 p6)), .second, .val (.double (lw_pres p1 p2 p3 p4 p5 p6)), .second, .val (.double (lw_np p1 p2 p3 p4 p5 p6)), .second, .val (.ref ad1), .val (.ref ad3), .unset, .unset, .unset] [(.ref ad3)])) rfl (by rw [hml]; rfl) (Steps.refl _) (argsL := []) (rest := []) (lenOf pd_4 rfl) rfl (by show 2 * 0 + _ ≤ _; exact Nat.le_of_eq rfl) (hb hby at_96) (fun _ _ => ⟨rfl, e14, (by decide : 2 + 0 ≤ _), (by decide : 16 + 0 ≤ _)⟩)
  dsimp only [Pt.U, Pt.locs, Pt.cells, Pt.slots] at X15 l15 y15 z15 st15 hQ15
  subst l15 y15 z15
  obtain ⟨rfl, N15, e15⟩ := hQ15
  have Nn15 := Fr.app Nn14 N15
  obtain ⟨cq16, kq16, qa16, qb16, qc16⟩ := isOf hZ e15 p3_0
  obtain ⟨_, _, ⟨T16, L16, k16, n16⟩, -, X16, ⟨Lc16, hQ16, l16, y16, z16⟩, st16⟩ := X15.virtualBack hx (y := (⟨"com/example/trailhive/trailhive/Colony$Settings", "beta", "()D"⟩ : MethodName)) (z := (⟨"com/example/trailhive/trailhive/Colony$Settings", "beta", "()D"⟩ : MethodName)) hown (mvT hZ (hw _ (List.mem_of_getElem? (i := 52) rfl))) (mvT hZ (hw _ (List.mem_of_getElem? (i := 53) rfl))) (notFace_of_selects (args := #[]) (mvT hZ (hw _ (List.mem_of_getElem? (i := 55) rfl)))) (mvT hZ (hw _ (List.mem_of_getElem? (i := 55) rfl))) (mvT hZ (hw _ (List.mem_of_getElem? (i := 54) rfl))) (by decide) (backOf (W := 0) (rm_gbeta l Z a0 hw [] ad3 (lw_beta p1 p2 p3 p4 p5 p6) (T3.heap) n0 Z3 p3_4 ) hZ (hw _ (List.mem_of_getElem? (i := 56) rfl)) (hw _ (List.mem_of_getElem? (i := 2) rfl)) (by decide) (by decide)) qa16 qc16 (g := (mkF m 107 #[.val (.int p1), .val (.int p2), .val (.long p3), .second, .val (.int p4), .val (.int p5), .val (.int p6), .val (.double (lw_q0 p1 p2 p3 p4 p5 p6)), .second, .val (.double (lw_alpha p1 p2 p3 p4 p5 p6)), .second, .val (.double (lw_beta p1 p2 p3 p4 p5 p6)), .second, .val (.double (lw_rho p1 p2 p3 p4 p5 p6)), .second, .val (.double (lw_pres p1 p2 p3 p4 p5 p6)), .second, .val (.double (lw_np p1 p2 p3 p4 p5 p6)), .second, .val (.ref ad1), .val (.ref ad3), .unset, .unset, .unset] [(.ref ad3)])) rfl (by rw [hml]; rfl) (Steps.refl _) (argsL := []) (rest := []) (lenOf pd_4 rfl) rfl (by show 2 * 0 + _ ≤ _; exact Nat.le_of_eq rfl) (hb hby at_107) (fun _ _ => ⟨rfl, e15, (by decide : 2 + 0 ≤ _), (by decide : 16 + 0 ≤ _)⟩)
  dsimp only [Pt.U, Pt.locs, Pt.cells, Pt.slots] at X16 l16 y16 z16 st16 hQ16
  subst l16 y16 z16
  obtain ⟨rfl, N16, e16⟩ := hQ16
  have Nn16 := Fr.app Nn15 N16
  obtain ⟨cq17, kq17, qa17, qb17, qc17⟩ := isOf hZ e16 p3_0
  obtain ⟨_, _, ⟨T17, L17, k17, n17⟩, -, X17, ⟨Lc17, hQ17, l17, y17, z17⟩, st17⟩ := X16.virtualBack hx (y := (⟨"com/example/trailhive/trailhive/Colony$Settings", "rho", "()D"⟩ : MethodName)) (z := (⟨"com/example/trailhive/trailhive/Colony$Settings", "rho", "()D"⟩ : MethodName)) hown (mvT hZ (hw _ (List.mem_of_getElem? (i := 57) rfl))) (mvT hZ (hw _ (List.mem_of_getElem? (i := 58) rfl))) (notFace_of_selects (args := #[]) (mvT hZ (hw _ (List.mem_of_getElem? (i := 60) rfl)))) (mvT hZ (hw _ (List.mem_of_getElem? (i := 60) rfl))) (mvT hZ (hw _ (List.mem_of_getElem? (i := 59) rfl))) (by decide) (backOf (W := 0) (rm_grho l Z a0 hw [] ad3 (lw_rho p1 p2 p3 p4 p5 p6) (T3.heap) n0 Z3 p3_5 ) hZ (hw _ (List.mem_of_getElem? (i := 61) rfl)) (hw _ (List.mem_of_getElem? (i := 2) rfl)) (by decide) (by decide)) qa17 qc17 (g := (mkF m 118 #[.val (.int p1), .val (.int p2), .val (.long p3), .second, .val (.int p4), .val (.int p5), .val (.int p6), .val (.double (lw_q0 p1 p2 p3 p4 p5 p6)), .second, .val (.double (lw_alpha p1 p2 p3 p4 p5 p6)), .second, .val (.double (lw_beta p1 p2 p3 p4 p5 p6)), .second, .val (.double (lw_rho p1 p2 p3 p4 p5 p6)), .second, .val (.double (lw_pres p1 p2 p3 p4 p5 p6)), .second, .val (.double (lw_np p1 p2 p3 p4 p5 p6)), .second, .val (.ref ad1), .val (.ref ad3), .unset, .unset, .unset] [(.ref ad3)])) rfl (by rw [hml]; rfl) (Steps.refl _) (argsL := []) (rest := []) (lenOf pd_4 rfl) rfl (by show 2 * 0 + _ ≤ _; exact Nat.le_of_eq rfl) (hb hby at_118) (fun _ _ => ⟨rfl, e16, (by decide : 2 + 0 ≤ _), (by decide : 16 + 0 ≤ _)⟩)
  dsimp only [Pt.U, Pt.locs, Pt.cells, Pt.slots] at X17 l17 y17 z17 st17 hQ17
  subst l17 y17 z17
  obtain ⟨rfl, N17, e17⟩ := hQ17
  have Nn17 := Fr.app Nn16 N17
  obtain ⟨cq18, kq18, qa18, qb18, qc18⟩ := isOf hZ e17 p3_0
  obtain ⟨_, _, ⟨T18, L18, k18, n18⟩, -, X18, ⟨Lc18, hQ18, l18, y18, z18⟩, st18⟩ := X17.virtualBack hx (y := (⟨"com/example/trailhive/trailhive/Colony$Settings", "candidates", "()I"⟩ : MethodName)) (z := (⟨"com/example/trailhive/trailhive/Colony$Settings", "candidates", "()I"⟩ : MethodName)) hown (mvT hZ (hw _ (List.mem_of_getElem? (i := 62) rfl))) (mvT hZ (hw _ (List.mem_of_getElem? (i := 63) rfl))) (notFace_of_selects (args := #[]) (mvT hZ (hw _ (List.mem_of_getElem? (i := 65) rfl)))) (mvT hZ (hw _ (List.mem_of_getElem? (i := 65) rfl))) (mvT hZ (hw _ (List.mem_of_getElem? (i := 64) rfl))) (by decide) (backOf (W := 0) (rm_gcandidates l Z a0 hw [] ad3 p2 (T3.heap) n0 Z3 p3_6 ) hZ (hw _ (List.mem_of_getElem? (i := 66) rfl)) (hw _ (List.mem_of_getElem? (i := 2) rfl)) (by decide) (by decide)) qa18 qc18 (g := (mkF m 129 #[.val (.int p1), .val (.int p2), .val (.long p3), .second, .val (.int p4), .val (.int p5), .val (.int p6), .val (.double (lw_q0 p1 p2 p3 p4 p5 p6)), .second, .val (.double (lw_alpha p1 p2 p3 p4 p5 p6)), .second, .val (.double (lw_beta p1 p2 p3 p4 p5 p6)), .second, .val (.double (lw_rho p1 p2 p3 p4 p5 p6)), .second, .val (.double (lw_pres p1 p2 p3 p4 p5 p6)), .second, .val (.double (lw_np p1 p2 p3 p4 p5 p6)), .second, .val (.ref ad1), .val (.ref ad3), .unset, .unset, .unset] [(.ref ad3)])) rfl (by rw [hml]; rfl) (Steps.refl _) (argsL := []) (rest := []) (lenOf pd_3 rfl) rfl (by show 2 * 0 + _ ≤ _; exact Nat.le_of_eq rfl) (hb hby at_129) (fun _ _ => ⟨rfl, e17, (by decide : 2 + 0 ≤ _), (by decide : 16 + 0 ≤ _)⟩)
  dsimp only [Pt.U, Pt.locs, Pt.cells, Pt.slots] at X18 l18 y18 z18 st18 hQ18
  subst l18 y18 z18
  obtain ⟨rfl, N18, e18⟩ := hQ18
  have Nn18 := Fr.app Nn17 N18
  obtain ⟨cq19, kq19, qa19, qb19, qc19⟩ := isOf hZ e18 p3_0
  obtain ⟨_, _, ⟨T19, L19, k19, n19⟩, -, X19, ⟨Lc19, hQ19, l19, y19, z19⟩, st19⟩ := X18.virtualBack hx (y := (⟨"com/example/trailhive/trailhive/Colony$Settings", "seed", "()J"⟩ : MethodName)) (z := (⟨"com/example/trailhive/trailhive/Colony$Settings", "seed", "()J"⟩ : MethodName)) hown (mvT hZ (hw _ (List.mem_of_getElem? (i := 67) rfl))) (mvT hZ (hw _ (List.mem_of_getElem? (i := 68) rfl))) (notFace_of_selects (args := #[]) (mvT hZ (hw _ (List.mem_of_getElem? (i := 70) rfl)))) (mvT hZ (hw _ (List.mem_of_getElem? (i := 70) rfl))) (mvT hZ (hw _ (List.mem_of_getElem? (i := 69) rfl))) (by decide) (backOf (W := 0) (rm_gseed l Z a0 hw [] ad3 p3 (T3.heap) n0 Z3 p3_8 ) hZ (hw _ (List.mem_of_getElem? (i := 71) rfl)) (hw _ (List.mem_of_getElem? (i := 2) rfl)) (by decide) (by decide)) qa19 qc19 (g := (mkF m 138 #[.val (.int p1), .val (.int p2), .val (.long p3), .second, .val (.int p4), .val (.int p5), .val (.int p6), .val (.double (lw_q0 p1 p2 p3 p4 p5 p6)), .second, .val (.double (lw_alpha p1 p2 p3 p4 p5 p6)), .second, .val (.double (lw_beta p1 p2 p3 p4 p5 p6)), .second, .val (.double (lw_rho p1 p2 p3 p4 p5 p6)), .second, .val (.double (lw_pres p1 p2 p3 p4 p5 p6)), .second, .val (.double (lw_np p1 p2 p3 p4 p5 p6)), .second, .val (.ref ad1), .val (.ref ad3), .unset, .unset, .unset] [(.ref ad3)])) rfl (by rw [hml]; rfl) (Steps.refl _) (argsL := []) (rest := []) (lenOf pd_5 rfl) rfl (by show 2 * 0 + _ ≤ _; exact Nat.le_of_eq rfl) (hb hby at_138) (fun _ _ => ⟨rfl, e18, (by decide : 2 + 0 ≤ _), (by decide : 16 + 0 ≤ _)⟩)
  dsimp only [Pt.U, Pt.locs, Pt.cells, Pt.slots] at X19 l19 y19 z19 st19 hQ19
  subst l19 y19 z19
  obtain ⟨rfl, N19, e19⟩ := hQ19
  have Nn19 := Fr.app Nn18 N19
  obtain ⟨cq20, kq20, qa20, qb20, qc20⟩ := isOf hZ e19 p3_0
  obtain ⟨_, _, ⟨T20, L20, k20, n20⟩, -, X20, ⟨Lc20, hQ20, l20, y20, z20⟩, st20⟩ := X19.virtualBack hx (y := (⟨"com/example/trailhive/trailhive/Colony$Settings", "preserve", "()D"⟩ : MethodName)) (z := (⟨"com/example/trailhive/trailhive/Colony$Settings", "preserve", "()D"⟩ : MethodName)) hown (mvT hZ (hw _ (List.mem_of_getElem? (i := 72) rfl))) (mvT hZ (hw _ (List.mem_of_getElem? (i := 73) rfl))) (notFace_of_selects (args := #[]) (mvT hZ (hw _ (List.mem_of_getElem? (i := 75) rfl)))) (mvT hZ (hw _ (List.mem_of_getElem? (i := 75) rfl))) (mvT hZ (hw _ (List.mem_of_getElem? (i := 74) rfl))) (by decide) (backOf (W := 0) (rm_gpreserve l Z a0 hw [] ad3 (lw_np p1 p2 p3 p4 p5 p6) (T3.heap) n0 Z3 p3_7 ) hZ (hw _ (List.mem_of_getElem? (i := 76) rfl)) (hw _ (List.mem_of_getElem? (i := 2) rfl)) (by decide) (by decide)) qa20 qc20 (g := (mkF m 155 #[.val (.int p1), .val (.int p2), .val (.long p3), .second, .val (.int p4), .val (.int p5), .val (.int p6), .val (.double (lw_q0 p1 p2 p3 p4 p5 p6)), .second, .val (.double (lw_alpha p1 p2 p3 p4 p5 p6)), .second, .val (.double (lw_beta p1 p2 p3 p4 p5 p6)), .second, .val (.double (lw_rho p1 p2 p3 p4 p5 p6)), .second, .val (.double (lw_pres p1 p2 p3 p4 p5 p6)), .second, .val (.double (lw_np p1 p2 p3 p4 p5 p6)), .second, .val (.ref ad1), .val (.ref ad3), .val (.int (1 : Int32)), .unset, .unset] [(.ref ad3)])) rfl (by rw [hml]; rfl) (Steps.refl _) (argsL := []) (rest := []) (lenOf pd_4 rfl) rfl (by show 2 * 0 + _ ≤ _; exact Nat.le_of_eq rfl) (hb hby at_155) (fun _ _ => ⟨rfl, e19, (by decide : 2 + 0 ≤ _), (by decide : 16 + 0 ≤ _)⟩)
  dsimp only [Pt.U, Pt.locs, Pt.cells, Pt.slots] at X20 l20 y20 z20 st20 hQ20
  subst l20 y20 z20
  obtain ⟨rfl, N20, e20⟩ := hQ20
  have Nn20 := Fr.app Nn19 N20
  obtain ⟨cq21, kq21, qa21, qb21, qc21⟩ := isOf hZ e20 q4
  obtain ⟨_, _, ⟨T21, L21, k21, n21⟩, -, X21, ⟨Lc21, hQ21, l21, y21, z21⟩, st21⟩ := X20.virtualBack hx (y := (⟨"com/example/trailhive/trailhive/Colony$Settings", "preserve", "()D"⟩ : MethodName)) (z := (⟨"com/example/trailhive/trailhive/Colony$Settings", "preserve", "()D"⟩ : MethodName)) hown (mvT hZ (hw _ (List.mem_of_getElem? (i := 72) rfl))) (mvT hZ (hw _ (List.mem_of_getElem? (i := 73) rfl))) (notFace_of_selects (args := #[]) (mvT hZ (hw _ (List.mem_of_getElem? (i := 75) rfl)))) (mvT hZ (hw _ (List.mem_of_getElem? (i := 75) rfl))) (mvT hZ (hw _ (List.mem_of_getElem? (i := 74) rfl))) (by decide) (backOf (W := 0) (rm_gpreserve l Z a0 hw [] ad1 (lw_pres p1 p2 p3 p4 p5 p6) (T3.heap) n0 Z3 q11 ) hZ (hw _ (List.mem_of_getElem? (i := 76) rfl)) (hw _ (List.mem_of_getElem? (i := 2) rfl)) (by decide) (by decide)) qa21 qc21 (g := (mkF m 173 #[.val (.int p1), .val (.int p2), .val (.long p3), .second, .val (.int p4), .val (.int p5), .val (.int p6), .val (.double (lw_q0 p1 p2 p3 p4 p5 p6)), .second, .val (.double (lw_alpha p1 p2 p3 p4 p5 p6)), .second, .val (.double (lw_beta p1 p2 p3 p4 p5 p6)), .second, .val (.double (lw_rho p1 p2 p3 p4 p5 p6)), .second, .val (.double (lw_pres p1 p2 p3 p4 p5 p6)), .second, .val (.double (lw_np p1 p2 p3 p4 p5 p6)), .second, .val (.ref ad1), .val (.ref ad3), .val (.int (1 : Int32)), .val (.int (1 : Int32)), .unset] [(.ref ad1)])) rfl (by rw [hml]; rfl) (Steps.refl _) (argsL := []) (rest := []) (lenOf pd_4 rfl) rfl (by show 2 * 0 + _ ≤ _; exact Nat.le_of_eq rfl) (hb hby at_173) (fun _ _ => ⟨rfl, e20, (by decide : 2 + 0 ≤ _), (by decide : 16 + 0 ≤ _)⟩)
  dsimp only [Pt.U, Pt.locs, Pt.cells, Pt.slots] at X21 l21 y21 z21 st21 hQ21
  subst l21 y21 z21
  obtain ⟨rfl, N21, e21⟩ := hQ21
  have Nn21 := Fr.app Nn20 N21
  obtain ⟨cq22, kq22, qa22, qb22, qc22⟩ := isOf hZ e21 q4
  obtain ⟨_, _, ⟨T22, L22, k22, n22⟩, -, X22, ⟨Lc22, hQ22, l22, y22, z22⟩, st22⟩ := X21.virtualBack hx (y := (⟨"com/example/trailhive/trailhive/Colony$Settings", "ants", "()I"⟩ : MethodName)) (z := (⟨"com/example/trailhive/trailhive/Colony$Settings", "ants", "()I"⟩ : MethodName)) hown (mvT hZ (hw _ (List.mem_of_getElem? (i := 37) rfl))) (mvT hZ (hw _ (List.mem_of_getElem? (i := 38) rfl))) (notFace_of_selects (args := #[]) (mvT hZ (hw _ (List.mem_of_getElem? (i := 40) rfl)))) (mvT hZ (hw _ (List.mem_of_getElem? (i := 40) rfl))) (mvT hZ (hw _ (List.mem_of_getElem? (i := 39) rfl))) (by decide) (backOf (W := 0) (rm_gants l Z a0 hw [] ad1 p1 (T3.heap) n0 Z3 q5 ) hZ (hw _ (List.mem_of_getElem? (i := 41) rfl)) (hw _ (List.mem_of_getElem? (i := 2) rfl)) (by decide) (by decide)) qa22 qc22 (g := (mkF m 184 #[.val (.int p1), .val (.int p2), .val (.long p3), .second, .val (.int p4), .val (.int p5), .val (.int p6), .val (.double (lw_q0 p1 p2 p3 p4 p5 p6)), .second, .val (.double (lw_alpha p1 p2 p3 p4 p5 p6)), .second, .val (.double (lw_beta p1 p2 p3 p4 p5 p6)), .second, .val (.double (lw_rho p1 p2 p3 p4 p5 p6)), .second, .val (.double (lw_pres p1 p2 p3 p4 p5 p6)), .second, .val (.double (lw_np p1 p2 p3 p4 p5 p6)), .second, .val (.ref ad1), .val (.ref ad3), .val (.int (1 : Int32)), .val (.int (1 : Int32)), .unset] [(.ref ad1)])) rfl (by rw [hml]; rfl) (Steps.refl _) (argsL := []) (rest := []) (lenOf pd_3 rfl) rfl (by show 2 * 0 + _ ≤ _; exact Nat.le_of_eq rfl) (hb hby at_184) (fun _ _ => ⟨rfl, e21, (by decide : 2 + 0 ≤ _), (by decide : 16 + 0 ≤ _)⟩)
  dsimp only [Pt.U, Pt.locs, Pt.cells, Pt.slots] at X22 l22 y22 z22 st22 hQ22
  subst l22 y22 z22
  obtain ⟨rfl, N22, e22⟩ := hQ22
  have Nn22 := Fr.app Nn21 N22
  obtain ⟨cq23, kq23, qa23, qb23, qc23⟩ := isOf hZ e22 q4
  obtain ⟨_, _, ⟨T23, L23, k23, n23⟩, -, X23, ⟨Lc23, hQ23, l23, y23, z23⟩, st23⟩ := X22.virtualBack hx (y := (⟨"com/example/trailhive/trailhive/Colony$Settings", "seed", "()J"⟩ : MethodName)) (z := (⟨"com/example/trailhive/trailhive/Colony$Settings", "seed", "()J"⟩ : MethodName)) hown (mvT hZ (hw _ (List.mem_of_getElem? (i := 67) rfl))) (mvT hZ (hw _ (List.mem_of_getElem? (i := 68) rfl))) (notFace_of_selects (args := #[]) (mvT hZ (hw _ (List.mem_of_getElem? (i := 70) rfl)))) (mvT hZ (hw _ (List.mem_of_getElem? (i := 70) rfl))) (mvT hZ (hw _ (List.mem_of_getElem? (i := 69) rfl))) (by decide) (backOf (W := 0) (rm_gseed l Z a0 hw [] ad1 p3 (T3.heap) n0 Z3 q12 ) hZ (hw _ (List.mem_of_getElem? (i := 71) rfl)) (hw _ (List.mem_of_getElem? (i := 2) rfl)) (by decide) (by decide)) qa23 qc23 (g := (mkF m 193 #[.val (.int p1), .val (.int p2), .val (.long p3), .second, .val (.int p4), .val (.int p5), .val (.int p6), .val (.double (lw_q0 p1 p2 p3 p4 p5 p6)), .second, .val (.double (lw_alpha p1 p2 p3 p4 p5 p6)), .second, .val (.double (lw_beta p1 p2 p3 p4 p5 p6)), .second, .val (.double (lw_rho p1 p2 p3 p4 p5 p6)), .second, .val (.double (lw_pres p1 p2 p3 p4 p5 p6)), .second, .val (.double (lw_np p1 p2 p3 p4 p5 p6)), .second, .val (.ref ad1), .val (.ref ad3), .val (.int (1 : Int32)), .val (.int (1 : Int32)), .unset] [(.ref ad1)])) rfl (by rw [hml]; rfl) (Steps.refl _) (argsL := []) (rest := []) (lenOf pd_5 rfl) rfl (by show 2 * 0 + _ ≤ _; exact Nat.le_of_eq rfl) (hb hby at_193) (fun _ _ => ⟨rfl, e22, (by decide : 2 + 0 ≤ _), (by decide : 16 + 0 ≤ _)⟩)
  dsimp only [Pt.U, Pt.locs, Pt.cells, Pt.slots] at X23 l23 y23 z23 st23 hQ23
  subst l23 y23 z23
  obtain ⟨rfl, N23, e23⟩ := hQ23
  have Nn23 := Fr.app Nn22 N23
  obtain ⟨fs, hr, hrun, hended, hW, hsame⟩ := X23.leave (v := some (.int (1 : Int32))) (fun h => by rw [Bd.returns] at h; cases h)
  refine ⟨_, _, pre0 _ ?_, hrun, hended, _, _, rfl, ?_, ⟨_, rfl⟩, hW, hsame.mono (Nat.le_of_ble_eq_true rfl) (Nat.le_of_ble_eq_true rfl)⟩
  · show Steps p.tables e below (s₁.setTop (mkF m 0 #[.val (.int p1), .val (.int p2), .val (.long p3), .second, .val (.int p4), .val (.int p5), .val (.int p6), .unset, .unset, .unset, .unset, .unset, .unset, .unset, .unset, .unset, .unset, .unset, .unset, .unset, .unset, .unset, .unset, .unset] [])) _
    refine XS.iload X0.here hx rfl (hb hby at_0) rfl ?_
    show Steps p.tables e below (s₁.setTop (mkF m 2 #[.val (.int p1), .val (.int p2), .val (.long p3), .second, .val (.int p4), .val (.int p5), .val (.int p6), .unset, .unset, .unset, .unset, .unset, .unset, .unset, .unset, .unset, .unset, .unset, .unset, .unset, .unset, .unset, .unset, .unset] [(.int p4)])) _
    refine XT.i2b X0.here hx rfl (hb hby at_2) rfl ?_
    show Steps p.tables e below (s₁.setTop (mkF m 3 #[.val (.int p1), .val (.int p2), .val (.long p3), .second, .val (.int p4), .val (.int p5), .val (.int p6), .unset, .unset, .unset, .unset, .unset, .unset, .unset, .unset, .unset, .unset, .unset, .unset, .unset, .unset, .unset, .unset, .unset] [(.int ((Int32.toInt8 p4).toInt32))])) _
    refine XS.i2dS X0.here hx rfl (hb hby at_3) rfl rfl ?_
    show Steps p.tables e below (s₁.setTop (mkF m 4 #[.val (.int p1), .val (.int p2), .val (.long p3), .second, .val (.int p4), .val (.int p5), .val (.int p6), .unset, .unset, .unset, .unset, .unset, .unset, .unset, .unset, .unset, .unset, .unset, .unset, .unset, .unset, .unset, .unset, .unset] [(.double (FP.i2d ((Int32.toInt8 p4).toInt32)))])) _
    refine XS.dstore X0.here hx rfl (hb hby at_4) rfl (l' := #[.val (.int p1), .val (.int p2), .val (.long p3), .second, .val (.int p4), .val (.int p5), .val (.int p6), .val (.double (lw_q0 p1 p2 p3 p4 p5 p6)), .second, .unset, .unset, .unset, .unset, .unset, .unset, .unset, .unset, .unset, .unset, .unset, .unset, .unset, .unset, .unset]) rfl ?_
    show Steps p.tables e below (s₁.setTop (mkF m 6 #[.val (.int p1), .val (.int p2), .val (.long p3), .second, .val (.int p4), .val (.int p5), .val (.int p6), .val (.double (lw_q0 p1 p2 p3 p4 p5 p6)), .second, .unset, .unset, .unset, .unset, .unset, .unset, .unset, .unset, .unset, .unset, .unset, .unset, .unset, .unset, .unset] [])) _
    refine XS.iload X0.here hx rfl (hb hby at_6) rfl ?_
    show Steps p.tables e below (s₁.setTop (mkF m 8 #[.val (.int p1), .val (.int p2), .val (.long p3), .second, .val (.int p4), .val (.int p5), .val (.int p6), .val (.double (lw_q0 p1 p2 p3 p4 p5 p6)), .second, .unset, .unset, .unset, .unset, .unset, .unset, .unset, .unset, .unset, .unset, .unset, .unset, .unset, .unset, .unset] [(.int p4)])) _
    refine XS.bipush X0.here hx rfl (hb hby at_8) ?_
    show Steps p.tables e below (s₁.setTop (mkF m 10 #[.val (.int p1), .val (.int p2), .val (.long p3), .second, .val (.int p4), .val (.int p5), .val (.int p6), .val (.double (lw_q0 p1 p2 p3 p4 p5 p6)), .second, .unset, .unset, .unset, .unset, .unset, .unset, .unset, .unset, .unset, .unset, .unset, .unset, .unset, .unset, .unset] [(.int (8 : Int32)), (.int p4)])) _
    refine XT.ishr X0.here hx rfl (hb hby at_10) rfl ?_
    show Steps p.tables e below (s₁.setTop (mkF m 11 #[.val (.int p1), .val (.int p2), .val (.long p3), .second, .val (.int p4), .val (.int p5), .val (.int p6), .val (.double (lw_q0 p1 p2 p3 p4 p5 p6)), .second, .unset, .unset, .unset, .unset, .unset, .unset, .unset, .unset, .unset, .unset, .unset, .unset, .unset, .unset, .unset] [(.int (p4 >>> ((8 : Int32) &&& 31)))])) _
    refine XT.i2b X0.here hx rfl (hb hby at_11) rfl ?_
    show Steps p.tables e below (s₁.setTop (mkF m 12 #[.val (.int p1), .val (.int p2), .val (.long p3), .second, .val (.int p4), .val (.int p5), .val (.int p6), .val (.double (lw_q0 p1 p2 p3 p4 p5 p6)), .second, .unset, .unset, .unset, .unset, .unset, .unset, .unset, .unset, .unset, .unset, .unset, .unset, .unset, .unset, .unset] [(.int ((Int32.toInt8 (p4 >>> ((8 : Int32) &&& 31))).toInt32))])) _
    refine XS.i2dS X0.here hx rfl (hb hby at_12) rfl rfl ?_
    show Steps p.tables e below (s₁.setTop (mkF m 13 #[.val (.int p1), .val (.int p2), .val (.long p3), .second, .val (.int p4), .val (.int p5), .val (.int p6), .val (.double (lw_q0 p1 p2 p3 p4 p5 p6)), .second, .unset, .unset, .unset, .unset, .unset, .unset, .unset, .unset, .unset, .unset, .unset, .unset, .unset, .unset, .unset] [(.double (FP.i2d ((Int32.toInt8 (p4 >>> ((8 : Int32) &&& 31))).toInt32)))])) _
    refine XS.dstore X0.here hx rfl (hb hby at_13) rfl (l' := #[.val (.int p1), .val (.int p2), .val (.long p3), .second, .val (.int p4), .val (.int p5), .val (.int p6), .val (.double (lw_q0 p1 p2 p3 p4 p5 p6)), .second, .val (.double (lw_alpha p1 p2 p3 p4 p5 p6)), .second, .unset, .unset, .unset, .unset, .unset, .unset, .unset, .unset, .unset, .unset, .unset, .unset, .unset]) rfl ?_
    show Steps p.tables e below (s₁.setTop (mkF m 15 #[.val (.int p1), .val (.int p2), .val (.long p3), .second, .val (.int p4), .val (.int p5), .val (.int p6), .val (.double (lw_q0 p1 p2 p3 p4 p5 p6)), .second, .val (.double (lw_alpha p1 p2 p3 p4 p5 p6)), .second, .unset, .unset, .unset, .unset, .unset, .unset, .unset, .unset, .unset, .unset, .unset, .unset, .unset] [])) _
    refine XS.iload X0.here hx rfl (hb hby at_15) rfl ?_
    show Steps p.tables e below (s₁.setTop (mkF m 17 #[.val (.int p1), .val (.int p2), .val (.long p3), .second, .val (.int p4), .val (.int p5), .val (.int p6), .val (.double (lw_q0 p1 p2 p3 p4 p5 p6)), .second, .val (.double (lw_alpha p1 p2 p3 p4 p5 p6)), .second, .unset, .unset, .unset, .unset, .unset, .unset, .unset, .unset, .unset, .unset, .unset, .unset, .unset] [(.int p4)])) _
    refine XS.bipush X0.here hx rfl (hb hby at_17) ?_
    show Steps p.tables e below (s₁.setTop (mkF m 19 #[.val (.int p1), .val (.int p2), .val (.long p3), .second, .val (.int p4), .val (.int p5), .val (.int p6), .val (.double (lw_q0 p1 p2 p3 p4 p5 p6)), .second, .val (.double (lw_alpha p1 p2 p3 p4 p5 p6)), .second, .unset, .unset, .unset, .unset, .unset, .unset, .unset, .unset, .unset, .unset, .unset, .unset, .unset] [(.int (16 : Int32)), (.int p4)])) _
    refine XT.ishr X0.here hx rfl (hb hby at_19) rfl ?_
    show Steps p.tables e below (s₁.setTop (mkF m 20 #[.val (.int p1), .val (.int p2), .val (.long p3), .second, .val (.int p4), .val (.int p5), .val (.int p6), .val (.double (lw_q0 p1 p2 p3 p4 p5 p6)), .second, .val (.double (lw_alpha p1 p2 p3 p4 p5 p6)), .second, .unset, .unset, .unset, .unset, .unset, .unset, .unset, .unset, .unset, .unset, .unset, .unset, .unset] [(.int (p4 >>> ((16 : Int32) &&& 31)))])) _
    refine XT.i2b X0.here hx rfl (hb hby at_20) rfl ?_
    show Steps p.tables e below (s₁.setTop (mkF m 21 #[.val (.int p1), .val (.int p2), .val (.long p3), .second, .val (.int p4), .val (.int p5), .val (.int p6), .val (.double (lw_q0 p1 p2 p3 p4 p5 p6)), .second, .val (.double (lw_alpha p1 p2 p3 p4 p5 p6)), .second, .unset, .unset, .unset, .unset, .unset, .unset, .unset, .unset, .unset, .unset, .unset, .unset, .unset] [(.int ((Int32.toInt8 (p4 >>> ((16 : Int32) &&& 31))).toInt32))])) _
    refine XS.i2dS X0.here hx rfl (hb hby at_21) rfl rfl ?_
    show Steps p.tables e below (s₁.setTop (mkF m 22 #[.val (.int p1), .val (.int p2), .val (.long p3), .second, .val (.int p4), .val (.int p5), .val (.int p6), .val (.double (lw_q0 p1 p2 p3 p4 p5 p6)), .second, .val (.double (lw_alpha p1 p2 p3 p4 p5 p6)), .second, .unset, .unset, .unset, .unset, .unset, .unset, .unset, .unset, .unset, .unset, .unset, .unset, .unset] [(.double (FP.i2d ((Int32.toInt8 (p4 >>> ((16 : Int32) &&& 31))).toInt32)))])) _
    refine XS.dstore X0.here hx rfl (hb hby at_22) rfl (l' := #[.val (.int p1), .val (.int p2), .val (.long p3), .second, .val (.int p4), .val (.int p5), .val (.int p6), .val (.double (lw_q0 p1 p2 p3 p4 p5 p6)), .second, .val (.double (lw_alpha p1 p2 p3 p4 p5 p6)), .second, .val (.double (lw_beta p1 p2 p3 p4 p5 p6)), .second, .unset, .unset, .unset, .unset, .unset, .unset, .unset, .unset, .unset, .unset, .unset]) rfl ?_
    show Steps p.tables e below (s₁.setTop (mkF m 24 #[.val (.int p1), .val (.int p2), .val (.long p3), .second, .val (.int p4), .val (.int p5), .val (.int p6), .val (.double (lw_q0 p1 p2 p3 p4 p5 p6)), .second, .val (.double (lw_alpha p1 p2 p3 p4 p5 p6)), .second, .val (.double (lw_beta p1 p2 p3 p4 p5 p6)), .second, .unset, .unset, .unset, .unset, .unset, .unset, .unset, .unset, .unset, .unset, .unset] [])) _
    refine XS.iload X0.here hx rfl (hb hby at_24) rfl ?_
    show Steps p.tables e below (s₁.setTop (mkF m 26 #[.val (.int p1), .val (.int p2), .val (.long p3), .second, .val (.int p4), .val (.int p5), .val (.int p6), .val (.double (lw_q0 p1 p2 p3 p4 p5 p6)), .second, .val (.double (lw_alpha p1 p2 p3 p4 p5 p6)), .second, .val (.double (lw_beta p1 p2 p3 p4 p5 p6)), .second, .unset, .unset, .unset, .unset, .unset, .unset, .unset, .unset, .unset, .unset, .unset] [(.int p4)])) _
    refine XS.bipush X0.here hx rfl (hb hby at_26) ?_
    show Steps p.tables e below (s₁.setTop (mkF m 28 #[.val (.int p1), .val (.int p2), .val (.long p3), .second, .val (.int p4), .val (.int p5), .val (.int p6), .val (.double (lw_q0 p1 p2 p3 p4 p5 p6)), .second, .val (.double (lw_alpha p1 p2 p3 p4 p5 p6)), .second, .val (.double (lw_beta p1 p2 p3 p4 p5 p6)), .second, .unset, .unset, .unset, .unset, .unset, .unset, .unset, .unset, .unset, .unset, .unset] [(.int (24 : Int32)), (.int p4)])) _
    refine XT.ishr X0.here hx rfl (hb hby at_28) rfl ?_
    show Steps p.tables e below (s₁.setTop (mkF m 29 #[.val (.int p1), .val (.int p2), .val (.long p3), .second, .val (.int p4), .val (.int p5), .val (.int p6), .val (.double (lw_q0 p1 p2 p3 p4 p5 p6)), .second, .val (.double (lw_alpha p1 p2 p3 p4 p5 p6)), .second, .val (.double (lw_beta p1 p2 p3 p4 p5 p6)), .second, .unset, .unset, .unset, .unset, .unset, .unset, .unset, .unset, .unset, .unset, .unset] [(.int (p4 >>> ((24 : Int32) &&& 31)))])) _
    refine XT.i2b X0.here hx rfl (hb hby at_29) rfl ?_
    show Steps p.tables e below (s₁.setTop (mkF m 30 #[.val (.int p1), .val (.int p2), .val (.long p3), .second, .val (.int p4), .val (.int p5), .val (.int p6), .val (.double (lw_q0 p1 p2 p3 p4 p5 p6)), .second, .val (.double (lw_alpha p1 p2 p3 p4 p5 p6)), .second, .val (.double (lw_beta p1 p2 p3 p4 p5 p6)), .second, .unset, .unset, .unset, .unset, .unset, .unset, .unset, .unset, .unset, .unset, .unset] [(.int ((Int32.toInt8 (p4 >>> ((24 : Int32) &&& 31))).toInt32))])) _
    refine XS.i2dS X0.here hx rfl (hb hby at_30) rfl rfl ?_
    show Steps p.tables e below (s₁.setTop (mkF m 31 #[.val (.int p1), .val (.int p2), .val (.long p3), .second, .val (.int p4), .val (.int p5), .val (.int p6), .val (.double (lw_q0 p1 p2 p3 p4 p5 p6)), .second, .val (.double (lw_alpha p1 p2 p3 p4 p5 p6)), .second, .val (.double (lw_beta p1 p2 p3 p4 p5 p6)), .second, .unset, .unset, .unset, .unset, .unset, .unset, .unset, .unset, .unset, .unset, .unset] [(.double (FP.i2d ((Int32.toInt8 (p4 >>> ((24 : Int32) &&& 31))).toInt32)))])) _
    refine XS.dstore X0.here hx rfl (hb hby at_31) rfl (l' := #[.val (.int p1), .val (.int p2), .val (.long p3), .second, .val (.int p4), .val (.int p5), .val (.int p6), .val (.double (lw_q0 p1 p2 p3 p4 p5 p6)), .second, .val (.double (lw_alpha p1 p2 p3 p4 p5 p6)), .second, .val (.double (lw_beta p1 p2 p3 p4 p5 p6)), .second, .val (.double (lw_rho p1 p2 p3 p4 p5 p6)), .second, .unset, .unset, .unset, .unset, .unset, .unset, .unset, .unset, .unset]) rfl ?_
    show Steps p.tables e below (s₁.setTop (mkF m 33 #[.val (.int p1), .val (.int p2), .val (.long p3), .second, .val (.int p4), .val (.int p5), .val (.int p6), .val (.double (lw_q0 p1 p2 p3 p4 p5 p6)), .second, .val (.double (lw_alpha p1 p2 p3 p4 p5 p6)), .second, .val (.double (lw_beta p1 p2 p3 p4 p5 p6)), .second, .val (.double (lw_rho p1 p2 p3 p4 p5 p6)), .second, .unset, .unset, .unset, .unset, .unset, .unset, .unset, .unset, .unset] [])) _
    refine XS.iload X0.here hx rfl (hb hby at_33) rfl ?_
    show Steps p.tables e below (s₁.setTop (mkF m 35 #[.val (.int p1), .val (.int p2), .val (.long p3), .second, .val (.int p4), .val (.int p5), .val (.int p6), .val (.double (lw_q0 p1 p2 p3 p4 p5 p6)), .second, .val (.double (lw_alpha p1 p2 p3 p4 p5 p6)), .second, .val (.double (lw_beta p1 p2 p3 p4 p5 p6)), .second, .val (.double (lw_rho p1 p2 p3 p4 p5 p6)), .second, .unset, .unset, .unset, .unset, .unset, .unset, .unset, .unset, .unset] [(.int p5)])) _
    refine XS.i2dS X0.here hx rfl (hb hby at_35) rfl rfl ?_
    show Steps p.tables e below (s₁.setTop (mkF m 36 #[.val (.int p1), .val (.int p2), .val (.long p3), .second, .val (.int p4), .val (.int p5), .val (.int p6), .val (.double (lw_q0 p1 p2 p3 p4 p5 p6)), .second, .val (.double (lw_alpha p1 p2 p3 p4 p5 p6)), .second, .val (.double (lw_beta p1 p2 p3 p4 p5 p6)), .second, .val (.double (lw_rho p1 p2 p3 p4 p5 p6)), .second, .unset, .unset, .unset, .unset, .unset, .unset, .unset, .unset, .unset] [(.double (FP.i2d p5))])) _
    refine XS.dstore X0.here hx rfl (hb hby at_36) rfl (l' := #[.val (.int p1), .val (.int p2), .val (.long p3), .second, .val (.int p4), .val (.int p5), .val (.int p6), .val (.double (lw_q0 p1 p2 p3 p4 p5 p6)), .second, .val (.double (lw_alpha p1 p2 p3 p4 p5 p6)), .second, .val (.double (lw_beta p1 p2 p3 p4 p5 p6)), .second, .val (.double (lw_rho p1 p2 p3 p4 p5 p6)), .second, .val (.double (lw_pres p1 p2 p3 p4 p5 p6)), .second, .unset, .unset, .unset, .unset, .unset, .unset, .unset]) rfl ?_
    show Steps p.tables e below (s₁.setTop (mkF m 38 #[.val (.int p1), .val (.int p2), .val (.long p3), .second, .val (.int p4), .val (.int p5), .val (.int p6), .val (.double (lw_q0 p1 p2 p3 p4 p5 p6)), .second, .val (.double (lw_alpha p1 p2 p3 p4 p5 p6)), .second, .val (.double (lw_beta p1 p2 p3 p4 p5 p6)), .second, .val (.double (lw_rho p1 p2 p3 p4 p5 p6)), .second, .val (.double (lw_pres p1 p2 p3 p4 p5 p6)), .second, .unset, .unset, .unset, .unset, .unset, .unset, .unset] [])) _
    refine XS.iload X0.here hx rfl (hb hby at_38) rfl ?_
    show Steps p.tables e below (s₁.setTop (mkF m 40 #[.val (.int p1), .val (.int p2), .val (.long p3), .second, .val (.int p4), .val (.int p5), .val (.int p6), .val (.double (lw_q0 p1 p2 p3 p4 p5 p6)), .second, .val (.double (lw_alpha p1 p2 p3 p4 p5 p6)), .second, .val (.double (lw_beta p1 p2 p3 p4 p5 p6)), .second, .val (.double (lw_rho p1 p2 p3 p4 p5 p6)), .second, .val (.double (lw_pres p1 p2 p3 p4 p5 p6)), .second, .unset, .unset, .unset, .unset, .unset, .unset, .unset] [(.int p6)])) _
    refine XS.i2dS X0.here hx rfl (hb hby at_40) rfl rfl ?_
    show Steps p.tables e below (s₁.setTop (mkF m 41 #[.val (.int p1), .val (.int p2), .val (.long p3), .second, .val (.int p4), .val (.int p5), .val (.int p6), .val (.double (lw_q0 p1 p2 p3 p4 p5 p6)), .second, .val (.double (lw_alpha p1 p2 p3 p4 p5 p6)), .second, .val (.double (lw_beta p1 p2 p3 p4 p5 p6)), .second, .val (.double (lw_rho p1 p2 p3 p4 p5 p6)), .second, .val (.double (lw_pres p1 p2 p3 p4 p5 p6)), .second, .unset, .unset, .unset, .unset, .unset, .unset, .unset] [(.double (FP.i2d p6))])) _
    refine XS.dstore X0.here hx rfl (hb hby at_41) rfl (l' := #[.val (.int p1), .val (.int p2), .val (.long p3), .second, .val (.int p4), .val (.int p5), .val (.int p6), .val (.double (lw_q0 p1 p2 p3 p4 p5 p6)), .second, .val (.double (lw_alpha p1 p2 p3 p4 p5 p6)), .second, .val (.double (lw_beta p1 p2 p3 p4 p5 p6)), .second, .val (.double (lw_rho p1 p2 p3 p4 p5 p6)), .second, .val (.double (lw_pres p1 p2 p3 p4 p5 p6)), .second, .val (.double (lw_np p1 p2 p3 p4 p5 p6)), .second, .unset, .unset, .unset, .unset, .unset]) rfl ?_
    show Steps p.tables e below (s₁.setTop (mkF m 43 #[.val (.int p1), .val (.int p2), .val (.long p3), .second, .val (.int p4), .val (.int p5), .val (.int p6), .val (.double (lw_q0 p1 p2 p3 p4 p5 p6)), .second, .val (.double (lw_alpha p1 p2 p3 p4 p5 p6)), .second, .val (.double (lw_beta p1 p2 p3 p4 p5 p6)), .second, .val (.double (lw_rho p1 p2 p3 p4 p5 p6)), .second, .val (.double (lw_pres p1 p2 p3 p4 p5 p6)), .second, .val (.double (lw_np p1 p2 p3 p4 p5 p6)), .second, .unset, .unset, .unset, .unset, .unset] [])) _
    refine st1 _ ?_
    show Steps p.tables e below (T1.setTop (mkF m 46 #[.val (.int p1), .val (.int p2), .val (.long p3), .second, .val (.int p4), .val (.int p5), .val (.int p6), .val (.double (lw_q0 p1 p2 p3 p4 p5 p6)), .second, .val (.double (lw_alpha p1 p2 p3 p4 p5 p6)), .second, .val (.double (lw_beta p1 p2 p3 p4 p5 p6)), .second, .val (.double (lw_rho p1 p2 p3 p4 p5 p6)), .second, .val (.double (lw_pres p1 p2 p3 p4 p5 p6)), .second, .val (.double (lw_np p1 p2 p3 p4 p5 p6)), .second, .unset, .unset, .unset, .unset, .unset] [(.ref ad1)])) _
    refine XS.dup X1.here hx rfl (hb hby at_46) rfl rfl ?_
    show Steps p.tables e below (T1.setTop (mkF m 47 #[.val (.int p1), .val (.int p2), .val (.long p3), .second, .val (.int p4), .val (.int p5), .val (.int p6), .val (.double (lw_q0 p1 p2 p3 p4 p5 p6)), .second, .val (.double (lw_alpha p1 p2 p3 p4 p5 p6)), .second, .val (.double (lw_beta p1 p2 p3 p4 p5 p6)), .second, .val (.double (lw_rho p1 p2 p3 p4 p5 p6)), .second, .val (.double (lw_pres p1 p2 p3 p4 p5 p6)), .second, .val (.double (lw_np p1 p2 p3 p4 p5 p6)), .second, .unset, .unset, .unset, .unset, .unset] [(.ref ad1), (.ref ad1)])) _
    refine XS.iloadN X1.here hx rfl (hb hby at_47) rfl ?_
    show Steps p.tables e below (T1.setTop (mkF m 48 #[.val (.int p1), .val (.int p2), .val (.long p3), .second, .val (.int p4), .val (.int p5), .val (.int p6), .val (.double (lw_q0 p1 p2 p3 p4 p5 p6)), .second, .val (.double (lw_alpha p1 p2 p3 p4 p5 p6)), .second, .val (.double (lw_beta p1 p2 p3 p4 p5 p6)), .second, .val (.double (lw_rho p1 p2 p3 p4 p5 p6)), .second, .val (.double (lw_pres p1 p2 p3 p4 p5 p6)), .second, .val (.double (lw_np p1 p2 p3 p4 p5 p6)), .second, .unset, .unset, .unset, .unset, .unset] [(.int p1), (.ref ad1), (.ref ad1)])) _
    refine XS.dload X1.here hx rfl (hb hby at_48) rfl ?_
    show Steps p.tables e below (T1.setTop (mkF m 50 #[.val (.int p1), .val (.int p2), .val (.long p3), .second, .val (.int p4), .val (.int p5), .val (.int p6), .val (.double (lw_q0 p1 p2 p3 p4 p5 p6)), .second, .val (.double (lw_alpha p1 p2 p3 p4 p5 p6)), .second, .val (.double (lw_beta p1 p2 p3 p4 p5 p6)), .second, .val (.double (lw_rho p1 p2 p3 p4 p5 p6)), .second, .val (.double (lw_pres p1 p2 p3 p4 p5 p6)), .second, .val (.double (lw_np p1 p2 p3 p4 p5 p6)), .second, .unset, .unset, .unset, .unset, .unset] [(.double (lw_q0 p1 p2 p3 p4 p5 p6)), (.int p1), (.ref ad1), (.ref ad1)])) _
    refine XS.dload X1.here hx rfl (hb hby at_50) rfl ?_
    show Steps p.tables e below (T1.setTop (mkF m 52 #[.val (.int p1), .val (.int p2), .val (.long p3), .second, .val (.int p4), .val (.int p5), .val (.int p6), .val (.double (lw_q0 p1 p2 p3 p4 p5 p6)), .second, .val (.double (lw_alpha p1 p2 p3 p4 p5 p6)), .second, .val (.double (lw_beta p1 p2 p3 p4 p5 p6)), .second, .val (.double (lw_rho p1 p2 p3 p4 p5 p6)), .second, .val (.double (lw_pres p1 p2 p3 p4 p5 p6)), .second, .val (.double (lw_np p1 p2 p3 p4 p5 p6)), .second, .unset, .unset, .unset, .unset, .unset] [(.double (lw_alpha p1 p2 p3 p4 p5 p6)), (.double (lw_q0 p1 p2 p3 p4 p5 p6)), (.int p1), (.ref ad1), (.ref ad1)])) _
    refine XS.dload X1.here hx rfl (hb hby at_52) rfl ?_
    show Steps p.tables e below (T1.setTop (mkF m 54 #[.val (.int p1), .val (.int p2), .val (.long p3), .second, .val (.int p4), .val (.int p5), .val (.int p6), .val (.double (lw_q0 p1 p2 p3 p4 p5 p6)), .second, .val (.double (lw_alpha p1 p2 p3 p4 p5 p6)), .second, .val (.double (lw_beta p1 p2 p3 p4 p5 p6)), .second, .val (.double (lw_rho p1 p2 p3 p4 p5 p6)), .second, .val (.double (lw_pres p1 p2 p3 p4 p5 p6)), .second, .val (.double (lw_np p1 p2 p3 p4 p5 p6)), .second, .unset, .unset, .unset, .unset, .unset] [(.double (lw_beta p1 p2 p3 p4 p5 p6)), (.double (lw_alpha p1 p2 p3 p4 p5 p6)), (.double (lw_q0 p1 p2 p3 p4 p5 p6)), (.int p1), (.ref ad1), (.ref ad1)])) _
    refine XS.dload X1.here hx rfl (hb hby at_54) rfl ?_
    show Steps p.tables e below (T1.setTop (mkF m 56 #[.val (.int p1), .val (.int p2), .val (.long p3), .second, .val (.int p4), .val (.int p5), .val (.int p6), .val (.double (lw_q0 p1 p2 p3 p4 p5 p6)), .second, .val (.double (lw_alpha p1 p2 p3 p4 p5 p6)), .second, .val (.double (lw_beta p1 p2 p3 p4 p5 p6)), .second, .val (.double (lw_rho p1 p2 p3 p4 p5 p6)), .second, .val (.double (lw_pres p1 p2 p3 p4 p5 p6)), .second, .val (.double (lw_np p1 p2 p3 p4 p5 p6)), .second, .unset, .unset, .unset, .unset, .unset] [(.double (lw_rho p1 p2 p3 p4 p5 p6)), (.double (lw_beta p1 p2 p3 p4 p5 p6)), (.double (lw_alpha p1 p2 p3 p4 p5 p6)), (.double (lw_q0 p1 p2 p3 p4 p5 p6)), (.int p1), (.ref ad1), (.ref ad1)])) _
    refine XS.iloadN X1.here hx rfl (hb hby at_56) rfl ?_
    show Steps p.tables e below (T1.setTop (mkF m 57 #[.val (.int p1), .val (.int p2), .val (.long p3), .second, .val (.int p4), .val (.int p5), .val (.int p6), .val (.double (lw_q0 p1 p2 p3 p4 p5 p6)), .second, .val (.double (lw_alpha p1 p2 p3 p4 p5 p6)), .second, .val (.double (lw_beta p1 p2 p3 p4 p5 p6)), .second, .val (.double (lw_rho p1 p2 p3 p4 p5 p6)), .second, .val (.double (lw_pres p1 p2 p3 p4 p5 p6)), .second, .val (.double (lw_np p1 p2 p3 p4 p5 p6)), .second, .unset, .unset, .unset, .unset, .unset] [(.int p2), (.double (lw_rho p1 p2 p3 p4 p5 p6)), (.double (lw_beta p1 p2 p3 p4 p5 p6)), (.double (lw_alpha p1 p2 p3 p4 p5 p6)), (.double (lw_q0 p1 p2 p3 p4 p5 p6)), (.int p1), (.ref ad1), (.ref ad1)])) _
    refine XS.dload X1.here hx rfl (hb hby at_57) rfl ?_
    show Steps p.tables e below (T1.setTop (mkF m 59 #[.val (.int p1), .val (.int p2), .val (.long p3), .second, .val (.int p4), .val (.int p5), .val (.int p6), .val (.double (lw_q0 p1 p2 p3 p4 p5 p6)), .second, .val (.double (lw_alpha p1 p2 p3 p4 p5 p6)), .second, .val (.double (lw_beta p1 p2 p3 p4 p5 p6)), .second, .val (.double (lw_rho p1 p2 p3 p4 p5 p6)), .second, .val (.double (lw_pres p1 p2 p3 p4 p5 p6)), .second, .val (.double (lw_np p1 p2 p3 p4 p5 p6)), .second, .unset, .unset, .unset, .unset, .unset] [(.double (lw_pres p1 p2 p3 p4 p5 p6)), (.int p2), (.double (lw_rho p1 p2 p3 p4 p5 p6)), (.double (lw_beta p1 p2 p3 p4 p5 p6)), (.double (lw_alpha p1 p2 p3 p4 p5 p6)), (.double (lw_q0 p1 p2 p3 p4 p5 p6)), (.int p1), (.ref ad1), (.ref ad1)])) _
    refine XT.lloadN X1.here hx rfl (hb hby at_59) rfl ?_
    show Steps p.tables e below (T1.setTop (mkF m 60 #[.val (.int p1), .val (.int p2), .val (.long p3), .second, .val (.int p4), .val (.int p5), .val (.int p6), .val (.double (lw_q0 p1 p2 p3 p4 p5 p6)), .second, .val (.double (lw_alpha p1 p2 p3 p4 p5 p6)), .second, .val (.double (lw_beta p1 p2 p3 p4 p5 p6)), .second, .val (.double (lw_rho p1 p2 p3 p4 p5 p6)), .second, .val (.double (lw_pres p1 p2 p3 p4 p5 p6)), .second, .val (.double (lw_np p1 p2 p3 p4 p5 p6)), .second, .unset, .unset, .unset, .unset, .unset] [(.long p3), (.double (lw_pres p1 p2 p3 p4 p5 p6)), (.int p2), (.double (lw_rho p1 p2 p3 p4 p5 p6)), (.double (lw_beta p1 p2 p3 p4 p5 p6)), (.double (lw_alpha p1 p2 p3 p4 p5 p6)), (.double (lw_q0 p1 p2 p3 p4 p5 p6)), (.int p1), (.ref ad1), (.ref ad1)])) _
    refine st2.trans ?_
    show Steps p.tables e below (T2.setTop (mkF m 63 #[.val (.int p1), .val (.int p2), .val (.long p3), .second, .val (.int p4), .val (.int p5), .val (.int p6), .val (.double (lw_q0 p1 p2 p3 p4 p5 p6)), .second, .val (.double (lw_alpha p1 p2 p3 p4 p5 p6)), .second, .val (.double (lw_beta p1 p2 p3 p4 p5 p6)), .second, .val (.double (lw_rho p1 p2 p3 p4 p5 p6)), .second, .val (.double (lw_pres p1 p2 p3 p4 p5 p6)), .second, .val (.double (lw_np p1 p2 p3 p4 p5 p6)), .second, .unset, .unset, .unset, .unset, .unset] [(.ref ad1)])) _
    refine XS.astore X2.here hx rfl (hb hby at_63) rfl rfl (l' := #[.val (.int p1), .val (.int p2), .val (.long p3), .second, .val (.int p4), .val (.int p5), .val (.int p6), .val (.double (lw_q0 p1 p2 p3 p4 p5 p6)), .second, .val (.double (lw_alpha p1 p2 p3 p4 p5 p6)), .second, .val (.double (lw_beta p1 p2 p3 p4 p5 p6)), .second, .val (.double (lw_rho p1 p2 p3 p4 p5 p6)), .second, .val (.double (lw_pres p1 p2 p3 p4 p5 p6)), .second, .val (.double (lw_np p1 p2 p3 p4 p5 p6)), .second, .val (.ref ad1), .unset, .unset, .unset, .unset]) rfl ?_
    show Steps p.tables e below (T2.setTop (mkF m 65 #[.val (.int p1), .val (.int p2), .val (.long p3), .second, .val (.int p4), .val (.int p5), .val (.int p6), .val (.double (lw_q0 p1 p2 p3 p4 p5 p6)), .second, .val (.double (lw_alpha p1 p2 p3 p4 p5 p6)), .second, .val (.double (lw_beta p1 p2 p3 p4 p5 p6)), .second, .val (.double (lw_rho p1 p2 p3 p4 p5 p6)), .second, .val (.double (lw_pres p1 p2 p3 p4 p5 p6)), .second, .val (.double (lw_np p1 p2 p3 p4 p5 p6)), .second, .val (.ref ad1), .unset, .unset, .unset, .unset] [])) _
    refine XS.aload X2.here hx rfl (hb hby at_65) rfl rfl ?_
    show Steps p.tables e below (T2.setTop (mkF m 67 #[.val (.int p1), .val (.int p2), .val (.long p3), .second, .val (.int p4), .val (.int p5), .val (.int p6), .val (.double (lw_q0 p1 p2 p3 p4 p5 p6)), .second, .val (.double (lw_alpha p1 p2 p3 p4 p5 p6)), .second, .val (.double (lw_beta p1 p2 p3 p4 p5 p6)), .second, .val (.double (lw_rho p1 p2 p3 p4 p5 p6)), .second, .val (.double (lw_pres p1 p2 p3 p4 p5 p6)), .second, .val (.double (lw_np p1 p2 p3 p4 p5 p6)), .second, .val (.ref ad1), .unset, .unset, .unset, .unset] [(.ref ad1)])) _
    refine XS.dload X2.here hx rfl (hb hby at_67) rfl ?_
    show Steps p.tables e below (T2.setTop (mkF m 69 #[.val (.int p1), .val (.int p2), .val (.long p3), .second, .val (.int p4), .val (.int p5), .val (.int p6), .val (.double (lw_q0 p1 p2 p3 p4 p5 p6)), .second, .val (.double (lw_alpha p1 p2 p3 p4 p5 p6)), .second, .val (.double (lw_beta p1 p2 p3 p4 p5 p6)), .second, .val (.double (lw_rho p1 p2 p3 p4 p5 p6)), .second, .val (.double (lw_pres p1 p2 p3 p4 p5 p6)), .second, .val (.double (lw_np p1 p2 p3 p4 p5 p6)), .second, .val (.ref ad1), .unset, .unset, .unset, .unset] [(.double (lw_np p1 p2 p3 p4 p5 p6)), (.ref ad1)])) _
    refine st3.trans ?_
    show Steps p.tables e below (T3.setTop (mkF m 72 #[.val (.int p1), .val (.int p2), .val (.long p3), .second, .val (.int p4), .val (.int p5), .val (.int p6), .val (.double (lw_q0 p1 p2 p3 p4 p5 p6)), .second, .val (.double (lw_alpha p1 p2 p3 p4 p5 p6)), .second, .val (.double (lw_beta p1 p2 p3 p4 p5 p6)), .second, .val (.double (lw_rho p1 p2 p3 p4 p5 p6)), .second, .val (.double (lw_pres p1 p2 p3 p4 p5 p6)), .second, .val (.double (lw_np p1 p2 p3 p4 p5 p6)), .second, .val (.ref ad1), .unset, .unset, .unset, .unset] [(.ref ad3)])) _
    refine XS.astore X3.here hx rfl (hb hby at_72) rfl rfl (l' := #[.val (.int p1), .val (.int p2), .val (.long p3), .second, .val (.int p4), .val (.int p5), .val (.int p6), .val (.double (lw_q0 p1 p2 p3 p4 p5 p6)), .second, .val (.double (lw_alpha p1 p2 p3 p4 p5 p6)), .second, .val (.double (lw_beta p1 p2 p3 p4 p5 p6)), .second, .val (.double (lw_rho p1 p2 p3 p4 p5 p6)), .second, .val (.double (lw_pres p1 p2 p3 p4 p5 p6)), .second, .val (.double (lw_np p1 p2 p3 p4 p5 p6)), .second, .val (.ref ad1), .val (.ref ad3), .unset, .unset, .unset]) rfl ?_
    show Steps p.tables e below (T3.setTop (mkF m 74 #[.val (.int p1), .val (.int p2), .val (.long p3), .second, .val (.int p4), .val (.int p5), .val (.int p6), .val (.double (lw_q0 p1 p2 p3 p4 p5 p6)), .second, .val (.double (lw_alpha p1 p2 p3 p4 p5 p6)), .second, .val (.double (lw_beta p1 p2 p3 p4 p5 p6)), .second, .val (.double (lw_rho p1 p2 p3 p4 p5 p6)), .second, .val (.double (lw_pres p1 p2 p3 p4 p5 p6)), .second, .val (.double (lw_np p1 p2 p3 p4 p5 p6)), .second, .val (.ref ad1), .val (.ref ad3), .unset, .unset, .unset] [])) _
    refine XS.aload X3.here hx rfl (hb hby at_74) rfl rfl ?_
    show Steps p.tables e below (T3.setTop (mkF m 76 #[.val (.int p1), .val (.int p2), .val (.long p3), .second, .val (.int p4), .val (.int p5), .val (.int p6), .val (.double (lw_q0 p1 p2 p3 p4 p5 p6)), .second, .val (.double (lw_alpha p1 p2 p3 p4 p5 p6)), .second, .val (.double (lw_beta p1 p2 p3 p4 p5 p6)), .second, .val (.double (lw_rho p1 p2 p3 p4 p5 p6)), .second, .val (.double (lw_pres p1 p2 p3 p4 p5 p6)), .second, .val (.double (lw_np p1 p2 p3 p4 p5 p6)), .second, .val (.ref ad1), .val (.ref ad3), .unset, .unset, .unset] [(.ref ad3)])) _
    refine st13.trans ?_
    show Steps p.tables e below (T13.setTop (mkF m 79 #[.val (.int p1), .val (.int p2), .val (.long p3), .second, .val (.int p4), .val (.int p5), .val (.int p6), .val (.double (lw_q0 p1 p2 p3 p4 p5 p6)), .second, .val (.double (lw_alpha p1 p2 p3 p4 p5 p6)), .second, .val (.double (lw_beta p1 p2 p3 p4 p5 p6)), .second, .val (.double (lw_rho p1 p2 p3 p4 p5 p6)), .second, .val (.double (lw_pres p1 p2 p3 p4 p5 p6)), .second, .val (.double (lw_np p1 p2 p3 p4 p5 p6)), .second, .val (.ref ad1), .val (.ref ad3), .unset, .unset, .unset] [(.int p1)])) _
    refine XS.iloadN X13.here hx rfl (hb hby at_79) rfl ?_
    show Steps p.tables e below (T13.setTop (mkF m 80 #[.val (.int p1), .val (.int p2), .val (.long p3), .second, .val (.int p4), .val (.int p5), .val (.int p6), .val (.double (lw_q0 p1 p2 p3 p4 p5 p6)), .second, .val (.double (lw_alpha p1 p2 p3 p4 p5 p6)), .second, .val (.double (lw_beta p1 p2 p3 p4 p5 p6)), .second, .val (.double (lw_rho p1 p2 p3 p4 p5 p6)), .second, .val (.double (lw_pres p1 p2 p3 p4 p5 p6)), .second, .val (.double (lw_np p1 p2 p3 p4 p5 p6)), .second, .val (.ref ad1), .val (.ref ad3), .unset, .unset, .unset] [(.int p1), (.int p1)])) _
    refine XS.icmpNo X13.here hx rfl (hb hby at_80) rfl (own_ie _) ?_
    show Steps p.tables e below (T13.setTop (mkF m 83 #[.val (.int p1), .val (.int p2), .val (.long p3), .second, .val (.int p4), .val (.int p5), .val (.int p6), .val (.double (lw_q0 p1 p2 p3 p4 p5 p6)), .second, .val (.double (lw_alpha p1 p2 p3 p4 p5 p6)), .second, .val (.double (lw_beta p1 p2 p3 p4 p5 p6)), .second, .val (.double (lw_rho p1 p2 p3 p4 p5 p6)), .second, .val (.double (lw_pres p1 p2 p3 p4 p5 p6)), .second, .val (.double (lw_np p1 p2 p3 p4 p5 p6)), .second, .val (.ref ad1), .val (.ref ad3), .unset, .unset, .unset] [])) _
    refine XS.aload X13.here hx rfl (hb hby at_83) rfl rfl ?_
    show Steps p.tables e below (T13.setTop (mkF m 85 #[.val (.int p1), .val (.int p2), .val (.long p3), .second, .val (.int p4), .val (.int p5), .val (.int p6), .val (.double (lw_q0 p1 p2 p3 p4 p5 p6)), .second, .val (.double (lw_alpha p1 p2 p3 p4 p5 p6)), .second, .val (.double (lw_beta p1 p2 p3 p4 p5 p6)), .second, .val (.double (lw_rho p1 p2 p3 p4 p5 p6)), .second, .val (.double (lw_pres p1 p2 p3 p4 p5 p6)), .second, .val (.double (lw_np p1 p2 p3 p4 p5 p6)), .second, .val (.ref ad1), .val (.ref ad3), .unset, .unset, .unset] [(.ref ad3)])) _
    refine st14.trans ?_
    show Steps p.tables e below (T14.setTop (mkF m 88 #[.val (.int p1), .val (.int p2), .val (.long p3), .second, .val (.int p4), .val (.int p5), .val (.int p6), .val (.double (lw_q0 p1 p2 p3 p4 p5 p6)), .second, .val (.double (lw_alpha p1 p2 p3 p4 p5 p6)), .second, .val (.double (lw_beta p1 p2 p3 p4 p5 p6)), .second, .val (.double (lw_rho p1 p2 p3 p4 p5 p6)), .second, .val (.double (lw_pres p1 p2 p3 p4 p5 p6)), .second, .val (.double (lw_np p1 p2 p3 p4 p5 p6)), .second, .val (.ref ad1), .val (.ref ad3), .unset, .unset, .unset] [(.double (lw_q0 p1 p2 p3 p4 p5 p6))])) _
    refine XS.dload X14.here hx rfl (hb hby at_88) rfl ?_
    show Steps p.tables e below (T14.setTop (mkF m 90 #[.val (.int p1), .val (.int p2), .val (.long p3), .second, .val (.int p4), .val (.int p5), .val (.int p6), .val (.double (lw_q0 p1 p2 p3 p4 p5 p6)), .second, .val (.double (lw_alpha p1 p2 p3 p4 p5 p6)), .second, .val (.double (lw_beta p1 p2 p3 p4 p5 p6)), .second, .val (.double (lw_rho p1 p2 p3 p4 p5 p6)), .second, .val (.double (lw_pres p1 p2 p3 p4 p5 p6)), .second, .val (.double (lw_np p1 p2 p3 p4 p5 p6)), .second, .val (.ref ad1), .val (.ref ad3), .unset, .unset, .unset] [(.double (lw_q0 p1 p2 p3 p4 p5 p6)), (.double (lw_q0 p1 p2 p3 p4 p5 p6))])) _
    refine XS.dcmpS X14.here hx rfl (hb hby at_90) rfl rfl ?_
    show Steps p.tables e below (T14.setTop (mkF m 91 #[.val (.int p1), .val (.int p2), .val (.long p3), .second, .val (.int p4), .val (.int p5), .val (.int p6), .val (.double (lw_q0 p1 p2 p3 p4 p5 p6)), .second, .val (.double (lw_alpha p1 p2 p3 p4 p5 p6)), .second, .val (.double (lw_beta p1 p2 p3 p4 p5 p6)), .second, .val (.double (lw_rho p1 p2 p3 p4 p5 p6)), .second, .val (.double (lw_pres p1 p2 p3 p4 p5 p6)), .second, .val (.double (lw_np p1 p2 p3 p4 p5 p6)), .second, .val (.ref ad1), .val (.ref ad3), .unset, .unset, .unset] [(.int (cmpValue (FP.dcmp (lw_q0 p1 p2 p3 p4 p5 p6) (lw_q0 p1 p2 p3 p4 p5 p6)) .l))])) _
    refine XS.ifNo X14.here hx rfl (hb hby at_91) rfl (own_dd (own_i2d _).nn .l) ?_
    show Steps p.tables e below (T14.setTop (mkF m 94 #[.val (.int p1), .val (.int p2), .val (.long p3), .second, .val (.int p4), .val (.int p5), .val (.int p6), .val (.double (lw_q0 p1 p2 p3 p4 p5 p6)), .second, .val (.double (lw_alpha p1 p2 p3 p4 p5 p6)), .second, .val (.double (lw_beta p1 p2 p3 p4 p5 p6)), .second, .val (.double (lw_rho p1 p2 p3 p4 p5 p6)), .second, .val (.double (lw_pres p1 p2 p3 p4 p5 p6)), .second, .val (.double (lw_np p1 p2 p3 p4 p5 p6)), .second, .val (.ref ad1), .val (.ref ad3), .unset, .unset, .unset] [])) _
    refine XS.aload X14.here hx rfl (hb hby at_94) rfl rfl ?_
    show Steps p.tables e below (T14.setTop (mkF m 96 #[.val (.int p1), .val (.int p2), .val (.long p3), .second, .val (.int p4), .val (.int p5), .val (.int p6), .val (.double (lw_q0 p1 p2 p3 p4 p5 p6)), .second, .val (.double (lw_alpha p1 p2 p3 p4 p5 p6)), .second, .val (.double (lw_beta p1 p2 p3 p4 p5 p6)), .second, .val (.double (lw_rho p1 p2 p3 p4 p5 p6)), .second, .val (.double (lw_pres p1 p2 p3 p4 p5 p6)), .second, .val (.double (lw_np p1 p2 p3 p4 p5 p6)), .second, .val (.ref ad1), .val (.ref ad3), .unset, .unset, .unset] [(.ref ad3)])) _
    refine st15.trans ?_
    show Steps p.tables e below (T15.setTop (mkF m 99 #[.val (.int p1), .val (.int p2), .val (.long p3), .second, .val (.int p4), .val (.int p5), .val (.int p6), .val (.double (lw_q0 p1 p2 p3 p4 p5 p6)), .second, .val (.double (lw_alpha p1 p2 p3 p4 p5 p6)), .second, .val (.double (lw_beta p1 p2 p3 p4 p5 p6)), .second, .val (.double (lw_rho p1 p2 p3 p4 p5 p6)), .second, .val (.double (lw_pres p1 p2 p3 p4 p5 p6)), .second, .val (.double (lw_np p1 p2 p3 p4 p5 p6)), .second, .val (.ref ad1), .val (.ref ad3), .unset, .unset, .unset] [(.double (lw_alpha p1 p2 p3 p4 p5 p6))])) _
    refine XS.dload X15.here hx rfl (hb hby at_99) rfl ?_
    show Steps p.tables e below (T15.setTop (mkF m 101 #[.val (.int p1), .val (.int p2), .val (.long p3), .second, .val (.int p4), .val (.int p5), .val (.int p6), .val (.double (lw_q0 p1 p2 p3 p4 p5 p6)), .second, .val (.double (lw_alpha p1 p2 p3 p4 p5 p6)), .second, .val (.double (lw_beta p1 p2 p3 p4 p5 p6)), .second, .val (.double (lw_rho p1 p2 p3 p4 p5 p6)), .second, .val (.double (lw_pres p1 p2 p3 p4 p5 p6)), .second, .val (.double (lw_np p1 p2 p3 p4 p5 p6)), .second, .val (.ref ad1), .val (.ref ad3), .unset, .unset, .unset] [(.double (lw_alpha p1 p2 p3 p4 p5 p6)), (.double (lw_alpha p1 p2 p3 p4 p5 p6))])) _
    refine XS.dcmpS X15.here hx rfl (hb hby at_101) rfl rfl ?_
    show Steps p.tables e below (T15.setTop (mkF m 102 #[.val (.int p1), .val (.int p2), .val (.long p3), .second, .val (.int p4), .val (.int p5), .val (.int p6), .val (.double (lw_q0 p1 p2 p3 p4 p5 p6)), .second, .val (.double (lw_alpha p1 p2 p3 p4 p5 p6)), .second, .val (.double (lw_beta p1 p2 p3 p4 p5 p6)), .second, .val (.double (lw_rho p1 p2 p3 p4 p5 p6)), .second, .val (.double (lw_pres p1 p2 p3 p4 p5 p6)), .second, .val (.double (lw_np p1 p2 p3 p4 p5 p6)), .second, .val (.ref ad1), .val (.ref ad3), .unset, .unset, .unset] [(.int (cmpValue (FP.dcmp (lw_alpha p1 p2 p3 p4 p5 p6) (lw_alpha p1 p2 p3 p4 p5 p6)) .l))])) _
    refine XS.ifNo X15.here hx rfl (hb hby at_102) rfl (own_dd (own_i2d _).nn .l) ?_
    show Steps p.tables e below (T15.setTop (mkF m 105 #[.val (.int p1), .val (.int p2), .val (.long p3), .second, .val (.int p4), .val (.int p5), .val (.int p6), .val (.double (lw_q0 p1 p2 p3 p4 p5 p6)), .second, .val (.double (lw_alpha p1 p2 p3 p4 p5 p6)), .second, .val (.double (lw_beta p1 p2 p3 p4 p5 p6)), .second, .val (.double (lw_rho p1 p2 p3 p4 p5 p6)), .second, .val (.double (lw_pres p1 p2 p3 p4 p5 p6)), .second, .val (.double (lw_np p1 p2 p3 p4 p5 p6)), .second, .val (.ref ad1), .val (.ref ad3), .unset, .unset, .unset] [])) _
    refine XS.aload X15.here hx rfl (hb hby at_105) rfl rfl ?_
    show Steps p.tables e below (T15.setTop (mkF m 107 #[.val (.int p1), .val (.int p2), .val (.long p3), .second, .val (.int p4), .val (.int p5), .val (.int p6), .val (.double (lw_q0 p1 p2 p3 p4 p5 p6)), .second, .val (.double (lw_alpha p1 p2 p3 p4 p5 p6)), .second, .val (.double (lw_beta p1 p2 p3 p4 p5 p6)), .second, .val (.double (lw_rho p1 p2 p3 p4 p5 p6)), .second, .val (.double (lw_pres p1 p2 p3 p4 p5 p6)), .second, .val (.double (lw_np p1 p2 p3 p4 p5 p6)), .second, .val (.ref ad1), .val (.ref ad3), .unset, .unset, .unset] [(.ref ad3)])) _
    refine st16.trans ?_
    show Steps p.tables e below (T16.setTop (mkF m 110 #[.val (.int p1), .val (.int p2), .val (.long p3), .second, .val (.int p4), .val (.int p5), .val (.int p6), .val (.double (lw_q0 p1 p2 p3 p4 p5 p6)), .second, .val (.double (lw_alpha p1 p2 p3 p4 p5 p6)), .second, .val (.double (lw_beta p1 p2 p3 p4 p5 p6)), .second, .val (.double (lw_rho p1 p2 p3 p4 p5 p6)), .second, .val (.double (lw_pres p1 p2 p3 p4 p5 p6)), .second, .val (.double (lw_np p1 p2 p3 p4 p5 p6)), .second, .val (.ref ad1), .val (.ref ad3), .unset, .unset, .unset] [(.double (lw_beta p1 p2 p3 p4 p5 p6))])) _
    refine XS.dload X16.here hx rfl (hb hby at_110) rfl ?_
    show Steps p.tables e below (T16.setTop (mkF m 112 #[.val (.int p1), .val (.int p2), .val (.long p3), .second, .val (.int p4), .val (.int p5), .val (.int p6), .val (.double (lw_q0 p1 p2 p3 p4 p5 p6)), .second, .val (.double (lw_alpha p1 p2 p3 p4 p5 p6)), .second, .val (.double (lw_beta p1 p2 p3 p4 p5 p6)), .second, .val (.double (lw_rho p1 p2 p3 p4 p5 p6)), .second, .val (.double (lw_pres p1 p2 p3 p4 p5 p6)), .second, .val (.double (lw_np p1 p2 p3 p4 p5 p6)), .second, .val (.ref ad1), .val (.ref ad3), .unset, .unset, .unset] [(.double (lw_beta p1 p2 p3 p4 p5 p6)), (.double (lw_beta p1 p2 p3 p4 p5 p6))])) _
    refine XS.dcmpS X16.here hx rfl (hb hby at_112) rfl rfl ?_
    show Steps p.tables e below (T16.setTop (mkF m 113 #[.val (.int p1), .val (.int p2), .val (.long p3), .second, .val (.int p4), .val (.int p5), .val (.int p6), .val (.double (lw_q0 p1 p2 p3 p4 p5 p6)), .second, .val (.double (lw_alpha p1 p2 p3 p4 p5 p6)), .second, .val (.double (lw_beta p1 p2 p3 p4 p5 p6)), .second, .val (.double (lw_rho p1 p2 p3 p4 p5 p6)), .second, .val (.double (lw_pres p1 p2 p3 p4 p5 p6)), .second, .val (.double (lw_np p1 p2 p3 p4 p5 p6)), .second, .val (.ref ad1), .val (.ref ad3), .unset, .unset, .unset] [(.int (cmpValue (FP.dcmp (lw_beta p1 p2 p3 p4 p5 p6) (lw_beta p1 p2 p3 p4 p5 p6)) .l))])) _
    refine XS.ifNo X16.here hx rfl (hb hby at_113) rfl (own_dd (own_i2d _).nn .l) ?_
    show Steps p.tables e below (T16.setTop (mkF m 116 #[.val (.int p1), .val (.int p2), .val (.long p3), .second, .val (.int p4), .val (.int p5), .val (.int p6), .val (.double (lw_q0 p1 p2 p3 p4 p5 p6)), .second, .val (.double (lw_alpha p1 p2 p3 p4 p5 p6)), .second, .val (.double (lw_beta p1 p2 p3 p4 p5 p6)), .second, .val (.double (lw_rho p1 p2 p3 p4 p5 p6)), .second, .val (.double (lw_pres p1 p2 p3 p4 p5 p6)), .second, .val (.double (lw_np p1 p2 p3 p4 p5 p6)), .second, .val (.ref ad1), .val (.ref ad3), .unset, .unset, .unset] [])) _
    refine XS.aload X16.here hx rfl (hb hby at_116) rfl rfl ?_
    show Steps p.tables e below (T16.setTop (mkF m 118 #[.val (.int p1), .val (.int p2), .val (.long p3), .second, .val (.int p4), .val (.int p5), .val (.int p6), .val (.double (lw_q0 p1 p2 p3 p4 p5 p6)), .second, .val (.double (lw_alpha p1 p2 p3 p4 p5 p6)), .second, .val (.double (lw_beta p1 p2 p3 p4 p5 p6)), .second, .val (.double (lw_rho p1 p2 p3 p4 p5 p6)), .second, .val (.double (lw_pres p1 p2 p3 p4 p5 p6)), .second, .val (.double (lw_np p1 p2 p3 p4 p5 p6)), .second, .val (.ref ad1), .val (.ref ad3), .unset, .unset, .unset] [(.ref ad3)])) _
    refine st17.trans ?_
    show Steps p.tables e below (T17.setTop (mkF m 121 #[.val (.int p1), .val (.int p2), .val (.long p3), .second, .val (.int p4), .val (.int p5), .val (.int p6), .val (.double (lw_q0 p1 p2 p3 p4 p5 p6)), .second, .val (.double (lw_alpha p1 p2 p3 p4 p5 p6)), .second, .val (.double (lw_beta p1 p2 p3 p4 p5 p6)), .second, .val (.double (lw_rho p1 p2 p3 p4 p5 p6)), .second, .val (.double (lw_pres p1 p2 p3 p4 p5 p6)), .second, .val (.double (lw_np p1 p2 p3 p4 p5 p6)), .second, .val (.ref ad1), .val (.ref ad3), .unset, .unset, .unset] [(.double (lw_rho p1 p2 p3 p4 p5 p6))])) _
    refine XS.dload X17.here hx rfl (hb hby at_121) rfl ?_
    show Steps p.tables e below (T17.setTop (mkF m 123 #[.val (.int p1), .val (.int p2), .val (.long p3), .second, .val (.int p4), .val (.int p5), .val (.int p6), .val (.double (lw_q0 p1 p2 p3 p4 p5 p6)), .second, .val (.double (lw_alpha p1 p2 p3 p4 p5 p6)), .second, .val (.double (lw_beta p1 p2 p3 p4 p5 p6)), .second, .val (.double (lw_rho p1 p2 p3 p4 p5 p6)), .second, .val (.double (lw_pres p1 p2 p3 p4 p5 p6)), .second, .val (.double (lw_np p1 p2 p3 p4 p5 p6)), .second, .val (.ref ad1), .val (.ref ad3), .unset, .unset, .unset] [(.double (lw_rho p1 p2 p3 p4 p5 p6)), (.double (lw_rho p1 p2 p3 p4 p5 p6))])) _
    refine XS.dcmpS X17.here hx rfl (hb hby at_123) rfl rfl ?_
    show Steps p.tables e below (T17.setTop (mkF m 124 #[.val (.int p1), .val (.int p2), .val (.long p3), .second, .val (.int p4), .val (.int p5), .val (.int p6), .val (.double (lw_q0 p1 p2 p3 p4 p5 p6)), .second, .val (.double (lw_alpha p1 p2 p3 p4 p5 p6)), .second, .val (.double (lw_beta p1 p2 p3 p4 p5 p6)), .second, .val (.double (lw_rho p1 p2 p3 p4 p5 p6)), .second, .val (.double (lw_pres p1 p2 p3 p4 p5 p6)), .second, .val (.double (lw_np p1 p2 p3 p4 p5 p6)), .second, .val (.ref ad1), .val (.ref ad3), .unset, .unset, .unset] [(.int (cmpValue (FP.dcmp (lw_rho p1 p2 p3 p4 p5 p6) (lw_rho p1 p2 p3 p4 p5 p6)) .l))])) _
    refine XS.ifNo X17.here hx rfl (hb hby at_124) rfl (own_dd (own_i2d _).nn .l) ?_
    show Steps p.tables e below (T17.setTop (mkF m 127 #[.val (.int p1), .val (.int p2), .val (.long p3), .second, .val (.int p4), .val (.int p5), .val (.int p6), .val (.double (lw_q0 p1 p2 p3 p4 p5 p6)), .second, .val (.double (lw_alpha p1 p2 p3 p4 p5 p6)), .second, .val (.double (lw_beta p1 p2 p3 p4 p5 p6)), .second, .val (.double (lw_rho p1 p2 p3 p4 p5 p6)), .second, .val (.double (lw_pres p1 p2 p3 p4 p5 p6)), .second, .val (.double (lw_np p1 p2 p3 p4 p5 p6)), .second, .val (.ref ad1), .val (.ref ad3), .unset, .unset, .unset] [])) _
    refine XS.aload X17.here hx rfl (hb hby at_127) rfl rfl ?_
    show Steps p.tables e below (T17.setTop (mkF m 129 #[.val (.int p1), .val (.int p2), .val (.long p3), .second, .val (.int p4), .val (.int p5), .val (.int p6), .val (.double (lw_q0 p1 p2 p3 p4 p5 p6)), .second, .val (.double (lw_alpha p1 p2 p3 p4 p5 p6)), .second, .val (.double (lw_beta p1 p2 p3 p4 p5 p6)), .second, .val (.double (lw_rho p1 p2 p3 p4 p5 p6)), .second, .val (.double (lw_pres p1 p2 p3 p4 p5 p6)), .second, .val (.double (lw_np p1 p2 p3 p4 p5 p6)), .second, .val (.ref ad1), .val (.ref ad3), .unset, .unset, .unset] [(.ref ad3)])) _
    refine st18.trans ?_
    show Steps p.tables e below (T18.setTop (mkF m 132 #[.val (.int p1), .val (.int p2), .val (.long p3), .second, .val (.int p4), .val (.int p5), .val (.int p6), .val (.double (lw_q0 p1 p2 p3 p4 p5 p6)), .second, .val (.double (lw_alpha p1 p2 p3 p4 p5 p6)), .second, .val (.double (lw_beta p1 p2 p3 p4 p5 p6)), .second, .val (.double (lw_rho p1 p2 p3 p4 p5 p6)), .second, .val (.double (lw_pres p1 p2 p3 p4 p5 p6)), .second, .val (.double (lw_np p1 p2 p3 p4 p5 p6)), .second, .val (.ref ad1), .val (.ref ad3), .unset, .unset, .unset] [(.int p2)])) _
    refine XS.iloadN X18.here hx rfl (hb hby at_132) rfl ?_
    show Steps p.tables e below (T18.setTop (mkF m 133 #[.val (.int p1), .val (.int p2), .val (.long p3), .second, .val (.int p4), .val (.int p5), .val (.int p6), .val (.double (lw_q0 p1 p2 p3 p4 p5 p6)), .second, .val (.double (lw_alpha p1 p2 p3 p4 p5 p6)), .second, .val (.double (lw_beta p1 p2 p3 p4 p5 p6)), .second, .val (.double (lw_rho p1 p2 p3 p4 p5 p6)), .second, .val (.double (lw_pres p1 p2 p3 p4 p5 p6)), .second, .val (.double (lw_np p1 p2 p3 p4 p5 p6)), .second, .val (.ref ad1), .val (.ref ad3), .unset, .unset, .unset] [(.int p2), (.int p2)])) _
    refine XS.icmpNo X18.here hx rfl (hb hby at_133) rfl (own_ie _) ?_
    show Steps p.tables e below (T18.setTop (mkF m 136 #[.val (.int p1), .val (.int p2), .val (.long p3), .second, .val (.int p4), .val (.int p5), .val (.int p6), .val (.double (lw_q0 p1 p2 p3 p4 p5 p6)), .second, .val (.double (lw_alpha p1 p2 p3 p4 p5 p6)), .second, .val (.double (lw_beta p1 p2 p3 p4 p5 p6)), .second, .val (.double (lw_rho p1 p2 p3 p4 p5 p6)), .second, .val (.double (lw_pres p1 p2 p3 p4 p5 p6)), .second, .val (.double (lw_np p1 p2 p3 p4 p5 p6)), .second, .val (.ref ad1), .val (.ref ad3), .unset, .unset, .unset] [])) _
    refine XS.aload X18.here hx rfl (hb hby at_136) rfl rfl ?_
    show Steps p.tables e below (T18.setTop (mkF m 138 #[.val (.int p1), .val (.int p2), .val (.long p3), .second, .val (.int p4), .val (.int p5), .val (.int p6), .val (.double (lw_q0 p1 p2 p3 p4 p5 p6)), .second, .val (.double (lw_alpha p1 p2 p3 p4 p5 p6)), .second, .val (.double (lw_beta p1 p2 p3 p4 p5 p6)), .second, .val (.double (lw_rho p1 p2 p3 p4 p5 p6)), .second, .val (.double (lw_pres p1 p2 p3 p4 p5 p6)), .second, .val (.double (lw_np p1 p2 p3 p4 p5 p6)), .second, .val (.ref ad1), .val (.ref ad3), .unset, .unset, .unset] [(.ref ad3)])) _
    refine st19.trans ?_
    show Steps p.tables e below (T19.setTop (mkF m 141 #[.val (.int p1), .val (.int p2), .val (.long p3), .second, .val (.int p4), .val (.int p5), .val (.int p6), .val (.double (lw_q0 p1 p2 p3 p4 p5 p6)), .second, .val (.double (lw_alpha p1 p2 p3 p4 p5 p6)), .second, .val (.double (lw_beta p1 p2 p3 p4 p5 p6)), .second, .val (.double (lw_rho p1 p2 p3 p4 p5 p6)), .second, .val (.double (lw_pres p1 p2 p3 p4 p5 p6)), .second, .val (.double (lw_np p1 p2 p3 p4 p5 p6)), .second, .val (.ref ad1), .val (.ref ad3), .unset, .unset, .unset] [(.long p3)])) _
    refine XT.lloadN X19.here hx rfl (hb hby at_141) rfl ?_
    show Steps p.tables e below (T19.setTop (mkF m 142 #[.val (.int p1), .val (.int p2), .val (.long p3), .second, .val (.int p4), .val (.int p5), .val (.int p6), .val (.double (lw_q0 p1 p2 p3 p4 p5 p6)), .second, .val (.double (lw_alpha p1 p2 p3 p4 p5 p6)), .second, .val (.double (lw_beta p1 p2 p3 p4 p5 p6)), .second, .val (.double (lw_rho p1 p2 p3 p4 p5 p6)), .second, .val (.double (lw_pres p1 p2 p3 p4 p5 p6)), .second, .val (.double (lw_np p1 p2 p3 p4 p5 p6)), .second, .val (.ref ad1), .val (.ref ad3), .unset, .unset, .unset] [(.long p3), (.long p3)])) _
    refine XT.lcmp X19.here hx rfl (hb hby at_142) rfl ?_
    show Steps p.tables e below (T19.setTop (mkF m 143 #[.val (.int p1), .val (.int p2), .val (.long p3), .second, .val (.int p4), .val (.int p5), .val (.int p6), .val (.double (lw_q0 p1 p2 p3 p4 p5 p6)), .second, .val (.double (lw_alpha p1 p2 p3 p4 p5 p6)), .second, .val (.double (lw_beta p1 p2 p3 p4 p5 p6)), .second, .val (.double (lw_rho p1 p2 p3 p4 p5 p6)), .second, .val (.double (lw_pres p1 p2 p3 p4 p5 p6)), .second, .val (.double (lw_np p1 p2 p3 p4 p5 p6)), .second, .val (.ref ad1), .val (.ref ad3), .unset, .unset, .unset] [(.int (XT.cmpL p3 p3))])) _
    refine XS.ifNo X19.here hx rfl (hb hby at_143) rfl (own_ll _) ?_
    show Steps p.tables e below (T19.setTop (mkF m 146 #[.val (.int p1), .val (.int p2), .val (.long p3), .second, .val (.int p4), .val (.int p5), .val (.int p6), .val (.double (lw_q0 p1 p2 p3 p4 p5 p6)), .second, .val (.double (lw_alpha p1 p2 p3 p4 p5 p6)), .second, .val (.double (lw_beta p1 p2 p3 p4 p5 p6)), .second, .val (.double (lw_rho p1 p2 p3 p4 p5 p6)), .second, .val (.double (lw_pres p1 p2 p3 p4 p5 p6)), .second, .val (.double (lw_np p1 p2 p3 p4 p5 p6)), .second, .val (.ref ad1), .val (.ref ad3), .unset, .unset, .unset] [])) _
    refine XS.iconst X19.here hx rfl (hb hby at_146) ?_
    show Steps p.tables e below (T19.setTop (mkF m 147 #[.val (.int p1), .val (.int p2), .val (.long p3), .second, .val (.int p4), .val (.int p5), .val (.int p6), .val (.double (lw_q0 p1 p2 p3 p4 p5 p6)), .second, .val (.double (lw_alpha p1 p2 p3 p4 p5 p6)), .second, .val (.double (lw_beta p1 p2 p3 p4 p5 p6)), .second, .val (.double (lw_rho p1 p2 p3 p4 p5 p6)), .second, .val (.double (lw_pres p1 p2 p3 p4 p5 p6)), .second, .val (.double (lw_np p1 p2 p3 p4 p5 p6)), .second, .val (.ref ad1), .val (.ref ad3), .unset, .unset, .unset] [(.int (1 : Int32))])) _
    refine XS.goto X19.here hx rfl (pc0 := 147) (pc' := 151) rfl (hb hby at_147) (by decide) (by decide) ?_
    show Steps p.tables e below (T19.setTop (mkF m 151 #[.val (.int p1), .val (.int p2), .val (.long p3), .second, .val (.int p4), .val (.int p5), .val (.int p6), .val (.double (lw_q0 p1 p2 p3 p4 p5 p6)), .second, .val (.double (lw_alpha p1 p2 p3 p4 p5 p6)), .second, .val (.double (lw_beta p1 p2 p3 p4 p5 p6)), .second, .val (.double (lw_rho p1 p2 p3 p4 p5 p6)), .second, .val (.double (lw_pres p1 p2 p3 p4 p5 p6)), .second, .val (.double (lw_np p1 p2 p3 p4 p5 p6)), .second, .val (.ref ad1), .val (.ref ad3), .unset, .unset, .unset] [(.int (1 : Int32))])) _
    refine XS.istore X19.here hx rfl (hb hby at_151) rfl (l' := #[.val (.int p1), .val (.int p2), .val (.long p3), .second, .val (.int p4), .val (.int p5), .val (.int p6), .val (.double (lw_q0 p1 p2 p3 p4 p5 p6)), .second, .val (.double (lw_alpha p1 p2 p3 p4 p5 p6)), .second, .val (.double (lw_beta p1 p2 p3 p4 p5 p6)), .second, .val (.double (lw_rho p1 p2 p3 p4 p5 p6)), .second, .val (.double (lw_pres p1 p2 p3 p4 p5 p6)), .second, .val (.double (lw_np p1 p2 p3 p4 p5 p6)), .second, .val (.ref ad1), .val (.ref ad3), .val (.int (1 : Int32)), .unset, .unset]) rfl ?_
    show Steps p.tables e below (T19.setTop (mkF m 153 #[.val (.int p1), .val (.int p2), .val (.long p3), .second, .val (.int p4), .val (.int p5), .val (.int p6), .val (.double (lw_q0 p1 p2 p3 p4 p5 p6)), .second, .val (.double (lw_alpha p1 p2 p3 p4 p5 p6)), .second, .val (.double (lw_beta p1 p2 p3 p4 p5 p6)), .second, .val (.double (lw_rho p1 p2 p3 p4 p5 p6)), .second, .val (.double (lw_pres p1 p2 p3 p4 p5 p6)), .second, .val (.double (lw_np p1 p2 p3 p4 p5 p6)), .second, .val (.ref ad1), .val (.ref ad3), .val (.int (1 : Int32)), .unset, .unset] [])) _
    refine XS.aload X19.here hx rfl (hb hby at_153) rfl rfl ?_
    show Steps p.tables e below (T19.setTop (mkF m 155 #[.val (.int p1), .val (.int p2), .val (.long p3), .second, .val (.int p4), .val (.int p5), .val (.int p6), .val (.double (lw_q0 p1 p2 p3 p4 p5 p6)), .second, .val (.double (lw_alpha p1 p2 p3 p4 p5 p6)), .second, .val (.double (lw_beta p1 p2 p3 p4 p5 p6)), .second, .val (.double (lw_rho p1 p2 p3 p4 p5 p6)), .second, .val (.double (lw_pres p1 p2 p3 p4 p5 p6)), .second, .val (.double (lw_np p1 p2 p3 p4 p5 p6)), .second, .val (.ref ad1), .val (.ref ad3), .val (.int (1 : Int32)), .unset, .unset] [(.ref ad3)])) _
    refine st20.trans ?_
    show Steps p.tables e below (T20.setTop (mkF m 158 #[.val (.int p1), .val (.int p2), .val (.long p3), .second, .val (.int p4), .val (.int p5), .val (.int p6), .val (.double (lw_q0 p1 p2 p3 p4 p5 p6)), .second, .val (.double (lw_alpha p1 p2 p3 p4 p5 p6)), .second, .val (.double (lw_beta p1 p2 p3 p4 p5 p6)), .second, .val (.double (lw_rho p1 p2 p3 p4 p5 p6)), .second, .val (.double (lw_pres p1 p2 p3 p4 p5 p6)), .second, .val (.double (lw_np p1 p2 p3 p4 p5 p6)), .second, .val (.ref ad1), .val (.ref ad3), .val (.int (1 : Int32)), .unset, .unset] [(.double (lw_np p1 p2 p3 p4 p5 p6))])) _
    refine XS.dload X20.here hx rfl (hb hby at_158) rfl ?_
    show Steps p.tables e below (T20.setTop (mkF m 160 #[.val (.int p1), .val (.int p2), .val (.long p3), .second, .val (.int p4), .val (.int p5), .val (.int p6), .val (.double (lw_q0 p1 p2 p3 p4 p5 p6)), .second, .val (.double (lw_alpha p1 p2 p3 p4 p5 p6)), .second, .val (.double (lw_beta p1 p2 p3 p4 p5 p6)), .second, .val (.double (lw_rho p1 p2 p3 p4 p5 p6)), .second, .val (.double (lw_pres p1 p2 p3 p4 p5 p6)), .second, .val (.double (lw_np p1 p2 p3 p4 p5 p6)), .second, .val (.ref ad1), .val (.ref ad3), .val (.int (1 : Int32)), .unset, .unset] [(.double (lw_np p1 p2 p3 p4 p5 p6)), (.double (lw_np p1 p2 p3 p4 p5 p6))])) _
    refine XS.dcmpS X20.here hx rfl (hb hby at_160) rfl rfl ?_
    show Steps p.tables e below (T20.setTop (mkF m 161 #[.val (.int p1), .val (.int p2), .val (.long p3), .second, .val (.int p4), .val (.int p5), .val (.int p6), .val (.double (lw_q0 p1 p2 p3 p4 p5 p6)), .second, .val (.double (lw_alpha p1 p2 p3 p4 p5 p6)), .second, .val (.double (lw_beta p1 p2 p3 p4 p5 p6)), .second, .val (.double (lw_rho p1 p2 p3 p4 p5 p6)), .second, .val (.double (lw_pres p1 p2 p3 p4 p5 p6)), .second, .val (.double (lw_np p1 p2 p3 p4 p5 p6)), .second, .val (.ref ad1), .val (.ref ad3), .val (.int (1 : Int32)), .unset, .unset] [(.int (cmpValue (FP.dcmp (lw_np p1 p2 p3 p4 p5 p6) (lw_np p1 p2 p3 p4 p5 p6)) .l))])) _
    refine XS.ifNo X20.here hx rfl (hb hby at_161) rfl (own_dd (own_i2d _).nn .l) ?_
    show Steps p.tables e below (T20.setTop (mkF m 164 #[.val (.int p1), .val (.int p2), .val (.long p3), .second, .val (.int p4), .val (.int p5), .val (.int p6), .val (.double (lw_q0 p1 p2 p3 p4 p5 p6)), .second, .val (.double (lw_alpha p1 p2 p3 p4 p5 p6)), .second, .val (.double (lw_beta p1 p2 p3 p4 p5 p6)), .second, .val (.double (lw_rho p1 p2 p3 p4 p5 p6)), .second, .val (.double (lw_pres p1 p2 p3 p4 p5 p6)), .second, .val (.double (lw_np p1 p2 p3 p4 p5 p6)), .second, .val (.ref ad1), .val (.ref ad3), .val (.int (1 : Int32)), .unset, .unset] [])) _
    refine XS.iconst X20.here hx rfl (hb hby at_164) ?_
    show Steps p.tables e below (T20.setTop (mkF m 165 #[.val (.int p1), .val (.int p2), .val (.long p3), .second, .val (.int p4), .val (.int p5), .val (.int p6), .val (.double (lw_q0 p1 p2 p3 p4 p5 p6)), .second, .val (.double (lw_alpha p1 p2 p3 p4 p5 p6)), .second, .val (.double (lw_beta p1 p2 p3 p4 p5 p6)), .second, .val (.double (lw_rho p1 p2 p3 p4 p5 p6)), .second, .val (.double (lw_pres p1 p2 p3 p4 p5 p6)), .second, .val (.double (lw_np p1 p2 p3 p4 p5 p6)), .second, .val (.ref ad1), .val (.ref ad3), .val (.int (1 : Int32)), .unset, .unset] [(.int (1 : Int32))])) _
    refine XS.goto X20.here hx rfl (pc0 := 165) (pc' := 169) rfl (hb hby at_165) (by decide) (by decide) ?_
    show Steps p.tables e below (T20.setTop (mkF m 169 #[.val (.int p1), .val (.int p2), .val (.long p3), .second, .val (.int p4), .val (.int p5), .val (.int p6), .val (.double (lw_q0 p1 p2 p3 p4 p5 p6)), .second, .val (.double (lw_alpha p1 p2 p3 p4 p5 p6)), .second, .val (.double (lw_beta p1 p2 p3 p4 p5 p6)), .second, .val (.double (lw_rho p1 p2 p3 p4 p5 p6)), .second, .val (.double (lw_pres p1 p2 p3 p4 p5 p6)), .second, .val (.double (lw_np p1 p2 p3 p4 p5 p6)), .second, .val (.ref ad1), .val (.ref ad3), .val (.int (1 : Int32)), .unset, .unset] [(.int (1 : Int32))])) _
    refine XS.istore X20.here hx rfl (hb hby at_169) rfl (l' := #[.val (.int p1), .val (.int p2), .val (.long p3), .second, .val (.int p4), .val (.int p5), .val (.int p6), .val (.double (lw_q0 p1 p2 p3 p4 p5 p6)), .second, .val (.double (lw_alpha p1 p2 p3 p4 p5 p6)), .second, .val (.double (lw_beta p1 p2 p3 p4 p5 p6)), .second, .val (.double (lw_rho p1 p2 p3 p4 p5 p6)), .second, .val (.double (lw_pres p1 p2 p3 p4 p5 p6)), .second, .val (.double (lw_np p1 p2 p3 p4 p5 p6)), .second, .val (.ref ad1), .val (.ref ad3), .val (.int (1 : Int32)), .val (.int (1 : Int32)), .unset]) rfl ?_
    show Steps p.tables e below (T20.setTop (mkF m 171 #[.val (.int p1), .val (.int p2), .val (.long p3), .second, .val (.int p4), .val (.int p5), .val (.int p6), .val (.double (lw_q0 p1 p2 p3 p4 p5 p6)), .second, .val (.double (lw_alpha p1 p2 p3 p4 p5 p6)), .second, .val (.double (lw_beta p1 p2 p3 p4 p5 p6)), .second, .val (.double (lw_rho p1 p2 p3 p4 p5 p6)), .second, .val (.double (lw_pres p1 p2 p3 p4 p5 p6)), .second, .val (.double (lw_np p1 p2 p3 p4 p5 p6)), .second, .val (.ref ad1), .val (.ref ad3), .val (.int (1 : Int32)), .val (.int (1 : Int32)), .unset] [])) _
    refine XS.aload X20.here hx rfl (hb hby at_171) rfl rfl ?_
    show Steps p.tables e below (T20.setTop (mkF m 173 #[.val (.int p1), .val (.int p2), .val (.long p3), .second, .val (.int p4), .val (.int p5), .val (.int p6), .val (.double (lw_q0 p1 p2 p3 p4 p5 p6)), .second, .val (.double (lw_alpha p1 p2 p3 p4 p5 p6)), .second, .val (.double (lw_beta p1 p2 p3 p4 p5 p6)), .second, .val (.double (lw_rho p1 p2 p3 p4 p5 p6)), .second, .val (.double (lw_pres p1 p2 p3 p4 p5 p6)), .second, .val (.double (lw_np p1 p2 p3 p4 p5 p6)), .second, .val (.ref ad1), .val (.ref ad3), .val (.int (1 : Int32)), .val (.int (1 : Int32)), .unset] [(.ref ad1)])) _
    refine st21.trans ?_
    show Steps p.tables e below (T21.setTop (mkF m 176 #[.val (.int p1), .val (.int p2), .val (.long p3), .second, .val (.int p4), .val (.int p5), .val (.int p6), .val (.double (lw_q0 p1 p2 p3 p4 p5 p6)), .second, .val (.double (lw_alpha p1 p2 p3 p4 p5 p6)), .second, .val (.double (lw_beta p1 p2 p3 p4 p5 p6)), .second, .val (.double (lw_rho p1 p2 p3 p4 p5 p6)), .second, .val (.double (lw_pres p1 p2 p3 p4 p5 p6)), .second, .val (.double (lw_np p1 p2 p3 p4 p5 p6)), .second, .val (.ref ad1), .val (.ref ad3), .val (.int (1 : Int32)), .val (.int (1 : Int32)), .unset] [(.double (lw_pres p1 p2 p3 p4 p5 p6))])) _
    refine XS.dload X21.here hx rfl (hb hby at_176) rfl ?_
    show Steps p.tables e below (T21.setTop (mkF m 178 #[.val (.int p1), .val (.int p2), .val (.long p3), .second, .val (.int p4), .val (.int p5), .val (.int p6), .val (.double (lw_q0 p1 p2 p3 p4 p5 p6)), .second, .val (.double (lw_alpha p1 p2 p3 p4 p5 p6)), .second, .val (.double (lw_beta p1 p2 p3 p4 p5 p6)), .second, .val (.double (lw_rho p1 p2 p3 p4 p5 p6)), .second, .val (.double (lw_pres p1 p2 p3 p4 p5 p6)), .second, .val (.double (lw_np p1 p2 p3 p4 p5 p6)), .second, .val (.ref ad1), .val (.ref ad3), .val (.int (1 : Int32)), .val (.int (1 : Int32)), .unset] [(.double (lw_pres p1 p2 p3 p4 p5 p6)), (.double (lw_pres p1 p2 p3 p4 p5 p6))])) _
    refine XS.dcmpS X21.here hx rfl (hb hby at_178) rfl rfl ?_
    show Steps p.tables e below (T21.setTop (mkF m 179 #[.val (.int p1), .val (.int p2), .val (.long p3), .second, .val (.int p4), .val (.int p5), .val (.int p6), .val (.double (lw_q0 p1 p2 p3 p4 p5 p6)), .second, .val (.double (lw_alpha p1 p2 p3 p4 p5 p6)), .second, .val (.double (lw_beta p1 p2 p3 p4 p5 p6)), .second, .val (.double (lw_rho p1 p2 p3 p4 p5 p6)), .second, .val (.double (lw_pres p1 p2 p3 p4 p5 p6)), .second, .val (.double (lw_np p1 p2 p3 p4 p5 p6)), .second, .val (.ref ad1), .val (.ref ad3), .val (.int (1 : Int32)), .val (.int (1 : Int32)), .unset] [(.int (cmpValue (FP.dcmp (lw_pres p1 p2 p3 p4 p5 p6) (lw_pres p1 p2 p3 p4 p5 p6)) .l))])) _
    refine XS.ifNo X21.here hx rfl (hb hby at_179) rfl (own_dd (own_i2d _).nn .l) ?_
    show Steps p.tables e below (T21.setTop (mkF m 182 #[.val (.int p1), .val (.int p2), .val (.long p3), .second, .val (.int p4), .val (.int p5), .val (.int p6), .val (.double (lw_q0 p1 p2 p3 p4 p5 p6)), .second, .val (.double (lw_alpha p1 p2 p3 p4 p5 p6)), .second, .val (.double (lw_beta p1 p2 p3 p4 p5 p6)), .second, .val (.double (lw_rho p1 p2 p3 p4 p5 p6)), .second, .val (.double (lw_pres p1 p2 p3 p4 p5 p6)), .second, .val (.double (lw_np p1 p2 p3 p4 p5 p6)), .second, .val (.ref ad1), .val (.ref ad3), .val (.int (1 : Int32)), .val (.int (1 : Int32)), .unset] [])) _
    refine XS.aload X21.here hx rfl (hb hby at_182) rfl rfl ?_
    show Steps p.tables e below (T21.setTop (mkF m 184 #[.val (.int p1), .val (.int p2), .val (.long p3), .second, .val (.int p4), .val (.int p5), .val (.int p6), .val (.double (lw_q0 p1 p2 p3 p4 p5 p6)), .second, .val (.double (lw_alpha p1 p2 p3 p4 p5 p6)), .second, .val (.double (lw_beta p1 p2 p3 p4 p5 p6)), .second, .val (.double (lw_rho p1 p2 p3 p4 p5 p6)), .second, .val (.double (lw_pres p1 p2 p3 p4 p5 p6)), .second, .val (.double (lw_np p1 p2 p3 p4 p5 p6)), .second, .val (.ref ad1), .val (.ref ad3), .val (.int (1 : Int32)), .val (.int (1 : Int32)), .unset] [(.ref ad1)])) _
    refine st22.trans ?_
    show Steps p.tables e below (T22.setTop (mkF m 187 #[.val (.int p1), .val (.int p2), .val (.long p3), .second, .val (.int p4), .val (.int p5), .val (.int p6), .val (.double (lw_q0 p1 p2 p3 p4 p5 p6)), .second, .val (.double (lw_alpha p1 p2 p3 p4 p5 p6)), .second, .val (.double (lw_beta p1 p2 p3 p4 p5 p6)), .second, .val (.double (lw_rho p1 p2 p3 p4 p5 p6)), .second, .val (.double (lw_pres p1 p2 p3 p4 p5 p6)), .second, .val (.double (lw_np p1 p2 p3 p4 p5 p6)), .second, .val (.ref ad1), .val (.ref ad3), .val (.int (1 : Int32)), .val (.int (1 : Int32)), .unset] [(.int p1)])) _
    refine XS.iloadN X22.here hx rfl (hb hby at_187) rfl ?_
    show Steps p.tables e below (T22.setTop (mkF m 188 #[.val (.int p1), .val (.int p2), .val (.long p3), .second, .val (.int p4), .val (.int p5), .val (.int p6), .val (.double (lw_q0 p1 p2 p3 p4 p5 p6)), .second, .val (.double (lw_alpha p1 p2 p3 p4 p5 p6)), .second, .val (.double (lw_beta p1 p2 p3 p4 p5 p6)), .second, .val (.double (lw_rho p1 p2 p3 p4 p5 p6)), .second, .val (.double (lw_pres p1 p2 p3 p4 p5 p6)), .second, .val (.double (lw_np p1 p2 p3 p4 p5 p6)), .second, .val (.ref ad1), .val (.ref ad3), .val (.int (1 : Int32)), .val (.int (1 : Int32)), .unset] [(.int p1), (.int p1)])) _
    refine XS.icmpNo X22.here hx rfl (hb hby at_188) rfl (own_ie _) ?_
    show Steps p.tables e below (T22.setTop (mkF m 191 #[.val (.int p1), .val (.int p2), .val (.long p3), .second, .val (.int p4), .val (.int p5), .val (.int p6), .val (.double (lw_q0 p1 p2 p3 p4 p5 p6)), .second, .val (.double (lw_alpha p1 p2 p3 p4 p5 p6)), .second, .val (.double (lw_beta p1 p2 p3 p4 p5 p6)), .second, .val (.double (lw_rho p1 p2 p3 p4 p5 p6)), .second, .val (.double (lw_pres p1 p2 p3 p4 p5 p6)), .second, .val (.double (lw_np p1 p2 p3 p4 p5 p6)), .second, .val (.ref ad1), .val (.ref ad3), .val (.int (1 : Int32)), .val (.int (1 : Int32)), .unset] [])) _
    refine XS.aload X22.here hx rfl (hb hby at_191) rfl rfl ?_
    show Steps p.tables e below (T22.setTop (mkF m 193 #[.val (.int p1), .val (.int p2), .val (.long p3), .second, .val (.int p4), .val (.int p5), .val (.int p6), .val (.double (lw_q0 p1 p2 p3 p4 p5 p6)), .second, .val (.double (lw_alpha p1 p2 p3 p4 p5 p6)), .second, .val (.double (lw_beta p1 p2 p3 p4 p5 p6)), .second, .val (.double (lw_rho p1 p2 p3 p4 p5 p6)), .second, .val (.double (lw_pres p1 p2 p3 p4 p5 p6)), .second, .val (.double (lw_np p1 p2 p3 p4 p5 p6)), .second, .val (.ref ad1), .val (.ref ad3), .val (.int (1 : Int32)), .val (.int (1 : Int32)), .unset] [(.ref ad1)])) _
    refine st23.trans ?_
    show Steps p.tables e below (T23.setTop (mkF m 196 #[.val (.int p1), .val (.int p2), .val (.long p3), .second, .val (.int p4), .val (.int p5), .val (.int p6), .val (.double (lw_q0 p1 p2 p3 p4 p5 p6)), .second, .val (.double (lw_alpha p1 p2 p3 p4 p5 p6)), .second, .val (.double (lw_beta p1 p2 p3 p4 p5 p6)), .second, .val (.double (lw_rho p1 p2 p3 p4 p5 p6)), .second, .val (.double (lw_pres p1 p2 p3 p4 p5 p6)), .second, .val (.double (lw_np p1 p2 p3 p4 p5 p6)), .second, .val (.ref ad1), .val (.ref ad3), .val (.int (1 : Int32)), .val (.int (1 : Int32)), .unset] [(.long p3)])) _
    refine XT.lloadN X23.here hx rfl (hb hby at_196) rfl ?_
    show Steps p.tables e below (T23.setTop (mkF m 197 #[.val (.int p1), .val (.int p2), .val (.long p3), .second, .val (.int p4), .val (.int p5), .val (.int p6), .val (.double (lw_q0 p1 p2 p3 p4 p5 p6)), .second, .val (.double (lw_alpha p1 p2 p3 p4 p5 p6)), .second, .val (.double (lw_beta p1 p2 p3 p4 p5 p6)), .second, .val (.double (lw_rho p1 p2 p3 p4 p5 p6)), .second, .val (.double (lw_pres p1 p2 p3 p4 p5 p6)), .second, .val (.double (lw_np p1 p2 p3 p4 p5 p6)), .second, .val (.ref ad1), .val (.ref ad3), .val (.int (1 : Int32)), .val (.int (1 : Int32)), .unset] [(.long p3), (.long p3)])) _
    refine XT.lcmp X23.here hx rfl (hb hby at_197) rfl ?_
    show Steps p.tables e below (T23.setTop (mkF m 198 #[.val (.int p1), .val (.int p2), .val (.long p3), .second, .val (.int p4), .val (.int p5), .val (.int p6), .val (.double (lw_q0 p1 p2 p3 p4 p5 p6)), .second, .val (.double (lw_alpha p1 p2 p3 p4 p5 p6)), .second, .val (.double (lw_beta p1 p2 p3 p4 p5 p6)), .second, .val (.double (lw_rho p1 p2 p3 p4 p5 p6)), .second, .val (.double (lw_pres p1 p2 p3 p4 p5 p6)), .second, .val (.double (lw_np p1 p2 p3 p4 p5 p6)), .second, .val (.ref ad1), .val (.ref ad3), .val (.int (1 : Int32)), .val (.int (1 : Int32)), .unset] [(.int (XT.cmpL p3 p3))])) _
    refine XS.ifNo X23.here hx rfl (hb hby at_198) rfl (own_ll _) ?_
    show Steps p.tables e below (T23.setTop (mkF m 201 #[.val (.int p1), .val (.int p2), .val (.long p3), .second, .val (.int p4), .val (.int p5), .val (.int p6), .val (.double (lw_q0 p1 p2 p3 p4 p5 p6)), .second, .val (.double (lw_alpha p1 p2 p3 p4 p5 p6)), .second, .val (.double (lw_beta p1 p2 p3 p4 p5 p6)), .second, .val (.double (lw_rho p1 p2 p3 p4 p5 p6)), .second, .val (.double (lw_pres p1 p2 p3 p4 p5 p6)), .second, .val (.double (lw_np p1 p2 p3 p4 p5 p6)), .second, .val (.ref ad1), .val (.ref ad3), .val (.int (1 : Int32)), .val (.int (1 : Int32)), .unset] [])) _
    refine XS.iconst X23.here hx rfl (hb hby at_201) ?_
    show Steps p.tables e below (T23.setTop (mkF m 202 #[.val (.int p1), .val (.int p2), .val (.long p3), .second, .val (.int p4), .val (.int p5), .val (.int p6), .val (.double (lw_q0 p1 p2 p3 p4 p5 p6)), .second, .val (.double (lw_alpha p1 p2 p3 p4 p5 p6)), .second, .val (.double (lw_beta p1 p2 p3 p4 p5 p6)), .second, .val (.double (lw_rho p1 p2 p3 p4 p5 p6)), .second, .val (.double (lw_pres p1 p2 p3 p4 p5 p6)), .second, .val (.double (lw_np p1 p2 p3 p4 p5 p6)), .second, .val (.ref ad1), .val (.ref ad3), .val (.int (1 : Int32)), .val (.int (1 : Int32)), .unset] [(.int (1 : Int32))])) _
    refine XS.goto X23.here hx rfl (pc0 := 202) (pc' := 206) rfl (hb hby at_202) (by decide) (by decide) ?_
    show Steps p.tables e below (T23.setTop (mkF m 206 #[.val (.int p1), .val (.int p2), .val (.long p3), .second, .val (.int p4), .val (.int p5), .val (.int p6), .val (.double (lw_q0 p1 p2 p3 p4 p5 p6)), .second, .val (.double (lw_alpha p1 p2 p3 p4 p5 p6)), .second, .val (.double (lw_beta p1 p2 p3 p4 p5 p6)), .second, .val (.double (lw_rho p1 p2 p3 p4 p5 p6)), .second, .val (.double (lw_pres p1 p2 p3 p4 p5 p6)), .second, .val (.double (lw_np p1 p2 p3 p4 p5 p6)), .second, .val (.ref ad1), .val (.ref ad3), .val (.int (1 : Int32)), .val (.int (1 : Int32)), .unset] [(.int (1 : Int32))])) _
    refine XS.istore X23.here hx rfl (hb hby at_206) rfl (l' := #[.val (.int p1), .val (.int p2), .val (.long p3), .second, .val (.int p4), .val (.int p5), .val (.int p6), .val (.double (lw_q0 p1 p2 p3 p4 p5 p6)), .second, .val (.double (lw_alpha p1 p2 p3 p4 p5 p6)), .second, .val (.double (lw_beta p1 p2 p3 p4 p5 p6)), .second, .val (.double (lw_rho p1 p2 p3 p4 p5 p6)), .second, .val (.double (lw_pres p1 p2 p3 p4 p5 p6)), .second, .val (.double (lw_np p1 p2 p3 p4 p5 p6)), .second, .val (.ref ad1), .val (.ref ad3), .val (.int (1 : Int32)), .val (.int (1 : Int32)), .val (.int (1 : Int32))]) rfl ?_
    show Steps p.tables e below (T23.setTop (mkF m 208 #[.val (.int p1), .val (.int p2), .val (.long p3), .second, .val (.int p4), .val (.int p5), .val (.int p6), .val (.double (lw_q0 p1 p2 p3 p4 p5 p6)), .second, .val (.double (lw_alpha p1 p2 p3 p4 p5 p6)), .second, .val (.double (lw_beta p1 p2 p3 p4 p5 p6)), .second, .val (.double (lw_rho p1 p2 p3 p4 p5 p6)), .second, .val (.double (lw_pres p1 p2 p3 p4 p5 p6)), .second, .val (.double (lw_np p1 p2 p3 p4 p5 p6)), .second, .val (.ref ad1), .val (.ref ad3), .val (.int (1 : Int32)), .val (.int (1 : Int32)), .val (.int (1 : Int32))] [])) _
    refine XS.iload X23.here hx rfl (hb hby at_208) rfl ?_
    show Steps p.tables e below (T23.setTop (mkF m 210 #[.val (.int p1), .val (.int p2), .val (.long p3), .second, .val (.int p4), .val (.int p5), .val (.int p6), .val (.double (lw_q0 p1 p2 p3 p4 p5 p6)), .second, .val (.double (lw_alpha p1 p2 p3 p4 p5 p6)), .second, .val (.double (lw_beta p1 p2 p3 p4 p5 p6)), .second, .val (.double (lw_rho p1 p2 p3 p4 p5 p6)), .second, .val (.double (lw_pres p1 p2 p3 p4 p5 p6)), .second, .val (.double (lw_np p1 p2 p3 p4 p5 p6)), .second, .val (.ref ad1), .val (.ref ad3), .val (.int (1 : Int32)), .val (.int (1 : Int32)), .val (.int (1 : Int32))] [(.int (1 : Int32))])) _
    refine XS.ifNo X23.here hx rfl (hb hby at_210) rfl (by decide) ?_
    show Steps p.tables e below (T23.setTop (mkF m 213 #[.val (.int p1), .val (.int p2), .val (.long p3), .second, .val (.int p4), .val (.int p5), .val (.int p6), .val (.double (lw_q0 p1 p2 p3 p4 p5 p6)), .second, .val (.double (lw_alpha p1 p2 p3 p4 p5 p6)), .second, .val (.double (lw_beta p1 p2 p3 p4 p5 p6)), .second, .val (.double (lw_rho p1 p2 p3 p4 p5 p6)), .second, .val (.double (lw_pres p1 p2 p3 p4 p5 p6)), .second, .val (.double (lw_np p1 p2 p3 p4 p5 p6)), .second, .val (.ref ad1), .val (.ref ad3), .val (.int (1 : Int32)), .val (.int (1 : Int32)), .val (.int (1 : Int32))] [])) _
    refine XS.iload X23.here hx rfl (hb hby at_213) rfl ?_
    show Steps p.tables e below (T23.setTop (mkF m 215 #[.val (.int p1), .val (.int p2), .val (.long p3), .second, .val (.int p4), .val (.int p5), .val (.int p6), .val (.double (lw_q0 p1 p2 p3 p4 p5 p6)), .second, .val (.double (lw_alpha p1 p2 p3 p4 p5 p6)), .second, .val (.double (lw_beta p1 p2 p3 p4 p5 p6)), .second, .val (.double (lw_rho p1 p2 p3 p4 p5 p6)), .second, .val (.double (lw_pres p1 p2 p3 p4 p5 p6)), .second, .val (.double (lw_np p1 p2 p3 p4 p5 p6)), .second, .val (.ref ad1), .val (.ref ad3), .val (.int (1 : Int32)), .val (.int (1 : Int32)), .val (.int (1 : Int32))] [(.int (1 : Int32))])) _
    refine XS.ifNo X23.here hx rfl (hb hby at_215) rfl (by decide) ?_
    show Steps p.tables e below (T23.setTop (mkF m 218 #[.val (.int p1), .val (.int p2), .val (.long p3), .second, .val (.int p4), .val (.int p5), .val (.int p6), .val (.double (lw_q0 p1 p2 p3 p4 p5 p6)), .second, .val (.double (lw_alpha p1 p2 p3 p4 p5 p6)), .second, .val (.double (lw_beta p1 p2 p3 p4 p5 p6)), .second, .val (.double (lw_rho p1 p2 p3 p4 p5 p6)), .second, .val (.double (lw_pres p1 p2 p3 p4 p5 p6)), .second, .val (.double (lw_np p1 p2 p3 p4 p5 p6)), .second, .val (.ref ad1), .val (.ref ad3), .val (.int (1 : Int32)), .val (.int (1 : Int32)), .val (.int (1 : Int32))] [])) _
    refine XS.iload X23.here hx rfl (hb hby at_218) rfl ?_
    show Steps p.tables e below (T23.setTop (mkF m 220 #[.val (.int p1), .val (.int p2), .val (.long p3), .second, .val (.int p4), .val (.int p5), .val (.int p6), .val (.double (lw_q0 p1 p2 p3 p4 p5 p6)), .second, .val (.double (lw_alpha p1 p2 p3 p4 p5 p6)), .second, .val (.double (lw_beta p1 p2 p3 p4 p5 p6)), .second, .val (.double (lw_rho p1 p2 p3 p4 p5 p6)), .second, .val (.double (lw_pres p1 p2 p3 p4 p5 p6)), .second, .val (.double (lw_np p1 p2 p3 p4 p5 p6)), .second, .val (.ref ad1), .val (.ref ad3), .val (.int (1 : Int32)), .val (.int (1 : Int32)), .val (.int (1 : Int32))] [(.int (1 : Int32))])) _
    refine XS.ifNo X23.here hx rfl (hb hby at_220) rfl (by decide) ?_
    show Steps p.tables e below (T23.setTop (mkF m 223 #[.val (.int p1), .val (.int p2), .val (.long p3), .second, .val (.int p4), .val (.int p5), .val (.int p6), .val (.double (lw_q0 p1 p2 p3 p4 p5 p6)), .second, .val (.double (lw_alpha p1 p2 p3 p4 p5 p6)), .second, .val (.double (lw_beta p1 p2 p3 p4 p5 p6)), .second, .val (.double (lw_rho p1 p2 p3 p4 p5 p6)), .second, .val (.double (lw_pres p1 p2 p3 p4 p5 p6)), .second, .val (.double (lw_np p1 p2 p3 p4 p5 p6)), .second, .val (.ref ad1), .val (.ref ad3), .val (.int (1 : Int32)), .val (.int (1 : Int32)), .val (.int (1 : Int32))] [])) _
    refine XS.iconst X23.here hx rfl (hb hby at_223) ?_
    show Steps p.tables e below (T23.setTop (mkF m 224 #[.val (.int p1), .val (.int p2), .val (.long p3), .second, .val (.int p4), .val (.int p5), .val (.int p6), .val (.double (lw_q0 p1 p2 p3 p4 p5 p6)), .second, .val (.double (lw_alpha p1 p2 p3 p4 p5 p6)), .second, .val (.double (lw_beta p1 p2 p3 p4 p5 p6)), .second, .val (.double (lw_rho p1 p2 p3 p4 p5 p6)), .second, .val (.double (lw_pres p1 p2 p3 p4 p5 p6)), .second, .val (.double (lw_np p1 p2 p3 p4 p5 p6)), .second, .val (.ref ad1), .val (.ref ad3), .val (.int (1 : Int32)), .val (.int (1 : Int32)), .val (.int (1 : Int32))] [(.int (1 : Int32))])) _
    refine XS.goto X23.here hx rfl (pc0 := 224) (pc' := 228) rfl (hb hby at_224) (by decide) (by decide) ?_
    show Steps p.tables e below (T23.setTop (mkF m 228 #[.val (.int p1), .val (.int p2), .val (.long p3), .second, .val (.int p4), .val (.int p5), .val (.int p6), .val (.double (lw_q0 p1 p2 p3 p4 p5 p6)), .second, .val (.double (lw_alpha p1 p2 p3 p4 p5 p6)), .second, .val (.double (lw_beta p1 p2 p3 p4 p5 p6)), .second, .val (.double (lw_rho p1 p2 p3 p4 p5 p6)), .second, .val (.double (lw_pres p1 p2 p3 p4 p5 p6)), .second, .val (.double (lw_np p1 p2 p3 p4 p5 p6)), .second, .val (.ref ad1), .val (.ref ad3), .val (.int (1 : Int32)), .val (.int (1 : Int32)), .val (.int (1 : Int32))] [(.int (1 : Int32))])) _
    exact retN X23 hx (t := .boolean) Bd.returns (by simp) (hb hby at_228) hr
  · show Q_lw Z p1 p2 p3 p4 p5 p6  h0 n0 _ T23.heap _
    exact ⟨rfl, Nn23⟩
set_option maxRecDepth 65536 in
set_option maxHeartbeats 40000000 in
theorem comes_1 {Post : Tables → Env → Array Value → State → Outcome → State → Prop} (hpost : ∀ tb e args s v u, (limb_1_1.after args s (.returned v) u = true ∧ limb_1_2.after args s (.returned v) u = true ∧ True) → FrameEnd s (.returned v) u (Jvm.fieldLocs frame_1_writes args s ++ Jvm.arrayLocs frame_1_arrays args s ++ Jvm.staticLocs frame_1_statics s) 16 128 → Post tb e args s (.returned v) u) :
    ArmFor flags0 classFile x code maxLocals ret World_1 tables_1 room_1 Calls_1 rest_1 Pre_1 Post := by
  intro l hfl _ _ p e ha hc hk s m args below hf hA hF happ hP
  obtain ⟨hcalls, hrest, hpre⟩ := hP
  obtain ⟨-, -, -, hnamed, -, -, -, hat⟩ := (Spec.applies_iff hf).mp happ
  obtain ⟨hg, hn⟩ := and_e (Cond.before_iff.mp (show (Jvm.Cond.and given_1 narrow_1).before args s = true from hpre))
  obtain ⟨h1, g0⟩ := and_e hg
  obtain ⟨i0, g1⟩ := and_e g0
  obtain ⟨i1, g2⟩ := and_e g1
  obtain ⟨i2, g3⟩ := and_e g2
  obtain ⟨i3, g4⟩ := and_e g3
  obtain ⟨i4, g5⟩ := and_e g4
  obtain ⟨w0, w1, w2, w3, w4, w5, rfl⟩ : ∃ w0 w1 w2 w3 w4 w5 : Value, args = #[w0, w1, w2, w3, w4, w5] := by
    have hs : args.size = 6 := by simpa [Cond.value, given_1] using h1
    obtain ⟨L⟩ := args
    match L, hs with
    | [w0, w1, w2, w3, w4, w5], _ => exact ⟨w0, w1, w2, w3, w4, w5, rfl⟩
  have hw := fun d (hd : d ∈ tables_1) => atoms_spec (ws := Jvm.Cond.code x code maxLocals ret :: tables_1) hat d (List.mem_cons_of_mem _ hd)
  obtain ⟨v0, e0⟩ := is_v i0
  obtain rfl : w0 = (.int v0) := Option.some.inj e0
  obtain ⟨v1, e1⟩ := is_v i1
  obtain rfl : w1 = (.int v1) := Option.some.inj e1
  obtain ⟨v2, e2⟩ := isL_v i2
  obtain rfl : w2 = (.long v2) := Option.some.inj e2
  obtain ⟨v3, e3⟩ := is_v i3
  obtain rfl : w3 = (.int v3) := Option.some.inj e3
  obtain ⟨v4, e4⟩ := is_v i4
  obtain rfl : w4 = (.int v4) := Option.some.inj e4
  obtain ⟨v5, e5⟩ := is_v g5
  obtain rfl : w5 = (.int v5) := Option.some.inj e5
  obtain ⟨n, o, h1, h2, h3, _, L, rfl, ⟨rfl, N⟩, hq⟩ := rm_lw l s _ hw tables_1 v0 v1 v2 v3 v4 v5  s.heap s.heap.size (Nat.le_refl _)  p e ha hc hk s m _ below hf ((Spec.applies_iff_loose hf).mp happ).1 ⟨rfl, State.Warmed39.refl s, rfl⟩ trivial
  refine ⟨n, _, h1, h2, h3, hpost _ _ _ _ _ _ ⟨Cond.after_iff.mpr rfl, Cond.after_iff.mpr (eq_i res_at (Term.int_eval (1)) rfl), trivial⟩ ⟨hq.1, hq.2.1, (hq.2.2.sift fun y hy => Or.inr (N y hy)).mono (by decide) (by decide)⟩⟩
theorem main_1_1 : Claimed_1_1 := comes_1 fun _ _ _ _ _ _ h hF => ⟨h.1, hF⟩
theorem main_1_2 : Claimed_1_2 := comes_1 fun _ _ _ _ _ _ h hF => ⟨h.2.1, hF⟩
end Jvm.Pilot.@@N@@
namespace Jvm.Pilot.@@N@@
open Jvm Jvm.ClassFile Sem Op Lib Jvm.Free Jvm.Stand Jvm.Pilot.@@N@@.Jvm.D
/-! MADE BY PROGRAM (witnessworld.py) out of the Statement's table words and the real class files: 10 classes; the members and pool entries that the words name. The judged class is class 1, her method 1. -/
namespace start1
open Jvm.ClassFile
def u (s : String) : CpInfo := .utf8 (stringToUtf16 s)
/-- a pool by its gaps: so many unusable entries, then the entry; so many at the end -/
def gap : Nat → List CpInfo → List CpInfo
  | 0, r => r
  | n + 1, r => .unusable :: gap n r
def poolList (es : List (Nat × CpInfo)) (last : Nat) : List CpInfo := es.foldr (fun e r => gap e.1 (e.2 :: r)) (gap last [])
def pool (es : List (Nat × CpInfo)) (last : Nat) : Array CpInfo := ⟨poolList es last⟩
def fileOf (pool : Array CpInfo) (this : Nat) (attrs : Array Attribute := #[]) (ms : Array MethodInfo := #[]) (fl : Nat := 33) (sup : Nat := 0) (ifs : Array Nat := #[]) (fds : Array FieldInfo := #[]) : ClassFile where
  minorVersion := 0
  majorVersion := 65
  constantPool := pool
  accessFlags := fl
  thisClass := this
  superClass := sup
  interfaces := ifs
  fields := fds
  methods := ms
  attributes := attrs
def plain (name : String) (sup : Option ClassId) : Class where
  name := name
  kind := .ordinary
  loader := none
  accessFlags := 33
  super := sup
  interfaces := #[]
  cf := none
  fields := #[]
  methods := #[]
  instanceTypes := #[]
  staticTypes := #[]
  resolved := #[]
  callSites := []
  init := .initialized
  statics := none
  mirror := none

def pool0 : Array CpInfo := pool [(5, u "<init>"), (0, u "()V"), (1, .class_ 10), (1, u "java/lang/Object")] 113

def k0c0 : Code := { maxStack := 0, maxLocals := 1, code := object_method_1_code, exceptionTable := #[], attributes := #[] }
def k0m0 : Method := { name := "<init>", desc := "()V", sig := { parameters := [], returnType := none }, accessFlags := 1, code := some k0c0 }
/-- java/lang/Object -/
def k0 : Class := { plain "java/lang/Object" none with
  accessFlags := 33
  interfaces := #[]
  cf := some (fileOf pool0 8 #[] #[{ accessFlags := 1, nameIndex := 5, descriptorIndex := 6, attributes := #[] }] 33 0 #[] #[])
  fields := #[]
  methods := #[k0m0]
  instanceTypes := #[]
  staticTypes := #[]
  resolved := Array.replicate 124 none
  statics := none }

def pool1 : Array CpInfo := pool [(2, .class_ 4), (1, u "java/lang/Object"), (0, u "<init>"), (0, u "()V"), (0, .class_ 8), (0, u "com/example/trailhive/trailhive/Colony$Settings"), (0, .methodref 7 10), (0, .nameAndType 5 11), (0, u "(IDDDDIDJ)V"), (0, .methodref 7 13), (0, .nameAndType 14 15), (0, u "withPreserve"), (0, u "(D)Lcom/example/trailhive/trailhive/Colony$Settings;"), (0, .methodref 7 17), (0, .nameAndType 18 19), (0, u "ants"), (0, u "()I"), (0, .methodref 7 21), (0, .nameAndType 22 23), (0, u "q0"), (0, u "()D"), (0, .methodref 7 25), (0, .nameAndType 26 23), (0, u "alpha"), (0, .methodref 7 28), (0, .nameAndType 29 23), (0, u "beta"), (0, .methodref 7 31), (0, .nameAndType 32 23), (0, u "rho"), (0, .methodref 7 34), (0, .nameAndType 35 19), (0, u "candidates"), (0, .methodref 7 37), (0, .nameAndType 38 39), (0, u "seed"), (0, u "()J"), (0, .methodref 7 41), (0, .nameAndType 42 23), (0, u "preserve"), (0, .class_ 44), (0, u "com/example/trailhive/trailhive/SettingsWithPreservePinLaw"), (2, u "law"), (0, u "(IIJIII)Z")] 7

def k1m0 : Method := { name := "<init>", desc := "()V", sig := { parameters := [], returnType := none }, accessFlags := 1, code := none }
def k1c1 : Code := { maxStack := 16, maxLocals := 24, code := code, exceptionTable := #[], attributes := #[] }
def k1m1 : Method := { name := "law", desc := "(IIJIII)Z", sig := { parameters := [.int, .int, .long, .int, .int, .int], returnType := some .boolean }, accessFlags := 9, code := some k1c1 }
/-- com/example/trailhive/trailhive/SettingsWithPreservePinLaw -/
def k1 : Class := { plain "com/example/trailhive/trailhive/SettingsWithPreservePinLaw" (some 0) with
  accessFlags := 49
  interfaces := #[]
  cf := some (fileOf pool1 43 #[] #[{ accessFlags := 1, nameIndex := 5, descriptorIndex := 6, attributes := #[] }, { accessFlags := 9, nameIndex := 47, descriptorIndex := 48, attributes := #[] }] 49 2 #[] #[])
  fields := #[]
  methods := #[k1m0, k1m1]
  instanceTypes := #[]
  staticTypes := #[]
  resolved := Array.replicate 56 none
  statics := none }

def pool2 : Array CpInfo := pool [(1, .methodref 2 3), (0, .class_ 4), (0, .nameAndType 5 6), (0, u "java/lang/Object"), (0, u "<init>"), (0, u "()V"), (0, .class_ 8), (0, u "java/lang/Record")] 13

def k2c0 : Code := { maxStack := 1, maxLocals := 1, code := jdk_30_method_1_code, exceptionTable := #[], attributes := #[] }
def k2m0 : Method := { name := "<init>", desc := "()V", sig := { parameters := [], returnType := none }, accessFlags := 4, code := some k2c0 }
/-- java/lang/Record -/
def k2 : Class := { plain "java/lang/Record" (some 0) with
  accessFlags := 1057
  interfaces := #[]
  cf := some (fileOf pool2 7 #[] #[{ accessFlags := 4, nameIndex := 5, descriptorIndex := 6, attributes := #[] }] 1057 2 #[] #[])
  fields := #[]
  methods := #[k2m0]
  instanceTypes := #[]
  staticTypes := #[]
  resolved := Array.replicate 22 none
  statics := none }

def pool3 : Array CpInfo := pool [(1, .methodref 2 3), (0, .class_ 4), (0, .nameAndType 5 6), (0, u "java/lang/Record"), (0, u "<init>"), (0, u "()V"), (0, .fieldref 8 9), (0, .class_ 10), (0, .nameAndType 11 12), (0, u "com/example/trailhive/trailhive/Colony$Settings"), (0, u "ants"), (0, u "I"), (0, .fieldref 8 14), (0, .nameAndType 15 16), (0, u "q0"), (0, u "D"), (0, .fieldref 8 18), (0, .nameAndType 19 16), (0, u "alpha"), (0, .fieldref 8 21), (0, .nameAndType 22 16), (0, u "beta"), (0, .fieldref 8 24), (0, .nameAndType 25 16), (0, u "rho"), (0, .fieldref 8 27), (0, .nameAndType 28 12), (0, u "candidates"), (0, .fieldref 8 30), (0, .nameAndType 31 16), (0, u "preserve"), (0, .fieldref 8 33), (0, .nameAndType 34 35), (0, u "seed"), (0, u "J"), (0, .methodref 8 37), (0, .nameAndType 5 38), (0, u "(IDDDDIDJ)V"), (18, u "DEFAULT"), (0, u "Lcom/example/trailhive/trailhive/Colony$Settings;"), (3, u "withPreserve"), (0, u "(D)Lcom/example/trailhive/trailhive/Colony$Settings;"), (1, u "()I"), (1, u "()D"), (0, u "()J"), (4, .class_ 74), (0, u "com/example/trailhive/trailhive/Colony")] 26

def k3c0 : Code := { maxStack := 3, maxLocals := 15, code := prog_8_method_1_code, exceptionTable := #[], attributes := #[] }
def k3m0 : Method := { name := "<init>", desc := "(IDDDDIDJ)V", sig := { parameters := [.int, .double, .double, .double, .double, .int, .double, .long], returnType := none }, accessFlags := 0, code := some k3c0 }
def k3c1 : Code := { maxStack := 16, maxLocals := 3, code := prog_8_method_2_code, exceptionTable := #[], attributes := #[] }
def k3m1 : Method := { name := "withPreserve", desc := "(D)Lcom/example/trailhive/trailhive/Colony$Settings;", sig := { parameters := [.double], returnType := some (.object "com/example/trailhive/trailhive/Colony$Settings") }, accessFlags := 0, code := some k3c1 }
def k3c2 : Code := { maxStack := 1, maxLocals := 1, code := prog_8_method_6_code, exceptionTable := #[], attributes := #[] }
def k3m2 : Method := { name := "ants", desc := "()I", sig := { parameters := [], returnType := some .int }, accessFlags := 1, code := some k3c2 }
def k3c3 : Code := { maxStack := 2, maxLocals := 1, code := prog_8_method_7_code, exceptionTable := #[], attributes := #[] }
def k3m3 : Method := { name := "q0", desc := "()D", sig := { parameters := [], returnType := some .double }, accessFlags := 1, code := some k3c3 }
def k3c4 : Code := { maxStack := 2, maxLocals := 1, code := prog_8_method_8_code, exceptionTable := #[], attributes := #[] }
def k3m4 : Method := { name := "alpha", desc := "()D", sig := { parameters := [], returnType := some .double }, accessFlags := 1, code := some k3c4 }
def k3c5 : Code := { maxStack := 2, maxLocals := 1, code := prog_8_method_9_code, exceptionTable := #[], attributes := #[] }
def k3m5 : Method := { name := "beta", desc := "()D", sig := { parameters := [], returnType := some .double }, accessFlags := 1, code := some k3c5 }
def k3c6 : Code := { maxStack := 2, maxLocals := 1, code := prog_8_method_10_code, exceptionTable := #[], attributes := #[] }
def k3m6 : Method := { name := "rho", desc := "()D", sig := { parameters := [], returnType := some .double }, accessFlags := 1, code := some k3c6 }
def k3c7 : Code := { maxStack := 1, maxLocals := 1, code := prog_8_method_11_code, exceptionTable := #[], attributes := #[] }
def k3m7 : Method := { name := "candidates", desc := "()I", sig := { parameters := [], returnType := some .int }, accessFlags := 1, code := some k3c7 }
def k3c8 : Code := { maxStack := 2, maxLocals := 1, code := prog_8_method_12_code, exceptionTable := #[], attributes := #[] }
def k3m8 : Method := { name := "preserve", desc := "()D", sig := { parameters := [], returnType := some .double }, accessFlags := 1, code := some k3c8 }
def k3c9 : Code := { maxStack := 2, maxLocals := 1, code := prog_8_method_13_code, exceptionTable := #[], attributes := #[] }
def k3m9 : Method := { name := "seed", desc := "()J", sig := { parameters := [], returnType := some .long }, accessFlags := 1, code := some k3c9 }
/-- com/example/trailhive/trailhive/Colony$Settings -/
def k3 : Class := { plain "com/example/trailhive/trailhive/Colony$Settings" (some 2) with
  accessFlags := 48
  interfaces := #[]
  cf := some (fileOf pool3 8 #[.nestHost 73] #[{ accessFlags := 0, nameIndex := 5, descriptorIndex := 38, attributes := #[] }, { accessFlags := 0, nameIndex := 62, descriptorIndex := 63, attributes := #[] }, { accessFlags := 1, nameIndex := 11, descriptorIndex := 65, attributes := #[] }, { accessFlags := 1, nameIndex := 15, descriptorIndex := 67, attributes := #[] }, { accessFlags := 1, nameIndex := 19, descriptorIndex := 67, attributes := #[] }, { accessFlags := 1, nameIndex := 22, descriptorIndex := 67, attributes := #[] }, { accessFlags := 1, nameIndex := 25, descriptorIndex := 67, attributes := #[] }, { accessFlags := 1, nameIndex := 28, descriptorIndex := 65, attributes := #[] }, { accessFlags := 1, nameIndex := 31, descriptorIndex := 67, attributes := #[] }, { accessFlags := 1, nameIndex := 34, descriptorIndex := 68, attributes := #[] }] 48 2 #[] #[{ accessFlags := 18, nameIndex := 11, descriptorIndex := 12, attributes := #[] }, { accessFlags := 18, nameIndex := 15, descriptorIndex := 16, attributes := #[] }, { accessFlags := 18, nameIndex := 19, descriptorIndex := 16, attributes := #[] }, { accessFlags := 18, nameIndex := 22, descriptorIndex := 16, attributes := #[] }, { accessFlags := 18, nameIndex := 25, descriptorIndex := 16, attributes := #[] }, { accessFlags := 18, nameIndex := 28, descriptorIndex := 12, attributes := #[] }, { accessFlags := 18, nameIndex := 31, descriptorIndex := 16, attributes := #[] }, { accessFlags := 18, nameIndex := 34, descriptorIndex := 35, attributes := #[] }, { accessFlags := 24, nameIndex := 57, descriptorIndex := 58, attributes := #[] }])
  fields := #[{ name := "ants", type := .int, accessFlags := 18, slot := 0, constantValue := 0 }, { name := "q0", type := .double, accessFlags := 18, slot := 1, constantValue := 0 }, { name := "alpha", type := .double, accessFlags := 18, slot := 2, constantValue := 0 }, { name := "beta", type := .double, accessFlags := 18, slot := 3, constantValue := 0 }, { name := "rho", type := .double, accessFlags := 18, slot := 4, constantValue := 0 }, { name := "candidates", type := .int, accessFlags := 18, slot := 5, constantValue := 0 }, { name := "preserve", type := .double, accessFlags := 18, slot := 6, constantValue := 0 }, { name := "seed", type := .long, accessFlags := 18, slot := 7, constantValue := 0 }, { name := "DEFAULT", type := (.object "com/example/trailhive/trailhive/Colony$Settings"), accessFlags := 24, slot := 0, constantValue := 0 }]
  methods := #[k3m0, k3m1, k3m2, k3m3, k3m4, k3m5, k3m6, k3m7, k3m8, k3m9]
  instanceTypes := #[.int, .double, .double, .double, .double, .int, .double, .long]
  staticTypes := #[(.object "com/example/trailhive/trailhive/Colony$Settings")]
  resolved := Array.replicate 101 none
  statics := none }

def pool4 : Array CpInfo := pool [(1, u "java/lang/Cloneable"), (0, .class_ 1), (0, u "java/lang/Object"), (0, .class_ 3)] 3

/-- java/lang/Cloneable -/
def k4 : Class := { plain "java/lang/Cloneable" (some 0) with
  accessFlags := 1537
  interfaces := #[]
  cf := some (fileOf pool4 2 #[] #[] 1537 4 #[] #[])
  fields := #[]
  methods := #[]
  instanceTypes := #[]
  staticTypes := #[]
  resolved := Array.replicate 8 none
  statics := none }

def pool5 : Array CpInfo := pool [(1, u "java/io/Serializable"), (0, .class_ 1), (0, u "java/lang/Object"), (0, .class_ 3)] 3

/-- java/io/Serializable -/
def k5 : Class := { plain "java/io/Serializable" (some 0) with
  accessFlags := 1537
  interfaces := #[]
  cf := some (fileOf pool5 2 #[] #[] 1537 4 #[] #[])
  fields := #[]
  methods := #[]
  instanceTypes := #[]
  staticTypes := #[]
  resolved := Array.replicate 8 none
  statics := none }

/-- the primitive byte -/
def k6 : Class := { plain "byte" none with kind := .primitive 'B', accessFlags := 0x411 }
/-- [B -/
def k7 : Class := { plain "[B" (some 0) with kind := .array 6 .byte, interfaces := #[4, 5], accessFlags := 1041 }

/-- the primitive int -/
def k8 : Class := { plain "int" none with kind := .primitive 'I', accessFlags := 0x411 }
/-- [I -/
def k9 : Class := { plain "[I" (some 0) with kind := .array 8 .int, interfaces := #[4, 5], accessFlags := 1041 }

def heap : Heap := #[]
def classes : Array Class := #[k0, k1, k2, k3, k4, k5, k6, k7, k8, k9]
def interned : List (Array UInt16 × Addr) := []
def slotsUsed : Nat := 0
def theMethod : MethodId := ⟨1, 1⟩
def args0 : Array Value := #[.int 3, .int 4, .long 5, .int 6, .int 7, .int 8]
def aboutOver (below : List Frame) : State where
  vm := { classes := classes, interned := interned.toArray }
  heap := heap
  slotsUsed := slotsUsed
  threads := #[{ frames := .invoking theMethod args0 :: below }]
def below0 : List Frame := [.native { method := ⟨0, 0⟩, args := #[] }]
def about1 : State := aboutOver below0
def p0 : Program := .bare "" "" ""
def e0 : Env := launch0.env 0 0 0
theorem w_frames : about1.frames = Frame.invoking theMethod args0 :: below0 := rfl
set_option maxRecDepth 65536 in
theorem w_args : argsFit about1.vm theMethod args0 = true := by decide +kernel
set_option maxRecDepth 65536 in
theorem w_heap : heapFits about1 = true := by decide +kernel
set_option maxRecDepth 65536 in
theorem w_runnable : about1.curStatus? = some .runnable := by decide +kernel
set_option maxRecDepth 65536 in
theorem w_alone : about1.alone = true := by decide +kernel
set_option maxRecDepth 65536 in
theorem w_named : about1.methodNamed? x = some theMethod := by decide +kernel
set_option maxRecDepth 65536 in
theorem w_hears : about1.hears theMethod below0 = true := by decide +kernel
set_option maxRecDepth 65536 in
theorem w_ripe : about1.ripe theMethod args0 below0 = true := by decide +kernel
theorem w_running : about1.status = .running := rfl
set_option maxRecDepth 65536 in
theorem w_room : about1.hasRoom e0.platform room_1 = true :=
  launch0.hasRoom_least _ room_1 (by decide +kernel) (by decide +kernel) (by decide +kernel) (by decide +kernel) (by decide +kernel) (by decide +kernel)
theorem allAtoms_all (ts : List Jvm.Cond) (a : Array Jvm.Value) (st : Jvm.State) : (allAtoms ts).before a st = ts.all (fun c => c.before a st) := by
  induction ts with
  | nil => rfl
  | cons c t ih =>
    show (Jvm.Cond.and c (allAtoms t)).before a st = _
    rw [Jvm.Cond.before_and, ih, List.all_cons]
def words1 : List Jvm.Cond := Jvm.Cond.code x code maxLocals ret :: tables_1
/-- a 'code' word, met by the world's own term for the bytes: nothing is compared byte by byte -/
theorem code_word {y : MethodName} {bytes : ByteArray} {mx : Nat} {rt : Option FieldType} {a : Array Value} {s : State} {m : MethodId} {meth : Method} {c : Code} (h1 : s.methodNamed? y = some m) (h2 : s.vm.method? m = some meth) (h3 : meth.code = some c) (h4 : c.code = bytes)
    (h5 : (c.maxLocals == mx && c.exceptionTable.isEmpty && decide (c.maxStack ≤ mostOperands) && decide (meth.sig.returnType = rt) && !meth.locks && decide (parseMethodDescriptor y.desc = some meth.sig)) = true) : (Jvm.Cond.code y bytes mx rt).before a s = true := by
  simp only [Bool.and_eq_true, beq_iff_eq, Bool.not_eq_true', decide_eq_true_eq] at h5
  obtain ⟨⟨⟨⟨⟨g1, g2⟩, g3⟩, g4⟩, g5⟩, g6⟩ := h5
  simp [Cond.before, Cond.holds, Cond.value, h1, h2, h3, h4, g1, g2, g3, g4, g5, g6]
def isCode : Jvm.Cond → Bool
  | .code _ _ _ _ => true
  | _ => false
theorem all_split {L : List Jvm.Cond} {P : Jvm.Cond → Bool} (h1 : L.all (fun c => isCode c || P c) = true) (h2 : ∀ c ∈ L.filter isCode, P c = true) : L.all P = true := by
  refine List.all_eq_true.mpr fun c hc => ?_
  have h := List.all_eq_true.mp h1 c hc
  rcases Bool.eq_false_or_eq_true (isCode c) with hi | hi
  · exact h2 c (List.mem_filter.mpr ⟨hc, hi⟩)
  · simpa [hi] using h
set_option maxRecDepth 65536 in
theorem w_c0 : (Jvm.Cond.code x code maxLocals ret).before args0 about1 = true := code_word (m := ⟨1, 1⟩) (meth := k1m1) (c := k1c1) (by decide +kernel) rfl rfl rfl (by decide +kernel)
set_option maxRecDepth 65536 in
theorem w_c1 : (Jvm.Cond.code ({ cls := "com/example/trailhive/trailhive/Colony$Settings", name := "<init>", desc := "(IDDDDIDJ)V" } : Jvm.MethodName) prog_8_method_1_code (15 : Nat) (Option.none : Option Jvm.ClassFile.FieldType)).before args0 about1 = true := code_word (m := ⟨3, 0⟩) (meth := k3m0) (c := k3c0) (by decide +kernel) rfl rfl rfl (by decide +kernel)
set_option maxRecDepth 65536 in
theorem w_c2 : (Jvm.Cond.code ({ cls := "java/lang/Record", name := "<init>", desc := "()V" } : Jvm.MethodName) jdk_30_method_1_code (1 : Nat) (Option.none : Option Jvm.ClassFile.FieldType)).before args0 about1 = true := code_word (m := ⟨2, 0⟩) (meth := k2m0) (c := k2c0) (by decide +kernel) rfl rfl rfl (by decide +kernel)
set_option maxRecDepth 65536 in
theorem w_c3 : (Jvm.Cond.code ({ cls := "java/lang/Object", name := "<init>", desc := "()V" } : Jvm.MethodName) object_method_1_code (1 : Nat) (Option.none : Option Jvm.ClassFile.FieldType)).before args0 about1 = true := code_word (m := ⟨0, 0⟩) (meth := k0m0) (c := k0c0) (by decide +kernel) rfl rfl rfl (by decide +kernel)
set_option maxRecDepth 65536 in
theorem w_c4 : (Jvm.Cond.code ({ cls := "com/example/trailhive/trailhive/Colony$Settings", name := "withPreserve", desc := "(D)Lcom/example/trailhive/trailhive/Colony$Settings;" } : Jvm.MethodName) prog_8_method_2_code (3 : Nat) (Option.some (Jvm.ClassFile.FieldType.object "com/example/trailhive/trailhive/Colony$Settings"))).before args0 about1 = true := code_word (m := ⟨3, 1⟩) (meth := k3m1) (c := k3c1) (by decide +kernel) rfl rfl rfl (by decide +kernel)
set_option maxRecDepth 65536 in
theorem w_c5 : (Jvm.Cond.code ({ cls := "com/example/trailhive/trailhive/Colony$Settings", name := "ants", desc := "()I" } : Jvm.MethodName) prog_8_method_6_code (1 : Nat) (Option.some Jvm.ClassFile.FieldType.int)).before args0 about1 = true := code_word (m := ⟨3, 2⟩) (meth := k3m2) (c := k3c2) (by decide +kernel) rfl rfl rfl (by decide +kernel)
set_option maxRecDepth 65536 in
theorem w_c6 : (Jvm.Cond.code ({ cls := "com/example/trailhive/trailhive/Colony$Settings", name := "q0", desc := "()D" } : Jvm.MethodName) prog_8_method_7_code (1 : Nat) (Option.some Jvm.ClassFile.FieldType.double)).before args0 about1 = true := code_word (m := ⟨3, 3⟩) (meth := k3m3) (c := k3c3) (by decide +kernel) rfl rfl rfl (by decide +kernel)
set_option maxRecDepth 65536 in
theorem w_c7 : (Jvm.Cond.code ({ cls := "com/example/trailhive/trailhive/Colony$Settings", name := "alpha", desc := "()D" } : Jvm.MethodName) prog_8_method_8_code (1 : Nat) (Option.some Jvm.ClassFile.FieldType.double)).before args0 about1 = true := code_word (m := ⟨3, 4⟩) (meth := k3m4) (c := k3c4) (by decide +kernel) rfl rfl rfl (by decide +kernel)
set_option maxRecDepth 65536 in
theorem w_c8 : (Jvm.Cond.code ({ cls := "com/example/trailhive/trailhive/Colony$Settings", name := "beta", desc := "()D" } : Jvm.MethodName) prog_8_method_9_code (1 : Nat) (Option.some Jvm.ClassFile.FieldType.double)).before args0 about1 = true := code_word (m := ⟨3, 5⟩) (meth := k3m5) (c := k3c5) (by decide +kernel) rfl rfl rfl (by decide +kernel)
set_option maxRecDepth 65536 in
theorem w_c9 : (Jvm.Cond.code ({ cls := "com/example/trailhive/trailhive/Colony$Settings", name := "rho", desc := "()D" } : Jvm.MethodName) prog_8_method_10_code (1 : Nat) (Option.some Jvm.ClassFile.FieldType.double)).before args0 about1 = true := code_word (m := ⟨3, 6⟩) (meth := k3m6) (c := k3c6) (by decide +kernel) rfl rfl rfl (by decide +kernel)
set_option maxRecDepth 65536 in
theorem w_c10 : (Jvm.Cond.code ({ cls := "com/example/trailhive/trailhive/Colony$Settings", name := "candidates", desc := "()I" } : Jvm.MethodName) prog_8_method_11_code (1 : Nat) (Option.some Jvm.ClassFile.FieldType.int)).before args0 about1 = true := code_word (m := ⟨3, 7⟩) (meth := k3m7) (c := k3c7) (by decide +kernel) rfl rfl rfl (by decide +kernel)
set_option maxRecDepth 65536 in
theorem w_c11 : (Jvm.Cond.code ({ cls := "com/example/trailhive/trailhive/Colony$Settings", name := "seed", desc := "()J" } : Jvm.MethodName) prog_8_method_13_code (1 : Nat) (Option.some Jvm.ClassFile.FieldType.long)).before args0 about1 = true := code_word (m := ⟨3, 9⟩) (meth := k3m9) (c := k3c9) (by decide +kernel) rfl rfl rfl (by decide +kernel)
set_option maxRecDepth 65536 in
theorem w_c12 : (Jvm.Cond.code ({ cls := "com/example/trailhive/trailhive/Colony$Settings", name := "preserve", desc := "()D" } : Jvm.MethodName) prog_8_method_12_code (1 : Nat) (Option.some Jvm.ClassFile.FieldType.double)).before args0 about1 = true := code_word (m := ⟨3, 8⟩) (meth := k3m8) (c := k3c8) (by decide +kernel) rfl rfl rfl (by decide +kernel)
def codes1 : List Jvm.Cond := [Jvm.Cond.code x code maxLocals ret, Jvm.Cond.code ({ cls := "com/example/trailhive/trailhive/Colony$Settings", name := "<init>", desc := "(IDDDDIDJ)V" } : Jvm.MethodName) prog_8_method_1_code (15 : Nat) (Option.none : Option Jvm.ClassFile.FieldType), Jvm.Cond.code ({ cls := "java/lang/Record", name := "<init>", desc := "()V" } : Jvm.MethodName) jdk_30_method_1_code (1 : Nat) (Option.none : Option Jvm.ClassFile.FieldType), Jvm.Cond.code ({ cls := "java/lang/Object", name := "<init>", desc := "()V" } : Jvm.MethodName) object_method_1_code (1 : Nat) (Option.none : Option Jvm.ClassFile.FieldType), Jvm.Cond.code ({ cls := "com/example/trailhive/trailhive/Colony$Settings", name := "withPreserve", desc := "(D)Lcom/example/trailhive/trailhive/Colony$Settings;" } : Jvm.MethodName) prog_8_method_2_code (3 : Nat) (Option.some (Jvm.ClassFile.FieldType.object "com/example/trailhive/trailhive/Colony$Settings")), Jvm.Cond.code ({ cls := "com/example/trailhive/trailhive/Colony$Settings", name := "ants", desc := "()I" } : Jvm.MethodName) prog_8_method_6_code (1 : Nat) (Option.some Jvm.ClassFile.FieldType.int), Jvm.Cond.code ({ cls := "com/example/trailhive/trailhive/Colony$Settings", name := "q0", desc := "()D" } : Jvm.MethodName) prog_8_method_7_code (1 : Nat) (Option.some Jvm.ClassFile.FieldType.double), Jvm.Cond.code ({ cls := "com/example/trailhive/trailhive/Colony$Settings", name := "alpha", desc := "()D" } : Jvm.MethodName) prog_8_method_8_code (1 : Nat) (Option.some Jvm.ClassFile.FieldType.double), Jvm.Cond.code ({ cls := "com/example/trailhive/trailhive/Colony$Settings", name := "beta", desc := "()D" } : Jvm.MethodName) prog_8_method_9_code (1 : Nat) (Option.some Jvm.ClassFile.FieldType.double), Jvm.Cond.code ({ cls := "com/example/trailhive/trailhive/Colony$Settings", name := "rho", desc := "()D" } : Jvm.MethodName) prog_8_method_10_code (1 : Nat) (Option.some Jvm.ClassFile.FieldType.double), Jvm.Cond.code ({ cls := "com/example/trailhive/trailhive/Colony$Settings", name := "candidates", desc := "()I" } : Jvm.MethodName) prog_8_method_11_code (1 : Nat) (Option.some Jvm.ClassFile.FieldType.int), Jvm.Cond.code ({ cls := "com/example/trailhive/trailhive/Colony$Settings", name := "seed", desc := "()J" } : Jvm.MethodName) prog_8_method_13_code (1 : Nat) (Option.some Jvm.ClassFile.FieldType.long), Jvm.Cond.code ({ cls := "com/example/trailhive/trailhive/Colony$Settings", name := "preserve", desc := "()D" } : Jvm.MethodName) prog_8_method_12_code (1 : Nat) (Option.some Jvm.ClassFile.FieldType.double)]
set_option maxRecDepth 65536 in
theorem codes_eq : words1.filter isCode = codes1 := rfl
theorem w_codes : ∀ c ∈ words1.filter isCode, c.before args0 about1 = true := by
  rw [codes_eq]
  intro c hc
  simp only [codes1, List.mem_cons, List.not_mem_nil, or_false] at hc
  rcases hc with rfl | rfl | rfl | rfl | rfl | rfl | rfl | rfl | rfl | rfl | rfl | rfl | rfl
  · exact w_c0
  · exact w_c1
  · exact w_c2
  · exact w_c3
  · exact w_c4
  · exact w_c5
  · exact w_c6
  · exact w_c7
  · exact w_c8
  · exact w_c9
  · exact w_c10
  · exact w_c11
  · exact w_c12
set_option maxRecDepth 65536 in
theorem w_t1 : (words1.take 24).all (fun c => isCode c || c.before args0 about1) = true := by decide +kernel
set_option maxRecDepth 65536 in
theorem w_t2 : ((words1.drop 24).take 24).all (fun c => isCode c || c.before args0 about1) = true := by decide +kernel
set_option maxRecDepth 65536 in
theorem w_t3 : (((words1.drop 24).drop 24).take 24).all (fun c => isCode c || c.before args0 about1) = true := by decide +kernel
set_option maxRecDepth 65536 in
theorem w_t4 : (((words1.drop 24).drop 24).drop 24).all (fun c => isCode c || c.before args0 about1) = true := by decide +kernel
theorem w_tables : (allAtoms (Jvm.Cond.code x code maxLocals ret :: tables_1)).before args0 about1 = true := by
  rw [allAtoms_all]
  show words1.all (fun c => c.before args0 about1) = true
  refine all_split ?_ w_codes
  rw [← List.take_append_drop 24 words1, List.all_append, w_t1, ← List.take_append_drop 24 (words1.drop 24), List.all_append, w_t2, ← List.take_append_drop 24 ((words1.drop 24).drop 24), List.all_append, w_t3, w_t4]
  rfl
set_option maxRecDepth 65536 in
theorem w_case : (Jvm.Cond.and given_1 narrow_1).before args0 about1 = true := by decide +kernel
theorem w_applies : (headSpec (Jvm.Cond.code x code maxLocals ret :: tables_1) room_1).applies x e0.platform about1 = true :=
  (Spec.applies_iff w_frames).mpr ⟨w_running, w_runnable, w_alone, w_named, w_hears, w_ripe, w_room, w_tables⟩
theorem atStart : AtStart classFile x code maxLocals ret World_1 tables_1 room_1 Calls_1 rest_1 Pre_1 launch0 p0 e0 about1 theMethod args0 below0 :=
  ⟨lists_1, trivial, launch0.admits_env _ _ _, launch0.least_env, fairChoices_fair.cas, fairChoices_fair.clock, w_frames, w_args, w_heap, w_applies, trivial, trivial, w_case⟩
end start1
theorem witness_1 : WitnessClaimed_1 := ⟨start1.p0, start1.e0, start1.about1, start1.theMethod, start1.args0, start1.below0, start1.atStart⟩
end Jvm.Pilot.@@N@@
