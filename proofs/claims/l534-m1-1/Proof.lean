import JvmDerived
import JvmDerived.Pilot.@@N@@Statement
import JvmDerived.Pilot.@@N@@Code
set_option linter.unusedVariables false
set_option linter.unusedSimpArgs false
@@BLOCK:NumsL.lean.txt@@
namespace Jvm.RoadKit
open Sem ClassFile Op Lib Jvm.Stand Jvm.Free Jvm.LawKit
section New
variable {p : Program} {l : Launch} {e : Env} {R : Room} {s : State} {m : MethodId} {args : Array Value} {below : List Frame} {meth : Method} {c : Code} {T : State} {locs : List Loc} {cells slots : Nat}
theorem retI (X : Stand p l e R s m args below meth c T locs cells slots) (hx : p.tables.exec = Jvm.exec) {pc : Nat} {Ls : Array Slot} {z : Int32} {rest : List Value} (hret : meth.sig.returnType = some .int) (hd : decode c.code pc = .ok (.ireturn, 1)) {fs : List Frame}
    (hl : ∀ (f : JFrame) (acts : List Action), f.method = m → f.locked = none → f.entered = [] → (doReturn e (T.setTop f) acts (some (.int z))).1 = T.setFrames fs) : Steps p.tables e below (T.setTop (mkF m pc Ls (.int z :: rest))) (T.setFrames fs) := by
  have hm' : T.vm.method? m = some meth := X.method'
  have hn : narrow .int (.int z) = .int z := rfl
  show Steps p.tables e below (T.setTop { method := m, pc := pc, locals := Ls, stack := _ :: rest, locked := none }) _
  jvm_step X.here [X.here.top, hx, hd, hm', hret, hn]
  first | (intro acts; rw [hl _ acts rfl rfl rfl]) | rw [hl _ _ rfl rfl rfl]
  exact Steps.refl _
end New
end Jvm.RoadKit
namespace Jvm.Pilot.@@N@@
open Jvm Jvm.ClassFile Sem Op Lib Jvm.Free Jvm.Stand Jvm.LawKit Jvm.RoadKit Bundle Jvm.Pilot.@@N@@.Jvm.D
/-! own text: doubles as whole numbers of 2^-1074 (own_Fin), what a double can hold (own_Rep), and the four operations by bounds -/
def own_Rep (z : Int) : Prop := ∃ (s : Bool) (c : Nat) (q : Int), FP.Core.fits FP.Core.b64 (.fin s c q) ∧ FP.Core.zval FP.Core.b64 (.fin s c q) = z
def own_Fin (a : UInt64) (z : Int) : Prop := FP.Core.DFin a ∧ FP.Core.zval FP.Core.b64 (FP.Core.val64 a) = z
def own_U : Int := ((FP.Core.one64 : Nat) : Int)
theorem own_U_pos : 0 < own_U := Int.natCast_pos.mpr FP.Core.one64_pos
theorem own_U_lit : own_U = 202402253307310618352495346718917307049556649764142118356901358027430339567995346891960383701437124495187077864316811911389808737385793476867013399940738509921517424276566361364466907742093216341239767678472745068562007483424692698618103355649159556340810056512358769552333414615230502532186327508646006263307707741093494784 := by decide +kernel
theorem own_Fin.rep {a : UInt64} {z : Int} (h : own_Fin a z) : own_Rep z := by
  obtain ⟨⟨s, c, q, e⟩, h⟩ := h
  refine ⟨s, c, q, ?_, ?_⟩
  · rw [← e]; exact FP.Core.val64_fits a
  · rw [← e]; exact h
theorem own_Fin.ne {a : UInt64} {z : Int} (h : own_Fin a z) : FP.Core.val64 a ≠ .nan := h.1.ne_nan
theorem own_Fin.nn {a : UInt64} {z : Int} (h : own_Fin a z) : Jvm.Free.Fl.NoNaN64 a := Jvm.Free.Fl.val64_no.mpr h.ne
def own_Val (a : UInt64) (z : Int) : Prop := FP.Core.val64 a ≠ .nan ∧ FP.Core.zval FP.Core.b64 (FP.Core.val64 a) = z
theorem own_Fin.v {a : UInt64} {z : Int} (h : own_Fin a z) : own_Val a z := ⟨h.ne, h.2⟩
theorem own_Val.nn {a : UInt64} {z : Int} (h : own_Val a z) : Jvm.Free.Fl.NoNaN64 a := Jvm.Free.Fl.val64_no.mpr h.1
theorem own_Fin.cast {a : UInt64} {z w : Int} (h : own_Fin a z) (e : z = w) : own_Fin a w := e ▸ h
theorem own_signed_le (s : Bool) (n : Nat) : FP.Core.signed s n ≤ (n : Int) ∧ -(n : Int) ≤ FP.Core.signed s n := by
  cases s <;> simp only [FP.Core.signed, if_true, Bool.false_eq_true, if_false] <;> omega
theorem own_zval_inf (f : FP.Core.Fmt) (s : Bool) : FP.Core.zval f (.inf s) = FP.Core.signed s (f.tails * 2 ^ (f.exps - 2)) := rfl
theorem own_zval_fin (f : FP.Core.Fmt) (s : Bool) (c : Nat) (q : Int) : FP.Core.zval f (.fin s c q) = FP.Core.signed s (FP.Core.inUnits c q f.qmin) := rfl
theorem own_Rep.lt {z : Int} (h : own_Rep z) : z < ((FP.Core.b64.tails * 2 ^ (FP.Core.b64.exps - 2) : Nat) : Int) ∧ -((FP.Core.b64.tails * 2 ^ (FP.Core.b64.exps - 2) : Nat) : Int) < z := by
  obtain ⟨s, c, q, hf, rfl⟩ := h
  have h1 := FP.Core.zmag_lt_top FP.Core.good_b64 hf
  have h2 := own_signed_le s (FP.Core.inUnits c q FP.Core.b64.qmin)
  rw [own_zval_fin]
  generalize FP.Core.inUnits c q FP.Core.b64.qmin = n at *
  generalize FP.Core.b64.tails * 2 ^ (FP.Core.b64.exps - 2) = t at *
  omega
theorem own_fin_of {r : UInt64} {lo hi : Int} (hn : FP.Core.val64 r ≠ .nan) (rl : own_Rep lo) (rh : own_Rep hi) (h1 : lo ≤ FP.Core.zval FP.Core.b64 (FP.Core.val64 r)) (h2 : FP.Core.zval FP.Core.b64 (FP.Core.val64 r) ≤ hi) :
    ∃ z, own_Fin r z ∧ lo ≤ z ∧ z ≤ hi := by
  refine ⟨_, ⟨?_, rfl⟩, h1, h2⟩
  have a := rl.lt
  have b := rh.lt
  cases hv : FP.Core.val64 r with
  | nan => exact absurd hv hn
  | fin s c q => exact ⟨s, c, q, hv⟩
  | inf s =>
    exfalso
    rw [hv, own_zval_inf] at h1 h2
    generalize FP.Core.b64.tails * 2 ^ (FP.Core.b64.exps - 2) = t at *
    cases s <;> simp only [FP.Core.signed, if_true, Bool.false_eq_true, if_false] at h1 h2 <;> omega
theorem own_add {a b : UInt64} {x y lo hi : Int} (ha : own_Fin a x) (hb : own_Fin b y) (rl : own_Rep lo) (rh : own_Rep hi) (h1 : lo ≤ x + y) (h2 : x + y ≤ hi) : ∃ z, own_Fin (FP.dadd a b) z ∧ lo ≤ z ∧ z ≤ hi := by
  obtain ⟨s1, c1, q1, f1, e1⟩ := id rl
  obtain ⟨s2, c2, q2, f2, e2⟩ := id rh
  have ev : FP.Core.val64 (FP.dadd a b) = _ := FP.Core.val64_dadd a b
  refine own_fin_of ((FP.Core.notNaN_iff _).mp (FP.Core.dadd_out ha.1.notNaN hb.1)) rl rh ?_ ?_
  · rw [ev, ← e1]
    exact FP.Core.sum_ge FP.Core.good_b64 ha.1 hb.1 (FP.Core.val64_fits a) (FP.Core.val64_fits b) f1 (fun q => nomatch q) (by rw [e1, ha.2, hb.2]; exact h1)
  · rw [ev, ← e2]
    exact FP.Core.sum_le FP.Core.good_b64 ha.1 hb.1 (FP.Core.val64_fits a) (FP.Core.val64_fits b) f2 (fun q => nomatch q) (by rw [e2, ha.2, hb.2]; exact h2)
theorem own_add_e {a b : UInt64} {x y : Int} (ha : own_Fin a x) (hb : own_Fin b y) (r : own_Rep (x + y)) : own_Fin (FP.dadd a b) (x + y) := by
  obtain ⟨z, h, h1, h2⟩ := own_add ha hb r r (Int.le_refl _) (Int.le_refl _)
  exact h.cast (Int.le_antisymm h2 h1)
theorem own_fin_negate {d : FP.Core.Datum} (h : ∃ s c q, d = .fin s c q) : ∃ s c q, FP.Core.negate d = .fin s c q := by
  obtain ⟨s, c, q, rfl⟩ := h
  exact ⟨!s, c, q, rfl⟩
theorem own_sub {a b : UInt64} {x y lo hi : Int} (ha : own_Fin a x) (hb : own_Fin b y) (rl : own_Rep lo) (rh : own_Rep hi) (h1 : lo ≤ x - y) (h2 : x - y ≤ hi) : ∃ z, own_Fin (FP.dsub a b) z ∧ lo ≤ z ∧ z ≤ hi := by
  obtain ⟨s1, c1, q1, f1, e1⟩ := id rl
  obtain ⟨s2, c2, q2, f2, e2⟩ := id rh
  have ev : FP.Core.val64 (FP.dsub a b) = _ := FP.Core.val64_dsub a b
  refine own_fin_of ((FP.Core.notNaN_iff _).mp (FP.Core.dsub_out ha.1.notNaN hb.1)) rl rh ?_ ?_
  · rw [ev, ← e1]
    exact FP.Core.sum_ge FP.Core.good_b64 ha.1 (own_fin_negate hb.1) (FP.Core.val64_fits a) (FP.Core.negate_fits (FP.Core.val64_fits b)) f1 (fun q => nomatch q) (by rw [e1, ha.2, FP.Core.zval_negate, hb.2]; omega)
  · rw [ev, ← e2]
    exact FP.Core.sum_le FP.Core.good_b64 ha.1 (own_fin_negate hb.1) (FP.Core.val64_fits a) (FP.Core.negate_fits (FP.Core.val64_fits b)) f2 (fun q => nomatch q) (by rw [e2, ha.2, FP.Core.zval_negate, hb.2]; omega)
theorem own_sub_e {a b : UInt64} {x y : Int} (ha : own_Fin a x) (hb : own_Fin b y) (r : own_Rep (x - y)) : own_Fin (FP.dsub a b) (x - y) := by
  obtain ⟨z, h, h1, h2⟩ := own_sub ha hb r r (Int.le_refl _) (Int.le_refl _)
  exact h.cast (Int.le_antisymm h2 h1)
theorem own_qq : (FP.Core.b64.qmin - 2 * FP.Core.b64.qmin).toNat = (-FP.Core.b64.qmin).toNat := by rw [FP.Core.qmin_b64]; rfl
theorem own_mul_ge {a b : UInt64} {x y lo : Int} (ha : own_Fin a x) (hb : own_Fin b y) (rl : own_Rep lo) (h1 : lo * own_U ≤ x * y) : lo ≤ FP.Core.zval FP.Core.b64 (FP.Core.val64 (FP.dmul a b)) := by
  obtain ⟨s1, c1, q1, f1, e1⟩ := id rl
  obtain ⟨s, c, q, ea⟩ := id ha.1
  obtain ⟨t, d, r, eb⟩ := id hb.1
  have fa := FP.Core.val64_fits a
  have fb := FP.Core.val64_fits b
  have za := ha.2
  have zb := hb.2
  have ev : FP.Core.val64 (FP.dmul a b) = _ := FP.Core.val64_dmul a b
  rw [ea] at fa za ev
  rw [eb] at fb zb ev
  obtain ⟨p1, p2, p3⟩ := FP.Core.product_units fa fb
  rw [p1] at ev
  have hq : 2 * FP.Core.b64.qmin ≤ FP.Core.b64.qmin := by rw [FP.Core.qmin_b64]; decide
  have hs : FP.Core.signed (s != t) (FP.Core.inUnits (c * d) (q + r) (2 * FP.Core.b64.qmin)) = x * y := by
    rw [p3, FP.Core.signed_xor, ← za, ← zb]; rfl
  have hu : ((2 ^ (FP.Core.b64.qmin - 2 * FP.Core.b64.qmin).toNat : Nat) : Int) = own_U := by rw [own_qq, FP.Core.pow_qmin64]; rfl
  rw [ev, ← e1]
  exact FP.Core.zval_round_ge FP.Core.good_b64 f1 (fun q => nomatch q) hq p2 (by rw [hs, hu, e1]; exact h1)
theorem own_mul_le {a b : UInt64} {x y hi : Int} (ha : own_Fin a x) (hb : own_Fin b y) (rh : own_Rep hi) (h2 : x * y ≤ hi * own_U) : FP.Core.zval FP.Core.b64 (FP.Core.val64 (FP.dmul a b)) ≤ hi := by
  obtain ⟨s2, c2, q2, f2, e2⟩ := id rh
  obtain ⟨s, c, q, ea⟩ := id ha.1
  obtain ⟨t, d, r, eb⟩ := id hb.1
  have fa := FP.Core.val64_fits a
  have fb := FP.Core.val64_fits b
  have za := ha.2
  have zb := hb.2
  have ev : FP.Core.val64 (FP.dmul a b) = _ := FP.Core.val64_dmul a b
  rw [ea] at fa za ev
  rw [eb] at fb zb ev
  obtain ⟨p1, p2, p3⟩ := FP.Core.product_units fa fb
  rw [p1] at ev
  have hq : 2 * FP.Core.b64.qmin ≤ FP.Core.b64.qmin := by rw [FP.Core.qmin_b64]; decide
  have hs : FP.Core.signed (s != t) (FP.Core.inUnits (c * d) (q + r) (2 * FP.Core.b64.qmin)) = x * y := by
    rw [p3, FP.Core.signed_xor, ← za, ← zb]; rfl
  have hu : ((2 ^ (FP.Core.b64.qmin - 2 * FP.Core.b64.qmin).toNat : Nat) : Int) = own_U := by rw [own_qq, FP.Core.pow_qmin64]; rfl
  rw [ev, ← e2]
  exact FP.Core.zval_round_le FP.Core.good_b64 f2 (fun q => nomatch q) hq p2 (by rw [hs, hu, e2]; exact h2)
theorem own_mul_ne {a b : UInt64} {x y : Int} (ha : own_Fin a x) (hb : own_Fin b y) : FP.Core.val64 (FP.dmul a b) ≠ .nan := (FP.Core.notNaN_iff _).mp (FP.Core.dmul_out ha.1 hb.1)
theorem own_mul {a b : UInt64} {x y lo hi : Int} (ha : own_Fin a x) (hb : own_Fin b y) (rl : own_Rep lo) (rh : own_Rep hi) (h1 : lo * own_U ≤ x * y) (h2 : x * y ≤ hi * own_U) : ∃ z, own_Fin (FP.dmul a b) z ∧ lo ≤ z ∧ z ≤ hi :=
  own_fin_of (own_mul_ne ha hb) rl rh (own_mul_ge ha hb rl h1) (own_mul_le ha hb rh h2)
theorem own_mul_e {a b : UInt64} {x y z : Int} (ha : own_Fin a x) (hb : own_Fin b y) (r : own_Rep z) (e : x * y = z * own_U) : own_Fin (FP.dmul a b) z := by
  obtain ⟨w, h, h1, h2⟩ := own_mul ha hb r r (Int.le_of_eq e.symm) (Int.le_of_eq e)
  exact h.cast (Int.le_antisymm h2 h1)
theorem own_ratio_units {c d : Nat} {q r m : Int} (hq : m ≤ q) (hr : m ≤ r) (hm : m < 0) :
    FP.Core.inUnits c (q - r) (m + m - r) = FP.Core.inUnits c q m * 2 ^ (-m).toNat ∧ ∀ v : Nat, v * 2 ^ (m - (m + m - r)).toNat * d = v * FP.Core.inUnits d r m := by
  constructor
  · unfold FP.Core.inUnits
    rw [show (q - r - (m + m - r)).toNat = (q - m).toNat + (-m).toNat by omega, Nat.pow_add, Nat.mul_assoc]
  · intro v
    unfold FP.Core.inUnits
    rw [show (m - (m + m - r)).toNat = (r - m).toNat by omega, Nat.mul_assoc, Nat.mul_comm d]
theorem own_ratio_le {s s' t : Bool} {c d : Nat} {q r : Int} {V : FP.Core.Datum} (hx : FP.Core.fits FP.Core.b64 (.fin s c q)) (hy : FP.Core.fits FP.Core.b64 (.fin t d r)) (hd : 0 < d) (hV : FP.Core.fits FP.Core.b64 V) (hn : V ≠ .nan)
    (h : FP.Core.inUnits c q FP.Core.b64.qmin * FP.Core.one64 ≤ FP.Core.zmag FP.Core.b64 V * FP.Core.inUnits d r FP.Core.b64.qmin) : FP.Core.zmag FP.Core.b64 (FP.Core.roundRatio FP.Core.b64 s' c d (q - r)) ≤ FP.Core.zmag FP.Core.b64 V := by
  have hm : FP.Core.b64.qmin < 0 := by rw [FP.Core.qmin_b64]; decide
  obtain ⟨u1, u2⟩ := own_ratio_units (c := c) (d := d) hx.2.1 hy.2.1 hm
  have hqx := hx.2.1
  have hqy := hy.2.1
  refine FP.Core.zmag_roundRatio_le FP.Core.good_b64 (e0 := FP.Core.b64.qmin + FP.Core.b64.qmin - r) hd hV hn (by omega) (by omega) ?_
  rw [u1, u2, FP.Core.pow_qmin64]; exact h
theorem own_ratio_ge {s s' t : Bool} {c d : Nat} {q r : Int} {V : FP.Core.Datum} (hx : FP.Core.fits FP.Core.b64 (.fin s c q)) (hy : FP.Core.fits FP.Core.b64 (.fin t d r)) (hd : 0 < d) (hV : FP.Core.fits FP.Core.b64 V)
    (h : FP.Core.zmag FP.Core.b64 V * FP.Core.inUnits d r FP.Core.b64.qmin ≤ FP.Core.inUnits c q FP.Core.b64.qmin * FP.Core.one64) : FP.Core.zmag FP.Core.b64 V ≤ FP.Core.zmag FP.Core.b64 (FP.Core.roundRatio FP.Core.b64 s' c d (q - r)) := by
  have hm : FP.Core.b64.qmin < 0 := by rw [FP.Core.qmin_b64]; decide
  obtain ⟨u1, u2⟩ := own_ratio_units (c := c) (d := d) hx.2.1 hy.2.1 hm
  have hqx := hx.2.1
  have hqy := hy.2.1
  refine FP.Core.zmag_roundRatio_ge FP.Core.good_b64 (e0 := FP.Core.b64.qmin + FP.Core.b64.qmin - r) hd hV (by omega) (by omega) ?_
  rw [u1, u2, FP.Core.pow_qmin64]; exact h
theorem own_quot {a b : UInt64} {y : Int} {s : Bool} {c : Nat} {q : Int} (ea : FP.Core.val64 a = .fin s c q) (hb : own_Fin b y) (hy : 0 < y) :
    ∃ d r, FP.Core.val64 b = .fin false d r ∧ 0 < d ∧ y = ((FP.Core.inUnits d r FP.Core.b64.qmin : Nat) : Int) ∧ FP.Core.val64 (FP.ddiv a b) = FP.Core.roundRatio FP.Core.b64 s c d (q - r) := by
  obtain ⟨t, d, r, eb⟩ := id hb.1
  have zb := hb.2
  rw [eb, own_zval_fin] at zb
  obtain ⟨k1, k2⟩ := FP.Core.signed_pos (s := t) (m := FP.Core.inUnits d r FP.Core.b64.qmin) (by rw [zb]; exact hy)
  have ht : t = false := by
    cases t with
    | false => rfl
    | true =>
      simp only [FP.Core.signed, if_true] at k1; omega
  subst ht
  have hd : 0 < d := by
    rcases Nat.eq_zero_or_pos d with h | h
    · subst h; unfold FP.Core.inUnits at k2; omega
    · exact h
  refine ⟨d, r, eb, hd, by rw [← zb, k1], ?_⟩
  have ev : FP.Core.val64 (FP.ddiv a b) = _ := FP.Core.val64_ddiv a b
  rw [ea, eb] at ev
  rw [ev]
  show (if d = 0 then _ else FP.Core.roundRatio FP.Core.b64 (s != false) c d (q - r)) = _
  rw [if_neg (Nat.pos_iff_ne_zero.mp hd)]
  cases s <;> rfl
theorem own_div_le {a b : UInt64} {x y hi : Int} (ha : own_Fin a x) (hb : own_Fin b y) (hy : 0 < y) (rh : own_Rep hi) (h2 : x * own_U ≤ hi * y) : FP.Core.zval FP.Core.b64 (FP.Core.val64 (FP.ddiv a b)) ≤ hi := by
  obtain ⟨s2, c2, q2, f2, e2⟩ := id rh
  obtain ⟨s, c, q, ea⟩ := id ha.1
  obtain ⟨d, r, eb, hd, ey, ev⟩ := own_quot ea hb hy
  have fa := FP.Core.val64_fits a
  have fb := FP.Core.val64_fits b
  have za := ha.2
  rw [ea] at fa za
  rw [eb] at fb
  have l1 := own_ratio_le (s' := s) fa fb hd f2 (fun q => nomatch q)
  have l2 := own_ratio_ge (s' := s) fa fb hd f2
  have hY : 0 < FP.Core.inUnits d r FP.Core.b64.qmin := by omega
  rw [ev, ← e2]
  unfold FP.Core.zval
  rw [FP.Core.sgn_roundRatio]
  rw [own_zval_fin] at za
  have e2' : FP.Core.signed s2 (FP.Core.zmag FP.Core.b64 (.fin s2 c2 q2)) = hi := e2
  show FP.Core.signed s _ ≤ FP.Core.signed s2 _
  rw [← e2', ← za, ey] at h2
  unfold own_U at h2
  rw [← FP.Core.signed_mul, ← FP.Core.signed_mul] at h2
  generalize FP.Core.zmag FP.Core.b64 (FP.Core.roundRatio FP.Core.b64 s c d (q - r)) = zR at *
  generalize FP.Core.zmag FP.Core.b64 (.fin s2 c2 q2) = v at *
  have hz : v * FP.Core.inUnits d r FP.Core.b64.qmin = 0 → v = 0 := fun h => (Nat.mul_eq_zero.mp h).resolve_right (by omega)
  generalize v * FP.Core.inUnits d r FP.Core.b64.qmin = B at *
  generalize FP.Core.inUnits c q FP.Core.b64.qmin * FP.Core.one64 = A at *
  cases s <;> cases s2 <;> simp only [FP.Core.signed, if_true, Bool.false_eq_true, if_false] at h2 ⊢
  · have := l1 (by omega); omega
  · have := l1 (by omega); have := hz (by omega); omega
  · omega
  · have := l2 (by omega); omega
theorem own_neg {a : UInt64} {x : Int} (ha : own_Fin a x) : own_Fin (FP.dneg a) (-x) := by
  have e : FP.Core.val64 (FP.dneg a) = _ := FP.val64_dneg a
  refine ⟨?_, ?_⟩
  · show ∃ s c q, _ = _
    rw [e]; exact own_fin_negate ha.1
  · rw [e, FP.Core.zval_negate, ha.2]
theorem own_div_ge {a b : UInt64} {x y lo : Int} (ha : own_Fin a x) (hb : own_Fin b y) (hy : 0 < y) (rl : own_Rep lo) (h1 : lo * y ≤ x * own_U) : lo ≤ FP.Core.zval FP.Core.b64 (FP.Core.val64 (FP.ddiv a b)) := by
  obtain ⟨s2, c2, q2, f2, e2⟩ := id rl
  obtain ⟨s, c, q, ea⟩ := id ha.1
  obtain ⟨d, r, eb, hd, ey, ev⟩ := own_quot ea hb hy
  have fa := FP.Core.val64_fits a
  have fb := FP.Core.val64_fits b
  have za := ha.2
  rw [ea] at fa za
  rw [eb] at fb
  have l1 := own_ratio_le (s' := s) fa fb hd f2 (fun q => nomatch q)
  have l2 := own_ratio_ge (s' := s) fa fb hd f2
  have hY : 0 < FP.Core.inUnits d r FP.Core.b64.qmin := by omega
  rw [ev, ← e2]
  unfold FP.Core.zval
  rw [FP.Core.sgn_roundRatio]
  rw [own_zval_fin] at za
  have e2' : FP.Core.signed s2 (FP.Core.zmag FP.Core.b64 (.fin s2 c2 q2)) = lo := e2
  show FP.Core.signed s2 _ ≤ FP.Core.signed s _
  rw [← e2', ← za, ey] at h1
  unfold own_U at h1
  rw [← FP.Core.signed_mul, ← FP.Core.signed_mul] at h1
  generalize FP.Core.zmag FP.Core.b64 (FP.Core.roundRatio FP.Core.b64 s c d (q - r)) = zR at *
  generalize FP.Core.zmag FP.Core.b64 (.fin s2 c2 q2) = v at *
  have hz : v * FP.Core.inUnits d r FP.Core.b64.qmin = 0 → v = 0 := fun h => (Nat.mul_eq_zero.mp h).resolve_right (by omega)
  generalize v * FP.Core.inUnits d r FP.Core.b64.qmin = B at *
  generalize FP.Core.inUnits c q FP.Core.b64.qmin * FP.Core.one64 = A at *
  cases s <;> cases s2 <;> simp only [FP.Core.signed, if_true, Bool.false_eq_true, if_false] at h1 ⊢
  · have := l2 (by omega); omega
  · omega
  · have := l1 (by omega); have := hz (by omega); omega
  · have := l1 (by omega); omega
theorem own_div {a b : UInt64} {x y lo hi : Int} (ha : own_Fin a x) (hb : own_Fin b y) (hy : 0 < y) (rl : own_Rep lo) (rh : own_Rep hi) (h1 : lo * y ≤ x * own_U) (h2 : x * own_U ≤ hi * y) : ∃ z, own_Fin (FP.ddiv a b) z ∧ lo ≤ z ∧ z ≤ hi := by
  refine own_fin_of ?_ rl rh (own_div_ge ha hb hy rl h1) (own_div_le ha hb hy rh h2)
  obtain ⟨s, c, q, ea⟩ := id ha.1
  obtain ⟨d, r, eb, hd, ey, ev⟩ := own_quot ea hb hy
  rw [ev]; exact FP.Core.roundRatio_ne_nan _ _ _ _ _
theorem own_div_e {a b : UInt64} {x y z : Int} (ha : own_Fin a x) (hb : own_Fin b y) (hy : 0 < y) (r : own_Rep z) (e : x * own_U = z * y) : own_Fin (FP.ddiv a b) z := by
  obtain ⟨w, h, h1, h2⟩ := own_div ha hb hy r r (Int.le_of_eq e.symm) (Int.le_of_eq e)
  exact h.cast (Int.le_antisymm h2 h1)
/-- quotients of one value are one double -/
theorem own_div_same {a b a' b' : UInt64} {x y x' y' : Int} (ha : own_Fin a x) (hb : own_Fin b y) (ha' : own_Fin a' x') (hb' : own_Fin b' y') (hx : 0 < x) (hx' : 0 < x') (hy : 0 < y) (hy' : 0 < y') (e : x * y' = x' * y) : FP.Core.val64 (FP.ddiv a b) = FP.Core.val64 (FP.ddiv a' b') := by
  obtain ⟨s, c, q, ea⟩ := id ha.1
  obtain ⟨d, r, eb, hd, ey, ev⟩ := own_quot ea hb hy
  obtain ⟨s', c', q', ea'⟩ := id ha'.1
  obtain ⟨d', r', eb', hd', ey', ev'⟩ := own_quot ea' hb' hy'
  have za := ha.2
  have za' := ha'.2
  have fa := FP.Core.val64_fits a
  have fb := FP.Core.val64_fits b
  have fa' := FP.Core.val64_fits a'
  have fb' := FP.Core.val64_fits b'
  rw [ea] at za fa
  rw [ea'] at za' fa'
  rw [eb] at fb
  rw [eb'] at fb'
  rw [own_zval_fin] at za za'
  obtain ⟨k1, k2⟩ := FP.Core.signed_pos (s := s) (m := FP.Core.inUnits c q FP.Core.b64.qmin) (by rw [za]; exact hx)
  obtain ⟨k1', k2'⟩ := FP.Core.signed_pos (s := s') (m := FP.Core.inUnits c' q' FP.Core.b64.qmin) (by rw [za']; exact hx')
  have hs : s = false := by
    cases s with
    | false => rfl
    | true => simp only [FP.Core.signed, if_true] at k1; omega
  have hs' : s' = false := by
    cases s' with
    | false => rfl
    | true => simp only [FP.Core.signed, if_true] at k1'; omega
  subst hs hs'
  rw [ev, ev']
  have E : FP.Core.inUnits c q FP.Core.b64.qmin * FP.Core.inUnits d' r' FP.Core.b64.qmin = FP.Core.inUnits c' q' FP.Core.b64.qmin * FP.Core.inUnits d r FP.Core.b64.qmin := by
    have h : ((FP.Core.inUnits c q FP.Core.b64.qmin * FP.Core.inUnits d' r' FP.Core.b64.qmin : Nat) : Int) = ((FP.Core.inUnits c' q' FP.Core.b64.qmin * FP.Core.inUnits d r FP.Core.b64.qmin : Nat) : Int) := by
      rw [Int.natCast_mul, Int.natCast_mul, ← k1, ← k1', za, za', ← ey, ← ey']; exact e
    exact Int.ofNat_inj.mp h
  have g1 := fa.2.1
  have g2 := fb.2.1
  have g3 := fa'.2.1
  have g4 := fb'.2.1
  generalize FP.Core.b64.qmin = m at *
  refine FP.Core.roundRatio_congr hd hd' ?_
  unfold FP.Core.inUnits at E
  generalize ha1 : (q - m).toNat = A1 at *
  generalize ha2 : (r - m).toNat = A2 at *
  generalize ha3 : (q' - m).toNat = A3 at *
  generalize ha4 : (r' - m).toNat = A4 at *
  have E' : c * d' * 2 ^ (A1 + A4) = c' * d * 2 ^ (A3 + A2) := by
    rw [Nat.pow_add, Nat.pow_add]
    calc c * d' * (2 ^ A1 * 2 ^ A4) = c * 2 ^ A1 * (d' * 2 ^ A4) := by simp only [Nat.mul_assoc, Nat.mul_left_comm, Nat.mul_comm]
      _ = c' * 2 ^ A3 * (d * 2 ^ A2) := E
      _ = c' * d * (2 ^ A3 * 2 ^ A2) := by simp only [Nat.mul_assoc, Nat.mul_left_comm, Nat.mul_comm]
  rcases Nat.le_total (A3 + A2) (A1 + A4) with h | h
  · rw [show (q - r - (q' - r')).toNat = (A1 + A4) - (A3 + A2) by omega, show (q' - r' - (q - r)).toNat = 0 by omega]
    have : 2 ^ (A1 + A4) = 2 ^ ((A1 + A4) - (A3 + A2)) * 2 ^ (A3 + A2) := by rw [← Nat.pow_add]; congr 1; omega
    rw [this, ← Nat.mul_assoc] at E'
    rw [Nat.pow_zero, Nat.mul_one]
    exact Nat.eq_of_mul_eq_mul_right (Nat.two_pow_pos _) E'
  · rw [show (q - r - (q' - r')).toNat = 0 by omega, show (q' - r' - (q - r)).toNat = (A3 + A2) - (A1 + A4) by omega]
    have : 2 ^ (A3 + A2) = 2 ^ ((A3 + A2) - (A1 + A4)) * 2 ^ (A1 + A4) := by rw [← Nat.pow_add]; congr 1; omega
    rw [this, ← Nat.mul_assoc] at E'
    rw [Nat.pow_zero, Nat.mul_one]
    exact Nat.eq_of_mul_eq_mul_right (Nat.two_pow_pos _) E'
theorem own_cmp {a b : UInt64} {x y : Int} (ha : own_Val a x) (hb : own_Val b y) (o : CmpOp) : cmpValue (FP.dcmp a b) o = if x < y then -1 else if x = y then 0 else 1 := by
  rw [show FP.dcmp a b = _ from FP.Core.dcmp_zval ha.1 hb.1, ha.2, hb.2, FP.Core.compare_ite]
  by_cases h1 : x < y
  · rw [if_pos h1, if_pos h1]; rfl
  · rw [if_neg h1, if_neg h1]
    by_cases h2 : x = y
    · rw [if_pos h2, if_pos h2]; rfl
    · rw [if_neg h2, if_neg h2]; rfl
theorem own_if {a b : UInt64} {x y : Int} (ha : own_Val a x) (hb : own_Val b y) (o : CmpOp) :
    (ifCond.holds .eq (cmpValue (FP.dcmp a b) o) = decide (x = y)) ∧ (ifCond.holds .ne (cmpValue (FP.dcmp a b) o) = decide (x ≠ y)) ∧ (ifCond.holds .lt (cmpValue (FP.dcmp a b) o) = decide (x < y)) ∧
    (ifCond.holds .ge (cmpValue (FP.dcmp a b) o) = decide (y ≤ x)) ∧ (ifCond.holds .gt (cmpValue (FP.dcmp a b) o) = decide (y < x)) ∧ (ifCond.holds .le (cmpValue (FP.dcmp a b) o) = decide (x ≤ y)) := by
  rw [own_cmp ha hb o]
  by_cases h1 : x < y
  · rw [if_pos h1]
    rw [decide_eq_false (show ¬ x = y by omega), decide_eq_true (show x ≠ y by omega), decide_eq_true h1, decide_eq_false (show ¬ y ≤ x by omega), decide_eq_false (show ¬ y < x by omega), decide_eq_true (show x ≤ y by omega)]
    decide
  · rw [if_neg h1]
    by_cases h2 : x = y
    · rw [if_pos h2]
      rw [decide_eq_true h2, decide_eq_false (show ¬ x ≠ y by omega), decide_eq_false h1, decide_eq_true (show y ≤ x by omega), decide_eq_false (show ¬ y < x by omega), decide_eq_true (show x ≤ y by omega)]
      decide
    · rw [if_neg h2]
      rw [decide_eq_false h2, decide_eq_true (show x ≠ y by omega), decide_eq_false h1, decide_eq_true (show y ≤ x by omega), decide_eq_true (show y < x by omega), decide_eq_false (show ¬ x ≤ y by omega)]
      decide
theorem own_of_dint {i : Int} {a : UInt64} (h : FP.Core.DInt i a) : own_Fin a (i * own_U) := by
  refine ⟨?_, FP.Core.DInt_zval h⟩
  have h' : FP.Core.Whole i (FP.Core.val64 a) := h
  cases hv : FP.Core.val64 a with
  | nan => rw [hv] at h'; exact h'.elim
  | inf s => rw [hv] at h'; exact h'.elim
  | fin s c q => exact ⟨s, c, q, hv⟩
theorem own_i2d (n : Int32) : own_Fin (FP.i2d n) (n.toInt * own_U) := own_of_dint (FP.Core.i2d_int n)
theorem own_l2d {n : Int64} (h : n.toInt.natAbs ≤ 9007199254740992) : own_Fin (FP.l2d n) (n.toInt * own_U) := own_of_dint (FP.Core.l2d_int h)
theorem own_signed_self (n : Int) : FP.Core.signed (decide (n < 0)) n.natAbs = n := by
  by_cases h : n < 0
  · rw [decide_eq_true h]; simp only [FP.Core.signed, if_true]; omega
  · rw [decide_eq_false h]; simp only [FP.Core.signed, Bool.false_eq_true, if_false]; omega
theorem own_rep (n : Int) (k : Nat) {P : Int} (hP : ((2 ^ k : Nat) : Int) = P) (hn : n.natAbs < 9007199254740992) (hk : k ≤ 2045) : own_Rep (n * P) := by
  have hmax : FP.Core.b64.qmax = 971 := by decide
  obtain ⟨c', q', h1, h2⟩ := FP.Core.round_exact FP.Core.good_b64 (decide (n < 0)) (c := n.natAbs) (q := (k : Int) - 1074) (show n.natAbs < 2 ^ 53 by omega) (by rw [FP.Core.qmin_b64]; omega) (by rw [hmax]; omega)
  refine ⟨decide (n < 0), c', q', ?_, ?_⟩
  · rw [← h1]; exact FP.Core.round_fits FP.Core.good_b64 _
  · rw [own_zval_fin, h2]
    unfold FP.Core.inUnits
    rw [show ((k : Int) - 1074 - FP.Core.b64.qmin).toNat = k by rw [FP.Core.qmin_b64]; omega, FP.Core.signed_mul, hP, own_signed_self]
theorem own_rep_U (n : Int) (hn : n.natAbs < 9007199254740992) : own_Rep (n * own_U) := own_rep n 1074 rfl hn (by decide)
/-! own text: ints, longs and branches in plain integers -/
theorem own_h_eq (x : Int32) : (ifCond.holds .eq x = true) ↔ x.toInt = 0 := by
  simp only [ifCond.holds, beq_iff_eq, ← Int32.toInt_inj, Int32.toInt_zero]
theorem own_h_ne (x : Int32) : (ifCond.holds .ne x = true) ↔ x.toInt ≠ 0 := by
  simp only [ifCond.holds, bne_iff_ne, ne_eq, ← Int32.toInt_inj, Int32.toInt_zero]
theorem own_h_lt (x : Int32) : (ifCond.holds .lt x = true) ↔ x.toInt < 0 := by
  simp only [ifCond.holds, decide_eq_true_eq, Int32.lt_iff_toInt_lt, Int32.toInt_zero]
theorem own_h_ge (x : Int32) : (ifCond.holds .ge x = true) ↔ 0 ≤ x.toInt := by
  simp only [ifCond.holds, decide_eq_true_eq, ge_iff_le, Int32.le_iff_toInt_le, Int32.toInt_zero]
theorem own_h_gt (x : Int32) : (ifCond.holds .gt x = true) ↔ 0 < x.toInt := by
  simp only [ifCond.holds, decide_eq_true_eq, gt_iff_lt, Int32.lt_iff_toInt_lt, Int32.toInt_zero]
theorem own_h_le (x : Int32) : (ifCond.holds .le x = true) ↔ x.toInt ≤ 0 := by
  simp only [ifCond.holds, decide_eq_true_eq, Int32.le_iff_toInt_le, Int32.toInt_zero]
theorem own_c_eq (x y : Int32) : (if_icmp.holds .eq x y = true) ↔ x.toInt = y.toInt := by
  simp only [if_icmp.holds, beq_iff_eq, ← Int32.toInt_inj]
theorem own_c_ne (x y : Int32) : (if_icmp.holds .ne x y = true) ↔ x.toInt ≠ y.toInt := by
  simp only [if_icmp.holds, bne_iff_ne, ne_eq, ← Int32.toInt_inj]
theorem own_c_lt (x y : Int32) : (if_icmp.holds .lt x y = true) ↔ x.toInt < y.toInt := by
  simp only [if_icmp.holds, decide_eq_true_eq, Int32.lt_iff_toInt_lt]
theorem own_c_ge (x y : Int32) : (if_icmp.holds .ge x y = true) ↔ y.toInt ≤ x.toInt := by
  simp only [if_icmp.holds, decide_eq_true_eq, ge_iff_le, Int32.le_iff_toInt_le]
theorem own_c_gt (x y : Int32) : (if_icmp.holds .gt x y = true) ↔ y.toInt < x.toInt := by
  simp only [if_icmp.holds, decide_eq_true_eq, gt_iff_lt, Int32.lt_iff_toInt_lt]
theorem own_c_le (x y : Int32) : (if_icmp.holds .le x y = true) ↔ x.toInt ≤ y.toInt := by
  simp only [if_icmp.holds, decide_eq_true_eq, Int32.le_iff_toInt_le]
theorem own_L (x y : Int64) : (XT.cmpL x y).toInt = if y.toInt < x.toInt then 1 else if x.toInt = y.toInt then 0 else -1 := by
  unfold XT.cmpL
  simp only [Int64.lt_iff_toInt_lt, ← Int64.toInt_inj]
  split
  · rfl
  · split <;> rfl
theorem own_f_of {b : Bool} {p : Prop} (h : (b = true) ↔ p) (hp : ¬ p) : b = false := Bool.eq_false_iff.mpr fun q => hp (h.mp q)
theorem own_irem (x y : Int32) : (x - x / y * y).toInt = x.toInt.tmod y.toInt := by
  have a := (x % y).toInt_lt; have b := (x % y).le_toInt
  rw [Int32.toInt_mod] at a b
  rw [Int32.toInt_sub, Int32.toInt_mul, Int32.toInt_div, Int.bmod_mul_bmod, Int.sub_bmod_bmod, Int.mul_comm, ← Int.tmod_def]
  exact Jvm.Kit.bmod32 b a
theorem own_irem_nn {x y : Int32} (hx : 0 ≤ x.toInt) : (x - x / y * y).toInt = x.toInt % y.toInt := by rw [own_irem, Int.tmod_eq_emod_of_nonneg hx]
theorem own_ne0 {y : Int32} (h : y.toInt ≠ 0) : y ≠ 0 := fun q => h (by rw [q]; rfl)
theorem own_ne0L {y : Int64} (h : y.toInt ≠ 0) : y ≠ 0 := fun q => h (by rw [q]; rfl)
theorem own_mask31 (x : Int32) : 0 ≤ (x &&& 2147483647).toInt ∧ (x &&& 2147483647).toInt < 2147483648 := by
  rw [Jvm.Kit.i32_mask x 2147483647 (k := 31) (by decide) (by decide)]
  omega
def bt_res (d1 : UInt64) (d2 : UInt64) (d3 : UInt64) (d4 : UInt64) : Int32 := (if (ifCond.holds .le (cmpValue (FP.dcmp d1 (FP.dadd d3 (4472406533629990549 : UInt64))) .l)) = true then (if (ifCond.holds .lt (cmpValue (FP.dcmp d1 (FP.dsub d3 (4472406533629990549 : UInt64))) .l)) = true then (0 : Int32) else (if (ifCond.holds .ge (cmpValue (FP.dcmp d2 (FP.dsub d4 (4472406533629990549 : UInt64))) .g)) = true then (0 : Int32) else (1 : Int32))) else (1 : Int32))
def lw_fine0 (p1 : Int32) (p2 : Int32) (p3 : Int32) (p4 : Int32) (p5 : Int32) : Int32 := (if (ifCond.holds .eq (p5 &&& (1 : Int32))) = true then (0 : Int32) else (1 : Int32))
def lw_fine (p1 : Int32) (p2 : Int32) (p3 : Int32) (p4 : Int32) (p5 : Int32) : Int32 := (lw_fine0 p1 p2 p3 p4 p5)
def lw_scale0 (p1 : Int32) (p2 : Int32) (p3 : Int32) (p4 : Int32) (p5 : Int32) : UInt64 := (if (ifCond.holds .eq (lw_fine p1 p2 p3 p4 p5)) = true then (4607182418800017408 : UInt64) else (4746794007248502784 : UInt64))
def lw_scale (p1 : Int32) (p2 : Int32) (p3 : Int32) (p4 : Int32) (p5 : Int32) : UInt64 := (lw_scale0 p1 p2 p3 p4 p5)
def lw_qu (p1 : Int32) (p2 : Int32) (p3 : Int32) (p4 : Int32) (p5 : Int32) : UInt64 := (FP.ddiv (FP.i2d p1) (lw_scale p1 p2 p3 p4 p5))
def lw_pay (p1 : Int32) (p2 : Int32) (p3 : Int32) (p4 : Int32) (p5 : Int32) : UInt64 := (FP.ddiv (FP.i2d p2) (lw_scale p1 p2 p3 p4 p5))
def lw_oq (p1 : Int32) (p2 : Int32) (p3 : Int32) (p4 : Int32) (p5 : Int32) : UInt64 := (FP.ddiv (FP.i2d p3) (lw_scale p1 p2 p3 p4 p5))
def lw_op (p1 : Int32) (p2 : Int32) (p3 : Int32) (p4 : Int32) (p5 : Int32) : UInt64 := (FP.ddiv (FP.i2d p4) (lw_scale p1 p2 p3 p4 p5))
def lw_dq (p1 : Int32) (p2 : Int32) (p3 : Int32) (p4 : Int32) (p5 : Int32) : Int64 := ((Int32.toInt64 p1) - (Int32.toInt64 p3))
def lw_dp (p1 : Int32) (p2 : Int32) (p3 : Int32) (p4 : Int32) (p5 : Int32) : Int64 := ((Int32.toInt64 p4) - (Int32.toInt64 p2))
def lw_exp (p1 : Int32) (p2 : Int32) (p3 : Int32) (p4 : Int32) (p5 : Int32) : Int32 := (if (ifCond.holds .eq (lw_fine p1 p2 p3 p4 p5)) = true then (if (ifCond.holds .ge (XT.cmpL (lw_dq p1 p2 p3 p4 p5) (1 : Int64))) = true then (1 : Int32) else (if (ifCond.holds .lt (XT.cmpL (lw_dq p1 p2 p3 p4 p5) (0 : Int64))) = true then (0 : Int32) else (if (ifCond.holds .lt (XT.cmpL (lw_dp p1 p2 p3 p4 p5) (1 : Int64))) = true then (0 : Int32) else (1 : Int32)))) else (if (ifCond.holds .ge (XT.cmpL (lw_dq p1 p2 p3 p4 p5) (3 : Int64))) = true then (1 : Int32) else (if (ifCond.holds .lt (XT.cmpL (lw_dq p1 p2 p3 p4 p5) (-2 : Int64))) = true then (0 : Int32) else (if (ifCond.holds .lt (XT.cmpL (lw_dp p1 p2 p3 p4 p5) (3 : Int64))) = true then (0 : Int32) else (1 : Int32)))))
theorem own_tol : own_Fin (4472406533629990549 : UInt64) (202402253307310630958429797338909007118654887438383018996238090107053349717187790937094580828928127346018317182181246190777753423606597805273214056713677846082549465271899866650152119518456946835629723997780272869151252344290666936652815470740718031602060880577856668406250649933206020350981569833682408148127711232) := ⟨(FP.Core.fin_bits _).mpr (by decide), by decide +kernel⟩
theorem own_big : own_Fin (4746794007248502784 : UInt64) (434655529295803471768752457074965369153118031018158255919526294312900189681357391590572546662641938953554504414523116271201239217383517759076977546969620119100344431981004490617051652613269783384538789136839141648409549944708158609707369153030498572184824311434246367523036288130211715938692732013989877070958884766361297687813292032) := ⟨(FP.Core.fin_bits _).mpr (by decide), by decide +kernel⟩
theorem own_one : own_Fin (4607182418800017408 : UInt64) (202402253307310618352495346718917307049556649764142118356901358027430339567995346891960383701437124495187077864316811911389808737385793476867013399940738509921517424276566361364466907742093216341239767678472745068562007483424692698618103355649159556340810056512358769552333414615230502532186327508646006263307707741093494784) := ⟨(FP.Core.fin_bits _).mpr (by decide), by decide +kernel⟩

def own_k (p1 p2 p3 p4 p5 : Int32) : Int := if p5.toInt % 2 = 0 then 202402253307310618352495346718917307049556649764142118356901358027430339567995346891960383701437124495187077864316811911389808737385793476867013399940738509921517424276566361364466907742093216341239767678472745068562007483424692698618103355649159556340810056512358769552333414615230502532186327508646006263307707741093494784 else 94250893829069388263158195986839619953910191433570402840572110390025349132714488958921462158410402245441022265850013080700211570312172862173529993715108609721771173307935875544541938110298112193699817954782743504532616344943965179202194956899229230517898712545800381131625461678593653502029519299346025224452702208
theorem own_fine (p1 p2 p3 p4 p5 : Int32) : (lw_fine p1 p2 p3 p4 p5).toInt = p5.toInt % 2 := by
  have h := Jvm.Kit.i32_mask p5 1 (k := 1) (by decide) (by decide)
  show (lw_fine0 p1 p2 p3 p4 p5).toInt = _
  unfold lw_fine0
  by_cases c : ifCond.holds .eq (p5 &&& 1) = true
  · rw [if_pos c]; rw [own_h_eq, h] at c; rw [show (2 : Int) ^ 1 = 2 from rfl] at c; rw [c]; rfl
  · rw [if_neg c]; rw [own_h_eq, h] at c; rw [show (2 : Int) ^ 1 = 2 from rfl] at c; show (1 : Int) = _; omega
theorem own_scale (p1 p2 p3 p4 p5 : Int32) : (p5.toInt % 2 = 0 ∧ lw_scale p1 p2 p3 p4 p5 = 4607182418800017408) ∨ (p5.toInt % 2 = 1 ∧ lw_scale p1 p2 p3 p4 p5 = 4746794007248502784) := by
  have h := own_fine p1 p2 p3 p4 p5
  show (_ ∧ lw_scale0 p1 p2 p3 p4 p5 = _) ∨ (_ ∧ lw_scale0 p1 p2 p3 p4 p5 = _)
  unfold lw_scale0
  by_cases c : ifCond.holds .eq (lw_fine p1 p2 p3 p4 p5) = true
  · rw [if_pos c]; rw [own_h_eq, h] at c; exact Or.inl ⟨c, rfl⟩
  · rw [if_neg c]; rw [own_h_eq, h] at c; exact Or.inr ⟨by omega, rfl⟩
/-- an int over the scale, exactly -/
theorem own_q (n : Int32) (p1 p2 p3 p4 p5 : Int32) : own_Fin (FP.ddiv (FP.i2d n) (lw_scale p1 p2 p3 p4 p5)) (n.toInt * own_k p1 p2 p3 p4 p5) := by
  have a := n.toInt_lt
  have b := n.le_toInt
  rcases own_scale p1 p2 p3 p4 p5 with ⟨h, e⟩ | ⟨h, e⟩
  · rw [e]
    have r : own_Rep (n.toInt * own_k p1 p2 p3 p4 p5) := by unfold own_k; rw [if_pos h]; exact own_rep _ 1074 (by decide +kernel) (by omega) (by decide)
    refine own_div_e (own_i2d n) own_one (by omega) r ?_
    unfold own_k; rw [if_pos h, own_U_lit] <;> omega
  · rw [e]
    have r : own_Rep (n.toInt * own_k p1 p2 p3 p4 p5) := by unfold own_k; rw [if_neg (by omega)]; exact own_rep _ 1043 (by decide +kernel) (by omega) (by decide)
    refine own_div_e (own_i2d n) own_big (by omega) r ?_
    unfold own_k; rw [if_neg (by omega), own_U_lit] <;> omega
theorem own_up (n : Int32) (p1 p2 p3 p4 p5 : Int32) : ∃ z, own_Fin (FP.dadd (FP.ddiv (FP.i2d n) (lw_scale p1 p2 p3 p4 p5)) 4472406533629990549) z ∧
    (p5.toInt % 2 = 0 → n.toInt * 202402253307310618352495346718917307049556649764142118356901358027430339567995346891960383701437124495187077864316811911389808737385793476867013399940738509921517424276566361364466907742093216341239767678472745068562007483424692698618103355649159556340810056512358769552333414615230502532186327508646006263307707741093494784 ≤ z ∧ z ≤ (2 * n.toInt + 1) * 101201126653655309176247673359458653524778324882071059178450679013715169783997673445980191850718562247593538932158405955694904368692896738433506699970369254960758712138283180682233453871046608170619883839236372534281003741712346349309051677824579778170405028256179384776166707307615251266093163754323003131653853870546747392) ∧ (p5.toInt % 2 = 1 → (n.toInt + 2) * 94250893829069388263158195986839619953910191433570402840572110390025349132714488958921462158410402245441022265850013080700211570312172862173529993715108609721771173307935875544541938110298112193699817954782743504532616344943965179202194956899229230517898712545800381131625461678593653502029519299346025224452702208 ≤ z ∧ z ≤ (2 * n.toInt + 5) * 47125446914534694131579097993419809976955095716785201420286055195012674566357244479460731079205201122720511132925006540350105785156086431086764996857554304860885586653967937772270969055149056096849908977391371752266308172471982589601097478449614615258949356272900190565812730839296826751014759649673012612226351104) := by
  have a := n.toInt_lt
  have b := n.le_toInt
  have hq := own_q n p1 p2 p3 p4 p5
  rcases own_scale p1 p2 p3 p4 p5 with ⟨h, e⟩ | ⟨h, e⟩
  · unfold own_k at hq; rw [if_pos h] at hq
    obtain ⟨z, h1, h2, h3⟩ := own_add hq own_tol (own_rep n.toInt 1074 (P := 202402253307310618352495346718917307049556649764142118356901358027430339567995346891960383701437124495187077864316811911389808737385793476867013399940738509921517424276566361364466907742093216341239767678472745068562007483424692698618103355649159556340810056512358769552333414615230502532186327508646006263307707741093494784) (by decide +kernel) (by omega) (by decide)) (own_rep (2 * n.toInt + 1) 1073 (P := 101201126653655309176247673359458653524778324882071059178450679013715169783997673445980191850718562247593538932158405955694904368692896738433506699970369254960758712138283180682233453871046608170619883839236372534281003741712346349309051677824579778170405028256179384776166707307615251266093163754323003131653853870546747392) (by decide +kernel) (by omega) (by decide)) (by omega) (by omega)
    exact ⟨z, h1, fun _ => ⟨h2, h3⟩, fun q => by omega⟩
  · unfold own_k at hq; rw [if_neg (by omega)] at hq
    obtain ⟨z, h1, h2, h3⟩ := own_add hq own_tol (own_rep (n.toInt + 2) 1043 (P := 94250893829069388263158195986839619953910191433570402840572110390025349132714488958921462158410402245441022265850013080700211570312172862173529993715108609721771173307935875544541938110298112193699817954782743504532616344943965179202194956899229230517898712545800381131625461678593653502029519299346025224452702208) (by decide +kernel) (by omega) (by decide)) (own_rep (2 * n.toInt + 5) 1042 (P := 47125446914534694131579097993419809976955095716785201420286055195012674566357244479460731079205201122720511132925006540350105785156086431086764996857554304860885586653967937772270969055149056096849908977391371752266308172471982589601097478449614615258949356272900190565812730839296826751014759649673012612226351104) (by decide +kernel) (by omega) (by decide)) (by omega) (by omega)
    exact ⟨z, h1, fun q => by omega, fun _ => ⟨h2, h3⟩⟩
theorem own_down (n : Int32) (p1 p2 p3 p4 p5 : Int32) : ∃ z, own_Fin (FP.dsub (FP.ddiv (FP.i2d n) (lw_scale p1 p2 p3 p4 p5)) 4472406533629990549) z ∧
    (p5.toInt % 2 = 0 → (2 * n.toInt - 1) * 101201126653655309176247673359458653524778324882071059178450679013715169783997673445980191850718562247593538932158405955694904368692896738433506699970369254960758712138283180682233453871046608170619883839236372534281003741712346349309051677824579778170405028256179384776166707307615251266093163754323003131653853870546747392 ≤ z ∧ z ≤ n.toInt * 202402253307310618352495346718917307049556649764142118356901358027430339567995346891960383701437124495187077864316811911389808737385793476867013399940738509921517424276566361364466907742093216341239767678472745068562007483424692698618103355649159556340810056512358769552333414615230502532186327508646006263307707741093494784) ∧ (p5.toInt % 2 = 1 → (2 * n.toInt - 5) * 47125446914534694131579097993419809976955095716785201420286055195012674566357244479460731079205201122720511132925006540350105785156086431086764996857554304860885586653967937772270969055149056096849908977391371752266308172471982589601097478449614615258949356272900190565812730839296826751014759649673012612226351104 ≤ z ∧ z ≤ (n.toInt - 2) * 94250893829069388263158195986839619953910191433570402840572110390025349132714488958921462158410402245441022265850013080700211570312172862173529993715108609721771173307935875544541938110298112193699817954782743504532616344943965179202194956899229230517898712545800381131625461678593653502029519299346025224452702208) := by
  have a := n.toInt_lt
  have b := n.le_toInt
  have hq := own_q n p1 p2 p3 p4 p5
  rcases own_scale p1 p2 p3 p4 p5 with ⟨h, e⟩ | ⟨h, e⟩
  · unfold own_k at hq; rw [if_pos h] at hq
    obtain ⟨z, h1, h2, h3⟩ := own_sub hq own_tol (own_rep (2 * n.toInt - 1) 1073 (P := 101201126653655309176247673359458653524778324882071059178450679013715169783997673445980191850718562247593538932158405955694904368692896738433506699970369254960758712138283180682233453871046608170619883839236372534281003741712346349309051677824579778170405028256179384776166707307615251266093163754323003131653853870546747392) (by decide +kernel) (by omega) (by decide)) (own_rep n.toInt 1074 (P := 202402253307310618352495346718917307049556649764142118356901358027430339567995346891960383701437124495187077864316811911389808737385793476867013399940738509921517424276566361364466907742093216341239767678472745068562007483424692698618103355649159556340810056512358769552333414615230502532186327508646006263307707741093494784) (by decide +kernel) (by omega) (by decide)) (by omega) (by omega)
    exact ⟨z, h1, fun _ => ⟨h2, h3⟩, fun q => by omega⟩
  · unfold own_k at hq; rw [if_neg (by omega)] at hq
    obtain ⟨z, h1, h2, h3⟩ := own_sub hq own_tol (own_rep (2 * n.toInt - 5) 1042 (P := 47125446914534694131579097993419809976955095716785201420286055195012674566357244479460731079205201122720511132925006540350105785156086431086764996857554304860885586653967937772270969055149056096849908977391371752266308172471982589601097478449614615258949356272900190565812730839296826751014759649673012612226351104) (by decide +kernel) (by omega) (by decide)) (own_rep (n.toInt - 2) 1043 (P := 94250893829069388263158195986839619953910191433570402840572110390025349132714488958921462158410402245441022265850013080700211570312172862173529993715108609721771173307935875544541938110298112193699817954782743504532616344943965179202194956899229230517898712545800381131625461678593653502029519299346025224452702208) (by decide +kernel) (by omega) (by decide)) (by omega) (by omega)
    exact ⟨z, h1, fun q => by omega, fun _ => ⟨h2, h3⟩⟩
theorem own_t1 (p1 p2 p3 p4 p5 : Int32) : Jvm.Free.Fl.NoNaN64 (FP.dadd (lw_oq p1 p2 p3 p4 p5) 4472406533629990549) := by
  obtain ⟨z, h, -⟩ := own_up p3 p1 p2 p3 p4 p5; exact h.nn
theorem own_t2 (p1 p2 p3 p4 p5 : Int32) : Jvm.Free.Fl.NoNaN64 (FP.dsub (lw_oq p1 p2 p3 p4 p5) 4472406533629990549) := by
  obtain ⟨z, h, -⟩ := own_down p3 p1 p2 p3 p4 p5; exact h.nn
theorem own_t3 (p1 p2 p3 p4 p5 : Int32) : Jvm.Free.Fl.NoNaN64 (FP.dsub (lw_op p1 p2 p3 p4 p5) 4472406533629990549) := by
  obtain ⟨z, h, -⟩ := own_down p4 p1 p2 p3 p4 p5; exact h.nn
theorem own_dq (p1 p2 p3 p4 p5 : Int32) : (lw_dq p1 p2 p3 p4 p5).toInt = p1.toInt - p3.toInt ∧ (lw_dp p1 p2 p3 p4 p5).toInt = p4.toInt - p2.toInt := by
  have a1 := p1.toInt_lt; have b1 := p1.le_toInt
  have a2 := p2.toInt_lt; have b2 := p2.le_toInt
  have a3 := p3.toInt_lt; have b3 := p3.le_toInt
  have a4 := p4.toInt_lt; have b4 := p4.le_toInt
  constructor
  · show (p1.toInt64 - p3.toInt64).toInt = _
    rw [Jvm.Kit.i64_sub (by rw [Jvm.Kit.i64_of_i32, Jvm.Kit.i64_of_i32]; omega) (by rw [Jvm.Kit.i64_of_i32, Jvm.Kit.i64_of_i32]; omega), Jvm.Kit.i64_of_i32, Jvm.Kit.i64_of_i32]
  · show (p4.toInt64 - p2.toInt64).toInt = _
    rw [Jvm.Kit.i64_sub (by rw [Jvm.Kit.i64_of_i32, Jvm.Kit.i64_of_i32]; omega) (by rw [Jvm.Kit.i64_of_i32, Jvm.Kit.i64_of_i32]; omega), Jvm.Kit.i64_of_i32, Jvm.Kit.i64_of_i32]
theorem own_exp (p1 p2 p3 p4 p5 : Int32) : lw_exp p1 p2 p3 p4 p5 = if (p5.toInt % 2 = 1 ∧ (3 ≤ p1.toInt - p3.toInt ∨ (-2 ≤ p1.toInt - p3.toInt ∧ 3 ≤ p4.toInt - p2.toInt))) ∨ (p5.toInt % 2 = 0 ∧ (1 ≤ p1.toInt - p3.toInt ∨ (0 ≤ p1.toInt - p3.toInt ∧ 1 ≤ p4.toInt - p2.toInt))) then 1 else 0 := by
  obtain ⟨e1, e2⟩ := own_dq p1 p2 p3 p4 p5
  have hf := own_fine p1 p2 p3 p4 p5
  unfold lw_exp
  simp only [own_h_eq, own_h_ge, own_h_lt, own_L, e1, e2, hf, show (3 : Int64).toInt = 3 from rfl, show (-2 : Int64).toInt = -2 from rfl, show (1 : Int64).toInt = 1 from rfl, show (0 : Int64).toInt = 0 from rfl]
  repeat' split
  all_goals first | rfl | (exfalso; omega)
theorem own_res (p1 p2 p3 p4 p5 : Int32) : bt_res (lw_qu p1 p2 p3 p4 p5) (lw_pay p1 p2 p3 p4 p5) (lw_oq p1 p2 p3 p4 p5) (lw_op p1 p2 p3 p4 p5) = if (p5.toInt % 2 = 1 ∧ (3 ≤ p1.toInt - p3.toInt ∨ (-2 ≤ p1.toInt - p3.toInt ∧ 3 ≤ p4.toInt - p2.toInt))) ∨ (p5.toInt % 2 = 0 ∧ (1 ≤ p1.toInt - p3.toInt ∨ (0 ≤ p1.toInt - p3.toInt ∧ 1 ≤ p4.toInt - p2.toInt))) then 1 else 0 := by
  obtain ⟨z1, h1, u1, v1⟩ := own_up p3 p1 p2 p3 p4 p5
  obtain ⟨z2, h2, u2, v2⟩ := own_down p3 p1 p2 p3 p4 p5
  obtain ⟨z3, h3, u3, v3⟩ := own_down p4 p1 p2 p3 p4 p5
  have c1 := (own_if (own_q p1 p1 p2 p3 p4 p5).v h1.v .l).2.2.2.2.2
  have c2 := (own_if (own_q p1 p1 p2 p3 p4 p5).v h2.v .l).2.2.1
  have c3 := (own_if (own_q p2 p1 p2 p3 p4 p5).v h3.v .g).2.2.2.1
  unfold bt_res
  show (if ifCond.holds .le (cmpValue (FP.dcmp (FP.ddiv (FP.i2d p1) (lw_scale p1 p2 p3 p4 p5)) (FP.dadd (FP.ddiv (FP.i2d p3) (lw_scale p1 p2 p3 p4 p5)) 4472406533629990549)) .l) = true then (if ifCond.holds .lt (cmpValue (FP.dcmp (FP.ddiv (FP.i2d p1) (lw_scale p1 p2 p3 p4 p5)) (FP.dsub (FP.ddiv (FP.i2d p3) (lw_scale p1 p2 p3 p4 p5)) 4472406533629990549)) .l) = true then (0 : Int32) else (if ifCond.holds .ge (cmpValue (FP.dcmp (FP.ddiv (FP.i2d p2) (lw_scale p1 p2 p3 p4 p5)) (FP.dsub (FP.ddiv (FP.i2d p4) (lw_scale p1 p2 p3 p4 p5)) 4472406533629990549)) .g) = true then 0 else 1)) else 1) = _
  rw [c1, c2, c3]
  simp only [decide_eq_true_eq]
  unfold own_k
  rcases Int.emod_two_eq p5.toInt with h | h
  · have u1 := u1 h; have u2 := u2 h; have u3 := u3 h
    simp only [if_pos h]
    clear v1 v2 v3 c1 c2 c3 h1 h2 h3
    repeat' split
    all_goals first | rfl | (exfalso; omega)
  · have u1 := v1 h; have u2 := v2 h; have u3 := v3 h
    simp only [if_neg (show ¬ p5.toInt % 2 = 0 by omega)]
    clear v1 v2 v3 c1 c2 c3 h1 h2 h3
    repeat' split
    all_goals first | rfl | (exfalso; omega)
theorem own_same (p1 p2 p3 p4 p5 : Int32) : if_icmp.holds .ne (bt_res (lw_qu p1 p2 p3 p4 p5) (lw_pay p1 p2 p3 p4 p5) (lw_oq p1 p2 p3 p4 p5) (lw_op p1 p2 p3 p4 p5)) (lw_exp p1 p2 p3 p4 p5) = false := by
  refine own_f_of (own_c_ne _ _) ?_
  rw [own_res, own_exp]
  exact fun h => h rfl
theorem d1_0 : decode prog_32_method_10_code 0 = .ok (.dload_n 0, 1) := by decide +kernel
theorem d1_1 : decode prog_32_method_10_code 1 = .ok (.dload 4, 2) := by decide +kernel
theorem d1_3 : decode prog_32_method_10_code 3 = .ok (.ldc2_w 130, 3) := by decide +kernel
theorem d1_6 : decode prog_32_method_10_code 6 = .ok (.dadd, 1) := by decide +kernel
theorem d1_7 : decode prog_32_method_10_code 7 = .ok (.dcmp .l, 1) := by decide +kernel
theorem d1_8 : decode prog_32_method_10_code 8 = .ok (.ifCond .le 5, 3) := by decide +kernel
theorem d1_11 : decode prog_32_method_10_code 11 = .ok (.iconst 1, 1) := by decide +kernel
theorem d1_12 : decode prog_32_method_10_code 12 = .ok (.ireturn, 1) := by decide +kernel
theorem d1_13 : decode prog_32_method_10_code 13 = .ok (.dload_n 0, 1) := by decide +kernel
theorem d1_14 : decode prog_32_method_10_code 14 = .ok (.dload 4, 2) := by decide +kernel
theorem d1_16 : decode prog_32_method_10_code 16 = .ok (.ldc2_w 130, 3) := by decide +kernel
theorem d1_19 : decode prog_32_method_10_code 19 = .ok (.dsub, 1) := by decide +kernel
theorem d1_20 : decode prog_32_method_10_code 20 = .ok (.dcmp .l, 1) := by decide +kernel
theorem d1_21 : decode prog_32_method_10_code 21 = .ok (.ifCond .lt 18, 3) := by decide +kernel
theorem d1_24 : decode prog_32_method_10_code 24 = .ok (.dload_n 2, 1) := by decide +kernel
theorem d1_25 : decode prog_32_method_10_code 25 = .ok (.dload 6, 2) := by decide +kernel
theorem d1_27 : decode prog_32_method_10_code 27 = .ok (.ldc2_w 130, 3) := by decide +kernel
theorem d1_30 : decode prog_32_method_10_code 30 = .ok (.dsub, 1) := by decide +kernel
theorem d1_31 : decode prog_32_method_10_code 31 = .ok (.dcmp .g, 1) := by decide +kernel
theorem d1_32 : decode prog_32_method_10_code 32 = .ok (.ifCond .ge 7, 3) := by decide +kernel
theorem d1_35 : decode prog_32_method_10_code 35 = .ok (.iconst 1, 1) := by decide +kernel
theorem d1_36 : decode prog_32_method_10_code 36 = .ok (.goto 4, 3) := by decide +kernel
theorem d1_39 : decode prog_32_method_10_code 39 = .ok (.iconst 0, 1) := by decide +kernel
theorem d1_40 : decode prog_32_method_10_code 40 = .ok (.ireturn, 1) := by decide +kernel
theorem pn_0 : plainName "com/example/muster/muster/plan/Candidates" = true := by first | (simp [plainName, overriddenIn]; done) | decide +kernel
theorem pn_1 : plainName "com/example/muster/muster/plan/CandidatesBetterPinLaw" = true := by first | (simp [plainName, overriddenIn]; done) | decide +kernel
theorem pd_0 : parseMethodDescriptor "(DDDD)Z" = some ⟨[.double, .double, .double, .double], some .boolean⟩ := by decide +kernel
theorem ef_bt (m : MethodId) (d1 : UInt64) (d2 : UInt64) (d3 : UInt64) (d4 : UInt64) : entryFrame m #[(.double d1), (.double d2), (.double d3), (.double d4)] 8 = (mkF m 0 #[.val (.double d1), .second, .val (.double d2), .second, .val (.double d3), .second, .val (.double d4), .second] []) := by first | (simp [entryFrame, mkF, argsToLocals, Value.category]; done) | rfl
def Q_bt (Z : State) (d1 : UInt64) (d2 : UInt64) (d3 : UInt64) (d4 : UInt64)  (h0 : Heap) (n0 : Nat) (v : Option Value) (h : Heap) (L : List Loc) : Prop := v = some (.int (bt_res d1 d2 d3 d4)) ∧ Fr n0 L ∧ h = h0
set_option maxRecDepth 65536 in
set_option maxHeartbeats 40000000 in
theorem rm_bt (l : Launch) (Z : State) (a0 : Array Value) (hw : ∀ d ∈ tables_1, d.before a0 Z = true) (ws : List Jvm.Cond) (d1 : UInt64) (d2 : UInt64) (d3 : UInt64) (d4 : UInt64)  (h0 : Heap) (n0 : Nat) (Z0 : n0 ≤ h0.size)   (nn6 : Jvm.Free.Fl.NoNaN64 (FP.dadd d3 (4472406533629990549 : UInt64))) (nn19 : Jvm.Free.Fl.NoNaN64 (FP.dsub d3 (4472406533629990549 : UInt64))) (nn30 : Jvm.Free.Fl.NoNaN64 (FP.dsub d4 (4472406533629990549 : UInt64))) :
    MetFree l (⟨"com/example/muster/muster/plan/Candidates", "better", "(DDDD)Z"⟩ : MethodName) (head1 (Jvm.Cond.code (⟨"com/example/muster/muster/plan/Candidates", "better", "(DDDD)Z"⟩ : MethodName) prog_32_method_10_code 8 (some .boolean) :: ws) ({ frames := 0, cells := 0, slots := 0, locals := 0 } : Room)) (fun a U => a = #[(.double d1), (.double d2), (.double d3), (.double d4)] ∧ Z.Warmed39 U.vm ∧ U.heap = h0) (fun _ _ _ _ _ => True) (fun _ U o U' => ∃ v L, o = .returned v ∧ Q_bt Z d1 d2 d3 d4  h0 n0 v U'.heap L ∧ FrameEnd U o U' L ({ frames := 0, cells := 0, slots := 0, locals := 0 } : Room).cells ({ frames := 0, cells := 0, slots := 0, locals := 0 } : Room).slots) := by
  refine MetFree.of_bodySF (plainFor_of_name pn_0) hisR ?_
  intro p e s m args below meth c s₁ Bd hml0 hP hK
  obtain ⟨rfl, hZ, hh⟩ := hP
  have hx := Bd.exec
  have hby := Bd.bytes
  have hml : c.maxLocals = 8 := hml0
  have hown : s.vm.findClass "com/example/muster/muster/plan/Candidates" = some m.cls := findClass_of_methodNamed Bd.named
  have hnm := (name_of_methodNamed Bd.named Bd.method).1
  have X0 : Stand p l e ({ frames := 0, cells := 0, slots := 0, locals := 0 } : Room) s m #[(.double d1), (.double d2), (.double d3), (.double d4)] below meth c s₁ [] 0 0 := Stand.of_body Bd
  have e0 : s₁.heap = h0 := by rw [← hh, Bd.state]; rfl
  have N0 := Fr.nil n0
  have pre0 : ∀ t, Steps p.tables e below (s₁.setTop (mkF m 0 #[.val (.double d1), .second, .val (.double d2), .second, .val (.double d3), .second, .val (.double d4), .second] [])) t → Steps p.tables e below (s₁.setTop (entryFrame m #[(.double d1), (.double d2), (.double d3), (.double d4)] 8)) t := fun t k => castTop (ef_bt m d1 d2 d3 d4) k
  obtain ⟨fs, hr, hrun, hended, hW, hsame⟩ := X0.leave (v := some (.int (bt_res d1 d2 d3 d4))) (fun h => by rw [Bd.returns] at h; cases h)
  refine ⟨_, _, pre0 _ ?_, hrun, hended, _, _, rfl, ?_, ⟨_, rfl⟩, hW, hsame.mono (Nat.le_of_ble_eq_true rfl) (Nat.le_of_ble_eq_true rfl)⟩
  · show Steps p.tables e below (s₁.setTop (mkF m 0 #[.val (.double d1), .second, .val (.double d2), .second, .val (.double d3), .second, .val (.double d4), .second] [])) _
    refine XS.dloadN X0.here hx rfl (hb hby d1_0) rfl ?_
    show Steps p.tables e below (s₁.setTop (mkF m 1 #[.val (.double d1), .second, .val (.double d2), .second, .val (.double d3), .second, .val (.double d4), .second] [(.double d1)])) _
    refine XS.dload X0.here hx rfl (hb hby d1_1) rfl ?_
    show Steps p.tables e below (s₁.setTop (mkF m 3 #[.val (.double d1), .second, .val (.double d2), .second, .val (.double d3), .second, .val (.double d4), .second] [(.double d3), (.double d1)])) _
    refine X0.ldc2DoubleC hx hown (mvT hZ (hw _ (List.mem_of_getElem? (i := 4) rfl))) (g := (mkF m 3 #[.val (.double d1), .second, .val (.double d2), .second, .val (.double d3), .second, .val (.double d4), .second] [(.double d3), (.double d1)])) rfl (hb hby d1_3) _ ?_
    show Steps p.tables e below (s₁.setTop (mkF m 6 #[.val (.double d1), .second, .val (.double d2), .second, .val (.double d3), .second, .val (.double d4), .second] [(.double (4472406533629990549 : UInt64)), (.double d3), (.double d1)])) _
    refine XS.daddS X0.here hx rfl (hb hby d1_6) rfl nn6 rfl ?_
    show Steps p.tables e below (s₁.setTop (mkF m 7 #[.val (.double d1), .second, .val (.double d2), .second, .val (.double d3), .second, .val (.double d4), .second] [(.double (FP.dadd d3 (4472406533629990549 : UInt64))), (.double d1)])) _
    refine XS.dcmpS X0.here hx rfl (hb hby d1_7) rfl rfl ?_
    show Steps p.tables e below (s₁.setTop (mkF m 8 #[.val (.double d1), .second, .val (.double d2), .second, .val (.double d3), .second, .val (.double d4), .second] [(.int (cmpValue (FP.dcmp d1 (FP.dadd d3 (4472406533629990549 : UInt64))) .l))])) _
    by_cases c1 : (ifCond.holds .le (cmpValue (FP.dcmp d1 (FP.dadd d3 (4472406533629990549 : UInt64))) .l)) = true
    · refine XS.ifYes X0.here hx rfl (pc0 := 8) (pc' := 13) rfl (hb hby d1_8) rfl c1 (by decide) (by decide) ?_
      show Steps p.tables e below (s₁.setTop (mkF m 13 #[.val (.double d1), .second, .val (.double d2), .second, .val (.double d3), .second, .val (.double d4), .second] [])) _
      refine XS.dloadN X0.here hx rfl (hb hby d1_13) rfl ?_
      show Steps p.tables e below (s₁.setTop (mkF m 14 #[.val (.double d1), .second, .val (.double d2), .second, .val (.double d3), .second, .val (.double d4), .second] [(.double d1)])) _
      refine XS.dload X0.here hx rfl (hb hby d1_14) rfl ?_
      show Steps p.tables e below (s₁.setTop (mkF m 16 #[.val (.double d1), .second, .val (.double d2), .second, .val (.double d3), .second, .val (.double d4), .second] [(.double d3), (.double d1)])) _
      refine X0.ldc2DoubleC hx hown (mvT hZ (hw _ (List.mem_of_getElem? (i := 4) rfl))) (g := (mkF m 16 #[.val (.double d1), .second, .val (.double d2), .second, .val (.double d3), .second, .val (.double d4), .second] [(.double d3), (.double d1)])) rfl (hb hby d1_16) _ ?_
      show Steps p.tables e below (s₁.setTop (mkF m 19 #[.val (.double d1), .second, .val (.double d2), .second, .val (.double d3), .second, .val (.double d4), .second] [(.double (4472406533629990549 : UInt64)), (.double d3), (.double d1)])) _
      refine XS.dsubS X0.here hx rfl (hb hby d1_19) rfl nn19 rfl ?_
      show Steps p.tables e below (s₁.setTop (mkF m 20 #[.val (.double d1), .second, .val (.double d2), .second, .val (.double d3), .second, .val (.double d4), .second] [(.double (FP.dsub d3 (4472406533629990549 : UInt64))), (.double d1)])) _
      refine XS.dcmpS X0.here hx rfl (hb hby d1_20) rfl rfl ?_
      show Steps p.tables e below (s₁.setTop (mkF m 21 #[.val (.double d1), .second, .val (.double d2), .second, .val (.double d3), .second, .val (.double d4), .second] [(.int (cmpValue (FP.dcmp d1 (FP.dsub d3 (4472406533629990549 : UInt64))) .l))])) _
      by_cases c2 : (ifCond.holds .lt (cmpValue (FP.dcmp d1 (FP.dsub d3 (4472406533629990549 : UInt64))) .l)) = true
      · refine XS.ifYes X0.here hx rfl (pc0 := 21) (pc' := 39) rfl (hb hby d1_21) rfl c2 (by decide) (by decide) ?_
        show Steps p.tables e below (s₁.setTop (mkF m 39 #[.val (.double d1), .second, .val (.double d2), .second, .val (.double d3), .second, .val (.double d4), .second] [])) _
        refine XS.iconst X0.here hx rfl (hb hby d1_39) ?_
        show Steps p.tables e below (s₁.setTop (mkF m 40 #[.val (.double d1), .second, .val (.double d2), .second, .val (.double d3), .second, .val (.double d4), .second] [(.int (0 : Int32))])) _
        have q : (bt_res d1 d2 d3 d4) = (0 : Int32) := by simp only [bt_res, c1, c2, if_true, if_false, Bool.false_eq_true]; try rfl
        rw [q] at hr
        exact retN X0 hx (t := .boolean) Bd.returns (by simp) (hb hby d1_40) hr
      · refine XS.ifNo X0.here hx rfl (hb hby d1_21) rfl (Bool.eq_false_iff.mpr c2) ?_
        show Steps p.tables e below (s₁.setTop (mkF m 24 #[.val (.double d1), .second, .val (.double d2), .second, .val (.double d3), .second, .val (.double d4), .second] [])) _
        refine XS.dloadN X0.here hx rfl (hb hby d1_24) rfl ?_
        show Steps p.tables e below (s₁.setTop (mkF m 25 #[.val (.double d1), .second, .val (.double d2), .second, .val (.double d3), .second, .val (.double d4), .second] [(.double d2)])) _
        refine XS.dload X0.here hx rfl (hb hby d1_25) rfl ?_
        show Steps p.tables e below (s₁.setTop (mkF m 27 #[.val (.double d1), .second, .val (.double d2), .second, .val (.double d3), .second, .val (.double d4), .second] [(.double d4), (.double d2)])) _
        refine X0.ldc2DoubleC hx hown (mvT hZ (hw _ (List.mem_of_getElem? (i := 4) rfl))) (g := (mkF m 27 #[.val (.double d1), .second, .val (.double d2), .second, .val (.double d3), .second, .val (.double d4), .second] [(.double d4), (.double d2)])) rfl (hb hby d1_27) _ ?_
        show Steps p.tables e below (s₁.setTop (mkF m 30 #[.val (.double d1), .second, .val (.double d2), .second, .val (.double d3), .second, .val (.double d4), .second] [(.double (4472406533629990549 : UInt64)), (.double d4), (.double d2)])) _
        refine XS.dsubS X0.here hx rfl (hb hby d1_30) rfl nn30 rfl ?_
        show Steps p.tables e below (s₁.setTop (mkF m 31 #[.val (.double d1), .second, .val (.double d2), .second, .val (.double d3), .second, .val (.double d4), .second] [(.double (FP.dsub d4 (4472406533629990549 : UInt64))), (.double d2)])) _
        refine XS.dcmpS X0.here hx rfl (hb hby d1_31) rfl rfl ?_
        show Steps p.tables e below (s₁.setTop (mkF m 32 #[.val (.double d1), .second, .val (.double d2), .second, .val (.double d3), .second, .val (.double d4), .second] [(.int (cmpValue (FP.dcmp d2 (FP.dsub d4 (4472406533629990549 : UInt64))) .g))])) _
        by_cases c3 : (ifCond.holds .ge (cmpValue (FP.dcmp d2 (FP.dsub d4 (4472406533629990549 : UInt64))) .g)) = true
        · refine XS.ifYes X0.here hx rfl (pc0 := 32) (pc' := 39) rfl (hb hby d1_32) rfl c3 (by decide) (by decide) ?_
          show Steps p.tables e below (s₁.setTop (mkF m 39 #[.val (.double d1), .second, .val (.double d2), .second, .val (.double d3), .second, .val (.double d4), .second] [])) _
          refine XS.iconst X0.here hx rfl (hb hby d1_39) ?_
          show Steps p.tables e below (s₁.setTop (mkF m 40 #[.val (.double d1), .second, .val (.double d2), .second, .val (.double d3), .second, .val (.double d4), .second] [(.int (0 : Int32))])) _
          have q : (bt_res d1 d2 d3 d4) = (0 : Int32) := by simp only [bt_res, c1, c2, c3, if_true, if_false, Bool.false_eq_true]; try rfl
          rw [q] at hr
          exact retN X0 hx (t := .boolean) Bd.returns (by simp) (hb hby d1_40) hr
        · refine XS.ifNo X0.here hx rfl (hb hby d1_32) rfl (Bool.eq_false_iff.mpr c3) ?_
          show Steps p.tables e below (s₁.setTop (mkF m 35 #[.val (.double d1), .second, .val (.double d2), .second, .val (.double d3), .second, .val (.double d4), .second] [])) _
          refine XS.iconst X0.here hx rfl (hb hby d1_35) ?_
          show Steps p.tables e below (s₁.setTop (mkF m 36 #[.val (.double d1), .second, .val (.double d2), .second, .val (.double d3), .second, .val (.double d4), .second] [(.int (1 : Int32))])) _
          refine XS.goto X0.here hx rfl (pc0 := 36) (pc' := 40) rfl (hb hby d1_36) (by decide) (by decide) ?_
          show Steps p.tables e below (s₁.setTop (mkF m 40 #[.val (.double d1), .second, .val (.double d2), .second, .val (.double d3), .second, .val (.double d4), .second] [(.int (1 : Int32))])) _
          have q : (bt_res d1 d2 d3 d4) = (1 : Int32) := by simp only [bt_res, c1, c2, c3, if_true, if_false, Bool.false_eq_true]; try rfl
          rw [q] at hr
          exact retN X0 hx (t := .boolean) Bd.returns (by simp) (hb hby d1_40) hr
    · refine XS.ifNo X0.here hx rfl (hb hby d1_8) rfl (Bool.eq_false_iff.mpr c1) ?_
      show Steps p.tables e below (s₁.setTop (mkF m 11 #[.val (.double d1), .second, .val (.double d2), .second, .val (.double d3), .second, .val (.double d4), .second] [])) _
      refine XS.iconst X0.here hx rfl (hb hby d1_11) ?_
      show Steps p.tables e below (s₁.setTop (mkF m 12 #[.val (.double d1), .second, .val (.double d2), .second, .val (.double d3), .second, .val (.double d4), .second] [(.int (1 : Int32))])) _
      have q : (bt_res d1 d2 d3 d4) = (1 : Int32) := by simp only [bt_res, c1, if_true, if_false, Bool.false_eq_true]; try rfl
      rw [q] at hr
      exact retN X0 hx (t := .boolean) Bd.returns (by simp) (hb hby d1_12) hr
  · show Q_bt Z d1 d2 d3 d4  h0 n0 _ s₁.heap _
    exact ⟨rfl, N0, e0⟩
theorem ef_lw (m : MethodId) (p1 : Int32) (p2 : Int32) (p3 : Int32) (p4 : Int32) (p5 : Int32) : entryFrame m #[(.int p1), (.int p2), (.int p3), (.int p4), (.int p5)] maxLocals = (mkF m 0 #[.val (.int p1), .val (.int p2), .val (.int p3), .val (.int p4), .val (.int p5), .unset, .unset, .unset, .unset, .unset, .unset, .unset, .unset, .unset, .unset, .unset, .unset, .unset, .unset, .unset, .unset] []) := by first | (simp [entryFrame, mkF, argsToLocals, Value.category, maxLocals]; done) | rfl
def Q_lw (Z : State) (p1 : Int32) (p2 : Int32) (p3 : Int32) (p4 : Int32) (p5 : Int32)  (h0 : Heap) (n0 : Nat) (v : Option Value) (h : Heap) (L : List Loc) : Prop := v = some (.int 1) ∧ Fr n0 L
set_option maxRecDepth 65536 in
set_option maxHeartbeats 40000000 in
theorem rm_lw (l : Launch) (Z : State) (a0 : Array Value) (hw : ∀ d ∈ tables_1, d.before a0 Z = true) (ws : List Jvm.Cond) (p1 : Int32) (p2 : Int32) (p3 : Int32) (p4 : Int32) (p5 : Int32)  (h0 : Heap) (n0 : Nat) (Z0 : n0 ≤ h0.size)    :
    MetFree l x (head1 (Jvm.Cond.code x code maxLocals ret :: ws) room_1) (fun a U => a = #[(.int p1), (.int p2), (.int p3), (.int p4), (.int p5)] ∧ Z.Warmed39 U.vm ∧ U.heap = h0) (fun _ _ _ _ _ => True) (fun _ U o U' => ∃ v L, o = .returned v ∧ Q_lw Z p1 p2 p3 p4 p5  h0 n0 v U'.heap L ∧ FrameEnd U o U' L 0 0) := by
  refine MetFree.of_bodySF (plainFor_of_name pn_1) hisR ?_
  intro p e s m args below meth c s₁ Bd hml0 hP hK
  obtain ⟨rfl, hZ, hh⟩ := hP
  have hx := Bd.exec
  have hby := Bd.bytes
  have hml : c.maxLocals = 21 := hml0
  have hown : s.vm.findClass "com/example/muster/muster/plan/CandidatesBetterPinLaw" = some m.cls := findClass_of_methodNamed Bd.named
  have hnm := (name_of_methodNamed Bd.named Bd.method).1
  have X0 : Stand p l e room_1 s m #[(.int p1), (.int p2), (.int p3), (.int p4), (.int p5)] below meth c s₁ [] 0 0 := Stand.of_body Bd
  have e0 : s₁.heap = h0 := by rw [← hh, Bd.state]; rfl
  have N0 := Fr.nil n0
  have pre0 : ∀ t, Steps p.tables e below (s₁.setTop (mkF m 0 #[.val (.int p1), .val (.int p2), .val (.int p3), .val (.int p4), .val (.int p5), .unset, .unset, .unset, .unset, .unset, .unset, .unset, .unset, .unset, .unset, .unset, .unset, .unset, .unset, .unset, .unset] [])) t → Steps p.tables e below (s₁.setTop (entryFrame m #[(.int p1), (.int p2), (.int p3), (.int p4), (.int p5)] maxLocals)) t := fun t k => castTop (ef_lw m p1 p2 p3 p4 p5) k
  obtain ⟨_, _, ⟨T13, L13, k13, n13⟩, -, X13, ⟨Lc13, hQ13, l13, y13, z13⟩, st13⟩ := Jvm.LawKit.callS X0 hx (y := (⟨"com/example/muster/muster/plan/Candidates", "better", "(DDDD)Z"⟩ : MethodName)) hown (mvT hZ (hw _ (List.mem_of_getElem? (i := 0) rfl))) (mvT hZ (hw _ (List.mem_of_getElem? (i := 1) rfl))) (mvT hZ (hw _ (List.mem_of_getElem? (i := 2) rfl))) (mvT hZ (hw _ (List.mem_of_getElem? (i := 3) rfl))) (by decide) (backOf (W := 0) (rm_bt l Z a0 hw [] (lw_qu p1 p2 p3 p4 p5) (lw_pay p1 p2 p3 p4 p5) (lw_oq p1 p2 p3 p4 p5) (lw_op p1 p2 p3 p4 p5)  (h0) n0 Z0  (own_t1 p1 p2 p3 p4 p5) (own_t2 p1 p2 p3 p4 p5) (own_t3 p1 p2 p3 p4 p5)) hZ (hw _ (List.mem_of_getElem? (i := 3) rfl)) (hw _ (List.mem_of_getElem? (i := 2) rfl)) (by decide) (by decide)) (g := (mkF m 148 #[.val (.int p1), .val (.int p2), .val (.int p3), .val (.int p4), .val (.int p5), .val (.int (lw_fine p1 p2 p3 p4 p5)), .val (.double (lw_scale p1 p2 p3 p4 p5)), .second, .val (.double (lw_qu p1 p2 p3 p4 p5)), .second, .val (.double (lw_pay p1 p2 p3 p4 p5)), .second, .val (.double (lw_oq p1 p2 p3 p4 p5)), .second, .val (.double (lw_op p1 p2 p3 p4 p5)), .second, .val (.long (lw_dq p1 p2 p3 p4 p5)), .second, .val (.long (lw_dp p1 p2 p3 p4 p5)), .second, .val (.int (lw_exp p1 p2 p3 p4 p5))] [(.double (lw_op p1 p2 p3 p4 p5)), (.double (lw_oq p1 p2 p3 p4 p5)), (.double (lw_pay p1 p2 p3 p4 p5)), (.double (lw_qu p1 p2 p3 p4 p5))])) rfl (by rw [hml]; rfl) (argsL := [(.double (lw_qu p1 p2 p3 p4 p5)), (.double (lw_pay p1 p2 p3 p4 p5)), (.double (lw_oq p1 p2 p3 p4 p5)), (.double (lw_op p1 p2 p3 p4 p5))]) (rest := []) (lenOf pd_0 rfl) rfl (by show 2 * 0 + _ ≤ _; exact Nat.le_of_eq rfl) (hb hby at_148) (fun _ _ => ⟨rfl, e0, (by decide : 0 + 0 ≤ _), (by decide : 0 + 0 ≤ _)⟩)
  dsimp only [Pt.U, Pt.locs, Pt.cells, Pt.slots] at X13 l13 y13 z13 st13 hQ13
  subst l13 y13 z13
  obtain ⟨rfl, N13, e13⟩ := hQ13
  have Nn13 := Fr.app N0 N13
  obtain ⟨fs, hr, hrun, hended, hW, hsame⟩ := X13.leave (v := some (.int (1 : Int32))) (fun h => by rw [Bd.returns] at h; cases h)
  refine ⟨_, _, pre0 _ ?_, hrun, hended, _, _, rfl, ?_, ⟨_, rfl⟩, hW, hsame.mono (Nat.le_of_ble_eq_true rfl) (Nat.le_of_ble_eq_true rfl)⟩
  · show Steps p.tables e below (s₁.setTop (mkF m 0 #[.val (.int p1), .val (.int p2), .val (.int p3), .val (.int p4), .val (.int p5), .unset, .unset, .unset, .unset, .unset, .unset, .unset, .unset, .unset, .unset, .unset, .unset, .unset, .unset, .unset, .unset] [])) _
    refine XS.iload X0.here hx rfl (hb hby at_0) rfl ?_
    show Steps p.tables e below (s₁.setTop (mkF m 2 #[.val (.int p1), .val (.int p2), .val (.int p3), .val (.int p4), .val (.int p5), .unset, .unset, .unset, .unset, .unset, .unset, .unset, .unset, .unset, .unset, .unset, .unset, .unset, .unset, .unset, .unset] [(.int p5)])) _
    refine XS.iconst X0.here hx rfl (hb hby at_2) ?_
    show Steps p.tables e below (s₁.setTop (mkF m 3 #[.val (.int p1), .val (.int p2), .val (.int p3), .val (.int p4), .val (.int p5), .unset, .unset, .unset, .unset, .unset, .unset, .unset, .unset, .unset, .unset, .unset, .unset, .unset, .unset, .unset, .unset] [(.int (1 : Int32)), (.int p5)])) _
    refine XS.iand X0.here hx rfl (hb hby at_3) rfl ?_
    show Steps p.tables e below (s₁.setTop (mkF m 4 #[.val (.int p1), .val (.int p2), .val (.int p3), .val (.int p4), .val (.int p5), .unset, .unset, .unset, .unset, .unset, .unset, .unset, .unset, .unset, .unset, .unset, .unset, .unset, .unset, .unset, .unset] [(.int (p5 &&& (1 : Int32)))])) _
    have sg1 : ∀ t, Steps p.tables e below (s₁.setTop (mkF m 12 #[.val (.int p1), .val (.int p2), .val (.int p3), .val (.int p4), .val (.int p5), .unset, .unset, .unset, .unset, .unset, .unset, .unset, .unset, .unset, .unset, .unset, .unset, .unset, .unset, .unset, .unset] [(.int (lw_fine0 p1 p2 p3 p4 p5))])) t → Steps p.tables e below (s₁.setTop (mkF m 4 #[.val (.int p1), .val (.int p2), .val (.int p3), .val (.int p4), .val (.int p5), .unset, .unset, .unset, .unset, .unset, .unset, .unset, .unset, .unset, .unset, .unset, .unset, .unset, .unset, .unset, .unset] [(.int (p5 &&& (1 : Int32)))])) t := by
      intro t k
      by_cases c2 : (ifCond.holds .eq (p5 &&& (1 : Int32))) = true
      · refine XS.ifYes X0.here hx rfl (pc0 := 4) (pc' := 11) rfl (hb hby at_4) rfl c2 (by decide) (by decide) ?_
        show Steps p.tables e below (s₁.setTop (mkF m 11 #[.val (.int p1), .val (.int p2), .val (.int p3), .val (.int p4), .val (.int p5), .unset, .unset, .unset, .unset, .unset, .unset, .unset, .unset, .unset, .unset, .unset, .unset, .unset, .unset, .unset, .unset] [])) t
        refine XS.iconst X0.here hx rfl (hb hby at_11) ?_
        show Steps p.tables e below (s₁.setTop (mkF m 12 #[.val (.int p1), .val (.int p2), .val (.int p3), .val (.int p4), .val (.int p5), .unset, .unset, .unset, .unset, .unset, .unset, .unset, .unset, .unset, .unset, .unset, .unset, .unset, .unset, .unset, .unset] [(.int (0 : Int32))])) t
        have q : (lw_fine0 p1 p2 p3 p4 p5) = (0 : Int32) := by simp only [lw_fine0, c2, if_true, if_false, Bool.false_eq_true]; try rfl
        rw [q] at k
        clear q
        exact k
      · refine XS.ifNo X0.here hx rfl (hb hby at_4) rfl (Bool.eq_false_iff.mpr c2) ?_
        show Steps p.tables e below (s₁.setTop (mkF m 7 #[.val (.int p1), .val (.int p2), .val (.int p3), .val (.int p4), .val (.int p5), .unset, .unset, .unset, .unset, .unset, .unset, .unset, .unset, .unset, .unset, .unset, .unset, .unset, .unset, .unset, .unset] [])) t
        refine XS.iconst X0.here hx rfl (hb hby at_7) ?_
        show Steps p.tables e below (s₁.setTop (mkF m 8 #[.val (.int p1), .val (.int p2), .val (.int p3), .val (.int p4), .val (.int p5), .unset, .unset, .unset, .unset, .unset, .unset, .unset, .unset, .unset, .unset, .unset, .unset, .unset, .unset, .unset, .unset] [(.int (1 : Int32))])) t
        refine XS.goto X0.here hx rfl (pc0 := 8) (pc' := 12) rfl (hb hby at_8) (by decide) (by decide) ?_
        show Steps p.tables e below (s₁.setTop (mkF m 12 #[.val (.int p1), .val (.int p2), .val (.int p3), .val (.int p4), .val (.int p5), .unset, .unset, .unset, .unset, .unset, .unset, .unset, .unset, .unset, .unset, .unset, .unset, .unset, .unset, .unset, .unset] [(.int (1 : Int32))])) t
        have q : (lw_fine0 p1 p2 p3 p4 p5) = (1 : Int32) := by simp only [lw_fine0, c2, if_true, if_false, Bool.false_eq_true]; try rfl
        rw [q] at k
        clear q
        exact k
    refine sg1 _ ?_
    show Steps p.tables e below (s₁.setTop (mkF m 12 #[.val (.int p1), .val (.int p2), .val (.int p3), .val (.int p4), .val (.int p5), .unset, .unset, .unset, .unset, .unset, .unset, .unset, .unset, .unset, .unset, .unset, .unset, .unset, .unset, .unset, .unset] [(.int (lw_fine0 p1 p2 p3 p4 p5))])) _
    refine XS.istore X0.here hx rfl (hb hby at_12) rfl (l' := #[.val (.int p1), .val (.int p2), .val (.int p3), .val (.int p4), .val (.int p5), .val (.int (lw_fine p1 p2 p3 p4 p5)), .unset, .unset, .unset, .unset, .unset, .unset, .unset, .unset, .unset, .unset, .unset, .unset, .unset, .unset, .unset]) rfl ?_
    show Steps p.tables e below (s₁.setTop (mkF m 14 #[.val (.int p1), .val (.int p2), .val (.int p3), .val (.int p4), .val (.int p5), .val (.int (lw_fine p1 p2 p3 p4 p5)), .unset, .unset, .unset, .unset, .unset, .unset, .unset, .unset, .unset, .unset, .unset, .unset, .unset, .unset, .unset] [])) _
    refine XS.iload X0.here hx rfl (hb hby at_14) rfl ?_
    show Steps p.tables e below (s₁.setTop (mkF m 16 #[.val (.int p1), .val (.int p2), .val (.int p3), .val (.int p4), .val (.int p5), .val (.int (lw_fine p1 p2 p3 p4 p5)), .unset, .unset, .unset, .unset, .unset, .unset, .unset, .unset, .unset, .unset, .unset, .unset, .unset, .unset, .unset] [(.int (lw_fine p1 p2 p3 p4 p5))])) _
    have sg3 : ∀ t, Steps p.tables e below (s₁.setTop (mkF m 26 #[.val (.int p1), .val (.int p2), .val (.int p3), .val (.int p4), .val (.int p5), .val (.int (lw_fine p1 p2 p3 p4 p5)), .unset, .unset, .unset, .unset, .unset, .unset, .unset, .unset, .unset, .unset, .unset, .unset, .unset, .unset, .unset] [(.double (lw_scale0 p1 p2 p3 p4 p5))])) t → Steps p.tables e below (s₁.setTop (mkF m 16 #[.val (.int p1), .val (.int p2), .val (.int p3), .val (.int p4), .val (.int p5), .val (.int (lw_fine p1 p2 p3 p4 p5)), .unset, .unset, .unset, .unset, .unset, .unset, .unset, .unset, .unset, .unset, .unset, .unset, .unset, .unset, .unset] [(.int (lw_fine p1 p2 p3 p4 p5))])) t := by
      intro t k
      by_cases c4 : (ifCond.holds .eq (lw_fine p1 p2 p3 p4 p5)) = true
      · refine XS.ifYes X0.here hx rfl (pc0 := 16) (pc' := 25) rfl (hb hby at_16) rfl c4 (by decide) (by decide) ?_
        show Steps p.tables e below (s₁.setTop (mkF m 25 #[.val (.int p1), .val (.int p2), .val (.int p3), .val (.int p4), .val (.int p5), .val (.int (lw_fine p1 p2 p3 p4 p5)), .unset, .unset, .unset, .unset, .unset, .unset, .unset, .unset, .unset, .unset, .unset, .unset, .unset, .unset, .unset] [])) t
        refine XS.dconst1 X0.here hx rfl (hb hby at_25) rfl ?_
        show Steps p.tables e below (s₁.setTop (mkF m 26 #[.val (.int p1), .val (.int p2), .val (.int p3), .val (.int p4), .val (.int p5), .val (.int (lw_fine p1 p2 p3 p4 p5)), .unset, .unset, .unset, .unset, .unset, .unset, .unset, .unset, .unset, .unset, .unset, .unset, .unset, .unset, .unset] [(.double (4607182418800017408 : UInt64))])) t
        have q : (lw_scale0 p1 p2 p3 p4 p5) = (4607182418800017408 : UInt64) := by simp only [lw_scale0, c4, if_true, if_false, Bool.false_eq_true]; try rfl
        rw [q] at k
        clear q
        exact k
      · refine XS.ifNo X0.here hx rfl (hb hby at_16) rfl (Bool.eq_false_iff.mpr c4) ?_
        show Steps p.tables e below (s₁.setTop (mkF m 19 #[.val (.int p1), .val (.int p2), .val (.int p3), .val (.int p4), .val (.int p5), .val (.int (lw_fine p1 p2 p3 p4 p5)), .unset, .unset, .unset, .unset, .unset, .unset, .unset, .unset, .unset, .unset, .unset, .unset, .unset, .unset, .unset] [])) t
        refine X0.ldc2DoubleC hx hown (mvT hZ (hw _ (List.mem_of_getElem? (i := 5) rfl))) (g := (mkF m 19 #[.val (.int p1), .val (.int p2), .val (.int p3), .val (.int p4), .val (.int p5), .val (.int (lw_fine p1 p2 p3 p4 p5)), .unset, .unset, .unset, .unset, .unset, .unset, .unset, .unset, .unset, .unset, .unset, .unset, .unset, .unset, .unset] [])) rfl (hb hby at_19) _ ?_
        show Steps p.tables e below (s₁.setTop (mkF m 22 #[.val (.int p1), .val (.int p2), .val (.int p3), .val (.int p4), .val (.int p5), .val (.int (lw_fine p1 p2 p3 p4 p5)), .unset, .unset, .unset, .unset, .unset, .unset, .unset, .unset, .unset, .unset, .unset, .unset, .unset, .unset, .unset] [(.double (4746794007248502784 : UInt64))])) t
        refine XS.goto X0.here hx rfl (pc0 := 22) (pc' := 26) rfl (hb hby at_22) (by decide) (by decide) ?_
        show Steps p.tables e below (s₁.setTop (mkF m 26 #[.val (.int p1), .val (.int p2), .val (.int p3), .val (.int p4), .val (.int p5), .val (.int (lw_fine p1 p2 p3 p4 p5)), .unset, .unset, .unset, .unset, .unset, .unset, .unset, .unset, .unset, .unset, .unset, .unset, .unset, .unset, .unset] [(.double (4746794007248502784 : UInt64))])) t
        have q : (lw_scale0 p1 p2 p3 p4 p5) = (4746794007248502784 : UInt64) := by simp only [lw_scale0, c4, if_true, if_false, Bool.false_eq_true]; try rfl
        rw [q] at k
        clear q
        exact k
    refine sg3 _ ?_
    show Steps p.tables e below (s₁.setTop (mkF m 26 #[.val (.int p1), .val (.int p2), .val (.int p3), .val (.int p4), .val (.int p5), .val (.int (lw_fine p1 p2 p3 p4 p5)), .unset, .unset, .unset, .unset, .unset, .unset, .unset, .unset, .unset, .unset, .unset, .unset, .unset, .unset, .unset] [(.double (lw_scale0 p1 p2 p3 p4 p5))])) _
    refine XS.dstore X0.here hx rfl (hb hby at_26) rfl (l' := #[.val (.int p1), .val (.int p2), .val (.int p3), .val (.int p4), .val (.int p5), .val (.int (lw_fine p1 p2 p3 p4 p5)), .val (.double (lw_scale p1 p2 p3 p4 p5)), .second, .unset, .unset, .unset, .unset, .unset, .unset, .unset, .unset, .unset, .unset, .unset, .unset, .unset]) rfl ?_
    show Steps p.tables e below (s₁.setTop (mkF m 28 #[.val (.int p1), .val (.int p2), .val (.int p3), .val (.int p4), .val (.int p5), .val (.int (lw_fine p1 p2 p3 p4 p5)), .val (.double (lw_scale p1 p2 p3 p4 p5)), .second, .unset, .unset, .unset, .unset, .unset, .unset, .unset, .unset, .unset, .unset, .unset, .unset, .unset] [])) _
    refine XS.iloadN X0.here hx rfl (hb hby at_28) rfl ?_
    show Steps p.tables e below (s₁.setTop (mkF m 29 #[.val (.int p1), .val (.int p2), .val (.int p3), .val (.int p4), .val (.int p5), .val (.int (lw_fine p1 p2 p3 p4 p5)), .val (.double (lw_scale p1 p2 p3 p4 p5)), .second, .unset, .unset, .unset, .unset, .unset, .unset, .unset, .unset, .unset, .unset, .unset, .unset, .unset] [(.int p1)])) _
    refine XS.i2dS X0.here hx rfl (hb hby at_29) rfl rfl ?_
    show Steps p.tables e below (s₁.setTop (mkF m 30 #[.val (.int p1), .val (.int p2), .val (.int p3), .val (.int p4), .val (.int p5), .val (.int (lw_fine p1 p2 p3 p4 p5)), .val (.double (lw_scale p1 p2 p3 p4 p5)), .second, .unset, .unset, .unset, .unset, .unset, .unset, .unset, .unset, .unset, .unset, .unset, .unset, .unset] [(.double (FP.i2d p1))])) _
    refine XS.dload X0.here hx rfl (hb hby at_30) rfl ?_
    show Steps p.tables e below (s₁.setTop (mkF m 32 #[.val (.int p1), .val (.int p2), .val (.int p3), .val (.int p4), .val (.int p5), .val (.int (lw_fine p1 p2 p3 p4 p5)), .val (.double (lw_scale p1 p2 p3 p4 p5)), .second, .unset, .unset, .unset, .unset, .unset, .unset, .unset, .unset, .unset, .unset, .unset, .unset, .unset] [(.double (lw_scale p1 p2 p3 p4 p5)), (.double (FP.i2d p1))])) _
    refine XS.ddivS X0.here hx rfl (hb hby at_32) rfl (own_q p1 p1 p2 p3 p4 p5).nn rfl ?_
    show Steps p.tables e below (s₁.setTop (mkF m 33 #[.val (.int p1), .val (.int p2), .val (.int p3), .val (.int p4), .val (.int p5), .val (.int (lw_fine p1 p2 p3 p4 p5)), .val (.double (lw_scale p1 p2 p3 p4 p5)), .second, .unset, .unset, .unset, .unset, .unset, .unset, .unset, .unset, .unset, .unset, .unset, .unset, .unset] [(.double (FP.ddiv (FP.i2d p1) (lw_scale p1 p2 p3 p4 p5)))])) _
    refine XS.dstore X0.here hx rfl (hb hby at_33) rfl (l' := #[.val (.int p1), .val (.int p2), .val (.int p3), .val (.int p4), .val (.int p5), .val (.int (lw_fine p1 p2 p3 p4 p5)), .val (.double (lw_scale p1 p2 p3 p4 p5)), .second, .val (.double (lw_qu p1 p2 p3 p4 p5)), .second, .unset, .unset, .unset, .unset, .unset, .unset, .unset, .unset, .unset, .unset, .unset]) rfl ?_
    show Steps p.tables e below (s₁.setTop (mkF m 35 #[.val (.int p1), .val (.int p2), .val (.int p3), .val (.int p4), .val (.int p5), .val (.int (lw_fine p1 p2 p3 p4 p5)), .val (.double (lw_scale p1 p2 p3 p4 p5)), .second, .val (.double (lw_qu p1 p2 p3 p4 p5)), .second, .unset, .unset, .unset, .unset, .unset, .unset, .unset, .unset, .unset, .unset, .unset] [])) _
    refine XS.iloadN X0.here hx rfl (hb hby at_35) rfl ?_
    show Steps p.tables e below (s₁.setTop (mkF m 36 #[.val (.int p1), .val (.int p2), .val (.int p3), .val (.int p4), .val (.int p5), .val (.int (lw_fine p1 p2 p3 p4 p5)), .val (.double (lw_scale p1 p2 p3 p4 p5)), .second, .val (.double (lw_qu p1 p2 p3 p4 p5)), .second, .unset, .unset, .unset, .unset, .unset, .unset, .unset, .unset, .unset, .unset, .unset] [(.int p2)])) _
    refine XS.i2dS X0.here hx rfl (hb hby at_36) rfl rfl ?_
    show Steps p.tables e below (s₁.setTop (mkF m 37 #[.val (.int p1), .val (.int p2), .val (.int p3), .val (.int p4), .val (.int p5), .val (.int (lw_fine p1 p2 p3 p4 p5)), .val (.double (lw_scale p1 p2 p3 p4 p5)), .second, .val (.double (lw_qu p1 p2 p3 p4 p5)), .second, .unset, .unset, .unset, .unset, .unset, .unset, .unset, .unset, .unset, .unset, .unset] [(.double (FP.i2d p2))])) _
    refine XS.dload X0.here hx rfl (hb hby at_37) rfl ?_
    show Steps p.tables e below (s₁.setTop (mkF m 39 #[.val (.int p1), .val (.int p2), .val (.int p3), .val (.int p4), .val (.int p5), .val (.int (lw_fine p1 p2 p3 p4 p5)), .val (.double (lw_scale p1 p2 p3 p4 p5)), .second, .val (.double (lw_qu p1 p2 p3 p4 p5)), .second, .unset, .unset, .unset, .unset, .unset, .unset, .unset, .unset, .unset, .unset, .unset] [(.double (lw_scale p1 p2 p3 p4 p5)), (.double (FP.i2d p2))])) _
    refine XS.ddivS X0.here hx rfl (hb hby at_39) rfl (own_q p2 p1 p2 p3 p4 p5).nn rfl ?_
    show Steps p.tables e below (s₁.setTop (mkF m 40 #[.val (.int p1), .val (.int p2), .val (.int p3), .val (.int p4), .val (.int p5), .val (.int (lw_fine p1 p2 p3 p4 p5)), .val (.double (lw_scale p1 p2 p3 p4 p5)), .second, .val (.double (lw_qu p1 p2 p3 p4 p5)), .second, .unset, .unset, .unset, .unset, .unset, .unset, .unset, .unset, .unset, .unset, .unset] [(.double (FP.ddiv (FP.i2d p2) (lw_scale p1 p2 p3 p4 p5)))])) _
    refine XS.dstore X0.here hx rfl (hb hby at_40) rfl (l' := #[.val (.int p1), .val (.int p2), .val (.int p3), .val (.int p4), .val (.int p5), .val (.int (lw_fine p1 p2 p3 p4 p5)), .val (.double (lw_scale p1 p2 p3 p4 p5)), .second, .val (.double (lw_qu p1 p2 p3 p4 p5)), .second, .val (.double (lw_pay p1 p2 p3 p4 p5)), .second, .unset, .unset, .unset, .unset, .unset, .unset, .unset, .unset, .unset]) rfl ?_
    show Steps p.tables e below (s₁.setTop (mkF m 42 #[.val (.int p1), .val (.int p2), .val (.int p3), .val (.int p4), .val (.int p5), .val (.int (lw_fine p1 p2 p3 p4 p5)), .val (.double (lw_scale p1 p2 p3 p4 p5)), .second, .val (.double (lw_qu p1 p2 p3 p4 p5)), .second, .val (.double (lw_pay p1 p2 p3 p4 p5)), .second, .unset, .unset, .unset, .unset, .unset, .unset, .unset, .unset, .unset] [])) _
    refine XS.iloadN X0.here hx rfl (hb hby at_42) rfl ?_
    show Steps p.tables e below (s₁.setTop (mkF m 43 #[.val (.int p1), .val (.int p2), .val (.int p3), .val (.int p4), .val (.int p5), .val (.int (lw_fine p1 p2 p3 p4 p5)), .val (.double (lw_scale p1 p2 p3 p4 p5)), .second, .val (.double (lw_qu p1 p2 p3 p4 p5)), .second, .val (.double (lw_pay p1 p2 p3 p4 p5)), .second, .unset, .unset, .unset, .unset, .unset, .unset, .unset, .unset, .unset] [(.int p3)])) _
    refine XS.i2dS X0.here hx rfl (hb hby at_43) rfl rfl ?_
    show Steps p.tables e below (s₁.setTop (mkF m 44 #[.val (.int p1), .val (.int p2), .val (.int p3), .val (.int p4), .val (.int p5), .val (.int (lw_fine p1 p2 p3 p4 p5)), .val (.double (lw_scale p1 p2 p3 p4 p5)), .second, .val (.double (lw_qu p1 p2 p3 p4 p5)), .second, .val (.double (lw_pay p1 p2 p3 p4 p5)), .second, .unset, .unset, .unset, .unset, .unset, .unset, .unset, .unset, .unset] [(.double (FP.i2d p3))])) _
    refine XS.dload X0.here hx rfl (hb hby at_44) rfl ?_
    show Steps p.tables e below (s₁.setTop (mkF m 46 #[.val (.int p1), .val (.int p2), .val (.int p3), .val (.int p4), .val (.int p5), .val (.int (lw_fine p1 p2 p3 p4 p5)), .val (.double (lw_scale p1 p2 p3 p4 p5)), .second, .val (.double (lw_qu p1 p2 p3 p4 p5)), .second, .val (.double (lw_pay p1 p2 p3 p4 p5)), .second, .unset, .unset, .unset, .unset, .unset, .unset, .unset, .unset, .unset] [(.double (lw_scale p1 p2 p3 p4 p5)), (.double (FP.i2d p3))])) _
    refine XS.ddivS X0.here hx rfl (hb hby at_46) rfl (own_q p3 p1 p2 p3 p4 p5).nn rfl ?_
    show Steps p.tables e below (s₁.setTop (mkF m 47 #[.val (.int p1), .val (.int p2), .val (.int p3), .val (.int p4), .val (.int p5), .val (.int (lw_fine p1 p2 p3 p4 p5)), .val (.double (lw_scale p1 p2 p3 p4 p5)), .second, .val (.double (lw_qu p1 p2 p3 p4 p5)), .second, .val (.double (lw_pay p1 p2 p3 p4 p5)), .second, .unset, .unset, .unset, .unset, .unset, .unset, .unset, .unset, .unset] [(.double (FP.ddiv (FP.i2d p3) (lw_scale p1 p2 p3 p4 p5)))])) _
    refine XS.dstore X0.here hx rfl (hb hby at_47) rfl (l' := #[.val (.int p1), .val (.int p2), .val (.int p3), .val (.int p4), .val (.int p5), .val (.int (lw_fine p1 p2 p3 p4 p5)), .val (.double (lw_scale p1 p2 p3 p4 p5)), .second, .val (.double (lw_qu p1 p2 p3 p4 p5)), .second, .val (.double (lw_pay p1 p2 p3 p4 p5)), .second, .val (.double (lw_oq p1 p2 p3 p4 p5)), .second, .unset, .unset, .unset, .unset, .unset, .unset, .unset]) rfl ?_
    show Steps p.tables e below (s₁.setTop (mkF m 49 #[.val (.int p1), .val (.int p2), .val (.int p3), .val (.int p4), .val (.int p5), .val (.int (lw_fine p1 p2 p3 p4 p5)), .val (.double (lw_scale p1 p2 p3 p4 p5)), .second, .val (.double (lw_qu p1 p2 p3 p4 p5)), .second, .val (.double (lw_pay p1 p2 p3 p4 p5)), .second, .val (.double (lw_oq p1 p2 p3 p4 p5)), .second, .unset, .unset, .unset, .unset, .unset, .unset, .unset] [])) _
    refine XS.iloadN X0.here hx rfl (hb hby at_49) rfl ?_
    show Steps p.tables e below (s₁.setTop (mkF m 50 #[.val (.int p1), .val (.int p2), .val (.int p3), .val (.int p4), .val (.int p5), .val (.int (lw_fine p1 p2 p3 p4 p5)), .val (.double (lw_scale p1 p2 p3 p4 p5)), .second, .val (.double (lw_qu p1 p2 p3 p4 p5)), .second, .val (.double (lw_pay p1 p2 p3 p4 p5)), .second, .val (.double (lw_oq p1 p2 p3 p4 p5)), .second, .unset, .unset, .unset, .unset, .unset, .unset, .unset] [(.int p4)])) _
    refine XS.i2dS X0.here hx rfl (hb hby at_50) rfl rfl ?_
    show Steps p.tables e below (s₁.setTop (mkF m 51 #[.val (.int p1), .val (.int p2), .val (.int p3), .val (.int p4), .val (.int p5), .val (.int (lw_fine p1 p2 p3 p4 p5)), .val (.double (lw_scale p1 p2 p3 p4 p5)), .second, .val (.double (lw_qu p1 p2 p3 p4 p5)), .second, .val (.double (lw_pay p1 p2 p3 p4 p5)), .second, .val (.double (lw_oq p1 p2 p3 p4 p5)), .second, .unset, .unset, .unset, .unset, .unset, .unset, .unset] [(.double (FP.i2d p4))])) _
    refine XS.dload X0.here hx rfl (hb hby at_51) rfl ?_
    show Steps p.tables e below (s₁.setTop (mkF m 53 #[.val (.int p1), .val (.int p2), .val (.int p3), .val (.int p4), .val (.int p5), .val (.int (lw_fine p1 p2 p3 p4 p5)), .val (.double (lw_scale p1 p2 p3 p4 p5)), .second, .val (.double (lw_qu p1 p2 p3 p4 p5)), .second, .val (.double (lw_pay p1 p2 p3 p4 p5)), .second, .val (.double (lw_oq p1 p2 p3 p4 p5)), .second, .unset, .unset, .unset, .unset, .unset, .unset, .unset] [(.double (lw_scale p1 p2 p3 p4 p5)), (.double (FP.i2d p4))])) _
    refine XS.ddivS X0.here hx rfl (hb hby at_53) rfl (own_q p4 p1 p2 p3 p4 p5).nn rfl ?_
    show Steps p.tables e below (s₁.setTop (mkF m 54 #[.val (.int p1), .val (.int p2), .val (.int p3), .val (.int p4), .val (.int p5), .val (.int (lw_fine p1 p2 p3 p4 p5)), .val (.double (lw_scale p1 p2 p3 p4 p5)), .second, .val (.double (lw_qu p1 p2 p3 p4 p5)), .second, .val (.double (lw_pay p1 p2 p3 p4 p5)), .second, .val (.double (lw_oq p1 p2 p3 p4 p5)), .second, .unset, .unset, .unset, .unset, .unset, .unset, .unset] [(.double (FP.ddiv (FP.i2d p4) (lw_scale p1 p2 p3 p4 p5)))])) _
    refine XS.dstore X0.here hx rfl (hb hby at_54) rfl (l' := #[.val (.int p1), .val (.int p2), .val (.int p3), .val (.int p4), .val (.int p5), .val (.int (lw_fine p1 p2 p3 p4 p5)), .val (.double (lw_scale p1 p2 p3 p4 p5)), .second, .val (.double (lw_qu p1 p2 p3 p4 p5)), .second, .val (.double (lw_pay p1 p2 p3 p4 p5)), .second, .val (.double (lw_oq p1 p2 p3 p4 p5)), .second, .val (.double (lw_op p1 p2 p3 p4 p5)), .second, .unset, .unset, .unset, .unset, .unset]) rfl ?_
    show Steps p.tables e below (s₁.setTop (mkF m 56 #[.val (.int p1), .val (.int p2), .val (.int p3), .val (.int p4), .val (.int p5), .val (.int (lw_fine p1 p2 p3 p4 p5)), .val (.double (lw_scale p1 p2 p3 p4 p5)), .second, .val (.double (lw_qu p1 p2 p3 p4 p5)), .second, .val (.double (lw_pay p1 p2 p3 p4 p5)), .second, .val (.double (lw_oq p1 p2 p3 p4 p5)), .second, .val (.double (lw_op p1 p2 p3 p4 p5)), .second, .unset, .unset, .unset, .unset, .unset] [])) _
    refine XS.iloadN X0.here hx rfl (hb hby at_56) rfl ?_
    show Steps p.tables e below (s₁.setTop (mkF m 57 #[.val (.int p1), .val (.int p2), .val (.int p3), .val (.int p4), .val (.int p5), .val (.int (lw_fine p1 p2 p3 p4 p5)), .val (.double (lw_scale p1 p2 p3 p4 p5)), .second, .val (.double (lw_qu p1 p2 p3 p4 p5)), .second, .val (.double (lw_pay p1 p2 p3 p4 p5)), .second, .val (.double (lw_oq p1 p2 p3 p4 p5)), .second, .val (.double (lw_op p1 p2 p3 p4 p5)), .second, .unset, .unset, .unset, .unset, .unset] [(.int p1)])) _
    refine XT.i2l X0.here hx rfl (hb hby at_57) rfl ?_
    show Steps p.tables e below (s₁.setTop (mkF m 58 #[.val (.int p1), .val (.int p2), .val (.int p3), .val (.int p4), .val (.int p5), .val (.int (lw_fine p1 p2 p3 p4 p5)), .val (.double (lw_scale p1 p2 p3 p4 p5)), .second, .val (.double (lw_qu p1 p2 p3 p4 p5)), .second, .val (.double (lw_pay p1 p2 p3 p4 p5)), .second, .val (.double (lw_oq p1 p2 p3 p4 p5)), .second, .val (.double (lw_op p1 p2 p3 p4 p5)), .second, .unset, .unset, .unset, .unset, .unset] [(.long (Int32.toInt64 p1))])) _
    refine XS.iloadN X0.here hx rfl (hb hby at_58) rfl ?_
    show Steps p.tables e below (s₁.setTop (mkF m 59 #[.val (.int p1), .val (.int p2), .val (.int p3), .val (.int p4), .val (.int p5), .val (.int (lw_fine p1 p2 p3 p4 p5)), .val (.double (lw_scale p1 p2 p3 p4 p5)), .second, .val (.double (lw_qu p1 p2 p3 p4 p5)), .second, .val (.double (lw_pay p1 p2 p3 p4 p5)), .second, .val (.double (lw_oq p1 p2 p3 p4 p5)), .second, .val (.double (lw_op p1 p2 p3 p4 p5)), .second, .unset, .unset, .unset, .unset, .unset] [(.int p3), (.long (Int32.toInt64 p1))])) _
    refine XT.i2l X0.here hx rfl (hb hby at_59) rfl ?_
    show Steps p.tables e below (s₁.setTop (mkF m 60 #[.val (.int p1), .val (.int p2), .val (.int p3), .val (.int p4), .val (.int p5), .val (.int (lw_fine p1 p2 p3 p4 p5)), .val (.double (lw_scale p1 p2 p3 p4 p5)), .second, .val (.double (lw_qu p1 p2 p3 p4 p5)), .second, .val (.double (lw_pay p1 p2 p3 p4 p5)), .second, .val (.double (lw_oq p1 p2 p3 p4 p5)), .second, .val (.double (lw_op p1 p2 p3 p4 p5)), .second, .unset, .unset, .unset, .unset, .unset] [(.long (Int32.toInt64 p3)), (.long (Int32.toInt64 p1))])) _
    refine XT.lsub X0.here hx rfl (hb hby at_60) rfl ?_
    show Steps p.tables e below (s₁.setTop (mkF m 61 #[.val (.int p1), .val (.int p2), .val (.int p3), .val (.int p4), .val (.int p5), .val (.int (lw_fine p1 p2 p3 p4 p5)), .val (.double (lw_scale p1 p2 p3 p4 p5)), .second, .val (.double (lw_qu p1 p2 p3 p4 p5)), .second, .val (.double (lw_pay p1 p2 p3 p4 p5)), .second, .val (.double (lw_oq p1 p2 p3 p4 p5)), .second, .val (.double (lw_op p1 p2 p3 p4 p5)), .second, .unset, .unset, .unset, .unset, .unset] [(.long ((Int32.toInt64 p1) - (Int32.toInt64 p3)))])) _
    refine XT.lstore X0.here hx rfl (hb hby at_61) rfl (l' := #[.val (.int p1), .val (.int p2), .val (.int p3), .val (.int p4), .val (.int p5), .val (.int (lw_fine p1 p2 p3 p4 p5)), .val (.double (lw_scale p1 p2 p3 p4 p5)), .second, .val (.double (lw_qu p1 p2 p3 p4 p5)), .second, .val (.double (lw_pay p1 p2 p3 p4 p5)), .second, .val (.double (lw_oq p1 p2 p3 p4 p5)), .second, .val (.double (lw_op p1 p2 p3 p4 p5)), .second, .val (.long (lw_dq p1 p2 p3 p4 p5)), .second, .unset, .unset, .unset]) rfl ?_
    show Steps p.tables e below (s₁.setTop (mkF m 63 #[.val (.int p1), .val (.int p2), .val (.int p3), .val (.int p4), .val (.int p5), .val (.int (lw_fine p1 p2 p3 p4 p5)), .val (.double (lw_scale p1 p2 p3 p4 p5)), .second, .val (.double (lw_qu p1 p2 p3 p4 p5)), .second, .val (.double (lw_pay p1 p2 p3 p4 p5)), .second, .val (.double (lw_oq p1 p2 p3 p4 p5)), .second, .val (.double (lw_op p1 p2 p3 p4 p5)), .second, .val (.long (lw_dq p1 p2 p3 p4 p5)), .second, .unset, .unset, .unset] [])) _
    refine XS.iloadN X0.here hx rfl (hb hby at_63) rfl ?_
    show Steps p.tables e below (s₁.setTop (mkF m 64 #[.val (.int p1), .val (.int p2), .val (.int p3), .val (.int p4), .val (.int p5), .val (.int (lw_fine p1 p2 p3 p4 p5)), .val (.double (lw_scale p1 p2 p3 p4 p5)), .second, .val (.double (lw_qu p1 p2 p3 p4 p5)), .second, .val (.double (lw_pay p1 p2 p3 p4 p5)), .second, .val (.double (lw_oq p1 p2 p3 p4 p5)), .second, .val (.double (lw_op p1 p2 p3 p4 p5)), .second, .val (.long (lw_dq p1 p2 p3 p4 p5)), .second, .unset, .unset, .unset] [(.int p4)])) _
    refine XT.i2l X0.here hx rfl (hb hby at_64) rfl ?_
    show Steps p.tables e below (s₁.setTop (mkF m 65 #[.val (.int p1), .val (.int p2), .val (.int p3), .val (.int p4), .val (.int p5), .val (.int (lw_fine p1 p2 p3 p4 p5)), .val (.double (lw_scale p1 p2 p3 p4 p5)), .second, .val (.double (lw_qu p1 p2 p3 p4 p5)), .second, .val (.double (lw_pay p1 p2 p3 p4 p5)), .second, .val (.double (lw_oq p1 p2 p3 p4 p5)), .second, .val (.double (lw_op p1 p2 p3 p4 p5)), .second, .val (.long (lw_dq p1 p2 p3 p4 p5)), .second, .unset, .unset, .unset] [(.long (Int32.toInt64 p4))])) _
    refine XS.iloadN X0.here hx rfl (hb hby at_65) rfl ?_
    show Steps p.tables e below (s₁.setTop (mkF m 66 #[.val (.int p1), .val (.int p2), .val (.int p3), .val (.int p4), .val (.int p5), .val (.int (lw_fine p1 p2 p3 p4 p5)), .val (.double (lw_scale p1 p2 p3 p4 p5)), .second, .val (.double (lw_qu p1 p2 p3 p4 p5)), .second, .val (.double (lw_pay p1 p2 p3 p4 p5)), .second, .val (.double (lw_oq p1 p2 p3 p4 p5)), .second, .val (.double (lw_op p1 p2 p3 p4 p5)), .second, .val (.long (lw_dq p1 p2 p3 p4 p5)), .second, .unset, .unset, .unset] [(.int p2), (.long (Int32.toInt64 p4))])) _
    refine XT.i2l X0.here hx rfl (hb hby at_66) rfl ?_
    show Steps p.tables e below (s₁.setTop (mkF m 67 #[.val (.int p1), .val (.int p2), .val (.int p3), .val (.int p4), .val (.int p5), .val (.int (lw_fine p1 p2 p3 p4 p5)), .val (.double (lw_scale p1 p2 p3 p4 p5)), .second, .val (.double (lw_qu p1 p2 p3 p4 p5)), .second, .val (.double (lw_pay p1 p2 p3 p4 p5)), .second, .val (.double (lw_oq p1 p2 p3 p4 p5)), .second, .val (.double (lw_op p1 p2 p3 p4 p5)), .second, .val (.long (lw_dq p1 p2 p3 p4 p5)), .second, .unset, .unset, .unset] [(.long (Int32.toInt64 p2)), (.long (Int32.toInt64 p4))])) _
    refine XT.lsub X0.here hx rfl (hb hby at_67) rfl ?_
    show Steps p.tables e below (s₁.setTop (mkF m 68 #[.val (.int p1), .val (.int p2), .val (.int p3), .val (.int p4), .val (.int p5), .val (.int (lw_fine p1 p2 p3 p4 p5)), .val (.double (lw_scale p1 p2 p3 p4 p5)), .second, .val (.double (lw_qu p1 p2 p3 p4 p5)), .second, .val (.double (lw_pay p1 p2 p3 p4 p5)), .second, .val (.double (lw_oq p1 p2 p3 p4 p5)), .second, .val (.double (lw_op p1 p2 p3 p4 p5)), .second, .val (.long (lw_dq p1 p2 p3 p4 p5)), .second, .unset, .unset, .unset] [(.long ((Int32.toInt64 p4) - (Int32.toInt64 p2)))])) _
    refine XT.lstore X0.here hx rfl (hb hby at_68) rfl (l' := #[.val (.int p1), .val (.int p2), .val (.int p3), .val (.int p4), .val (.int p5), .val (.int (lw_fine p1 p2 p3 p4 p5)), .val (.double (lw_scale p1 p2 p3 p4 p5)), .second, .val (.double (lw_qu p1 p2 p3 p4 p5)), .second, .val (.double (lw_pay p1 p2 p3 p4 p5)), .second, .val (.double (lw_oq p1 p2 p3 p4 p5)), .second, .val (.double (lw_op p1 p2 p3 p4 p5)), .second, .val (.long (lw_dq p1 p2 p3 p4 p5)), .second, .val (.long (lw_dp p1 p2 p3 p4 p5)), .second, .unset]) rfl ?_
    show Steps p.tables e below (s₁.setTop (mkF m 70 #[.val (.int p1), .val (.int p2), .val (.int p3), .val (.int p4), .val (.int p5), .val (.int (lw_fine p1 p2 p3 p4 p5)), .val (.double (lw_scale p1 p2 p3 p4 p5)), .second, .val (.double (lw_qu p1 p2 p3 p4 p5)), .second, .val (.double (lw_pay p1 p2 p3 p4 p5)), .second, .val (.double (lw_oq p1 p2 p3 p4 p5)), .second, .val (.double (lw_op p1 p2 p3 p4 p5)), .second, .val (.long (lw_dq p1 p2 p3 p4 p5)), .second, .val (.long (lw_dp p1 p2 p3 p4 p5)), .second, .unset] [])) _
    refine XS.iload X0.here hx rfl (hb hby at_70) rfl ?_
    show Steps p.tables e below (s₁.setTop (mkF m 72 #[.val (.int p1), .val (.int p2), .val (.int p3), .val (.int p4), .val (.int p5), .val (.int (lw_fine p1 p2 p3 p4 p5)), .val (.double (lw_scale p1 p2 p3 p4 p5)), .second, .val (.double (lw_qu p1 p2 p3 p4 p5)), .second, .val (.double (lw_pay p1 p2 p3 p4 p5)), .second, .val (.double (lw_oq p1 p2 p3 p4 p5)), .second, .val (.double (lw_op p1 p2 p3 p4 p5)), .second, .val (.long (lw_dq p1 p2 p3 p4 p5)), .second, .val (.long (lw_dp p1 p2 p3 p4 p5)), .second, .unset] [(.int (lw_fine p1 p2 p3 p4 p5))])) _
    have sg5 : ∀ t, Steps p.tables e below (s₁.setTop (mkF m 140 #[.val (.int p1), .val (.int p2), .val (.int p3), .val (.int p4), .val (.int p5), .val (.int (lw_fine p1 p2 p3 p4 p5)), .val (.double (lw_scale p1 p2 p3 p4 p5)), .second, .val (.double (lw_qu p1 p2 p3 p4 p5)), .second, .val (.double (lw_pay p1 p2 p3 p4 p5)), .second, .val (.double (lw_oq p1 p2 p3 p4 p5)), .second, .val (.double (lw_op p1 p2 p3 p4 p5)), .second, .val (.long (lw_dq p1 p2 p3 p4 p5)), .second, .val (.long (lw_dp p1 p2 p3 p4 p5)), .second, .val (.int (lw_exp p1 p2 p3 p4 p5))] [])) t → Steps p.tables e below (s₁.setTop (mkF m 72 #[.val (.int p1), .val (.int p2), .val (.int p3), .val (.int p4), .val (.int p5), .val (.int (lw_fine p1 p2 p3 p4 p5)), .val (.double (lw_scale p1 p2 p3 p4 p5)), .second, .val (.double (lw_qu p1 p2 p3 p4 p5)), .second, .val (.double (lw_pay p1 p2 p3 p4 p5)), .second, .val (.double (lw_oq p1 p2 p3 p4 p5)), .second, .val (.double (lw_op p1 p2 p3 p4 p5)), .second, .val (.long (lw_dq p1 p2 p3 p4 p5)), .second, .val (.long (lw_dp p1 p2 p3 p4 p5)), .second, .unset] [(.int (lw_fine p1 p2 p3 p4 p5))])) t := by
      intro t k
      by_cases c6 : (ifCond.holds .eq (lw_fine p1 p2 p3 p4 p5)) = true
      · refine XS.ifYes X0.here hx rfl (pc0 := 72) (pc' := 112) rfl (hb hby at_72) rfl c6 (by decide) (by decide) ?_
        show Steps p.tables e below (s₁.setTop (mkF m 112 #[.val (.int p1), .val (.int p2), .val (.int p3), .val (.int p4), .val (.int p5), .val (.int (lw_fine p1 p2 p3 p4 p5)), .val (.double (lw_scale p1 p2 p3 p4 p5)), .second, .val (.double (lw_qu p1 p2 p3 p4 p5)), .second, .val (.double (lw_pay p1 p2 p3 p4 p5)), .second, .val (.double (lw_oq p1 p2 p3 p4 p5)), .second, .val (.double (lw_op p1 p2 p3 p4 p5)), .second, .val (.long (lw_dq p1 p2 p3 p4 p5)), .second, .val (.long (lw_dp p1 p2 p3 p4 p5)), .second, .unset] [])) t
        refine XT.lload X0.here hx rfl (hb hby at_112) rfl ?_
        show Steps p.tables e below (s₁.setTop (mkF m 114 #[.val (.int p1), .val (.int p2), .val (.int p3), .val (.int p4), .val (.int p5), .val (.int (lw_fine p1 p2 p3 p4 p5)), .val (.double (lw_scale p1 p2 p3 p4 p5)), .second, .val (.double (lw_qu p1 p2 p3 p4 p5)), .second, .val (.double (lw_pay p1 p2 p3 p4 p5)), .second, .val (.double (lw_oq p1 p2 p3 p4 p5)), .second, .val (.double (lw_op p1 p2 p3 p4 p5)), .second, .val (.long (lw_dq p1 p2 p3 p4 p5)), .second, .val (.long (lw_dp p1 p2 p3 p4 p5)), .second, .unset] [(.long (lw_dq p1 p2 p3 p4 p5))])) t
        refine XT.lconst X0.here hx rfl (hb hby at_114) ?_
        show Steps p.tables e below (s₁.setTop (mkF m 115 #[.val (.int p1), .val (.int p2), .val (.int p3), .val (.int p4), .val (.int p5), .val (.int (lw_fine p1 p2 p3 p4 p5)), .val (.double (lw_scale p1 p2 p3 p4 p5)), .second, .val (.double (lw_qu p1 p2 p3 p4 p5)), .second, .val (.double (lw_pay p1 p2 p3 p4 p5)), .second, .val (.double (lw_oq p1 p2 p3 p4 p5)), .second, .val (.double (lw_op p1 p2 p3 p4 p5)), .second, .val (.long (lw_dq p1 p2 p3 p4 p5)), .second, .val (.long (lw_dp p1 p2 p3 p4 p5)), .second, .unset] [(.long (1 : Int64)), (.long (lw_dq p1 p2 p3 p4 p5))])) t
        refine XT.lcmp X0.here hx rfl (hb hby at_115) rfl ?_
        show Steps p.tables e below (s₁.setTop (mkF m 116 #[.val (.int p1), .val (.int p2), .val (.int p3), .val (.int p4), .val (.int p5), .val (.int (lw_fine p1 p2 p3 p4 p5)), .val (.double (lw_scale p1 p2 p3 p4 p5)), .second, .val (.double (lw_qu p1 p2 p3 p4 p5)), .second, .val (.double (lw_pay p1 p2 p3 p4 p5)), .second, .val (.double (lw_oq p1 p2 p3 p4 p5)), .second, .val (.double (lw_op p1 p2 p3 p4 p5)), .second, .val (.long (lw_dq p1 p2 p3 p4 p5)), .second, .val (.long (lw_dp p1 p2 p3 p4 p5)), .second, .unset] [(.int (XT.cmpL (lw_dq p1 p2 p3 p4 p5) (1 : Int64)))])) t
        by_cases c7 : (ifCond.holds .ge (XT.cmpL (lw_dq p1 p2 p3 p4 p5) (1 : Int64))) = true
        · refine XS.ifYes X0.here hx rfl (pc0 := 116) (pc' := 133) rfl (hb hby at_116) rfl c7 (by decide) (by decide) ?_
          show Steps p.tables e below (s₁.setTop (mkF m 133 #[.val (.int p1), .val (.int p2), .val (.int p3), .val (.int p4), .val (.int p5), .val (.int (lw_fine p1 p2 p3 p4 p5)), .val (.double (lw_scale p1 p2 p3 p4 p5)), .second, .val (.double (lw_qu p1 p2 p3 p4 p5)), .second, .val (.double (lw_pay p1 p2 p3 p4 p5)), .second, .val (.double (lw_oq p1 p2 p3 p4 p5)), .second, .val (.double (lw_op p1 p2 p3 p4 p5)), .second, .val (.long (lw_dq p1 p2 p3 p4 p5)), .second, .val (.long (lw_dp p1 p2 p3 p4 p5)), .second, .unset] [])) t
          refine XS.iconst X0.here hx rfl (hb hby at_133) ?_
          show Steps p.tables e below (s₁.setTop (mkF m 134 #[.val (.int p1), .val (.int p2), .val (.int p3), .val (.int p4), .val (.int p5), .val (.int (lw_fine p1 p2 p3 p4 p5)), .val (.double (lw_scale p1 p2 p3 p4 p5)), .second, .val (.double (lw_qu p1 p2 p3 p4 p5)), .second, .val (.double (lw_pay p1 p2 p3 p4 p5)), .second, .val (.double (lw_oq p1 p2 p3 p4 p5)), .second, .val (.double (lw_op p1 p2 p3 p4 p5)), .second, .val (.long (lw_dq p1 p2 p3 p4 p5)), .second, .val (.long (lw_dp p1 p2 p3 p4 p5)), .second, .unset] [(.int (1 : Int32))])) t
          refine XS.goto X0.here hx rfl (pc0 := 134) (pc' := 138) rfl (hb hby at_134) (by decide) (by decide) ?_
          show Steps p.tables e below (s₁.setTop (mkF m 138 #[.val (.int p1), .val (.int p2), .val (.int p3), .val (.int p4), .val (.int p5), .val (.int (lw_fine p1 p2 p3 p4 p5)), .val (.double (lw_scale p1 p2 p3 p4 p5)), .second, .val (.double (lw_qu p1 p2 p3 p4 p5)), .second, .val (.double (lw_pay p1 p2 p3 p4 p5)), .second, .val (.double (lw_oq p1 p2 p3 p4 p5)), .second, .val (.double (lw_op p1 p2 p3 p4 p5)), .second, .val (.long (lw_dq p1 p2 p3 p4 p5)), .second, .val (.long (lw_dp p1 p2 p3 p4 p5)), .second, .unset] [(.int (1 : Int32))])) t
          refine XS.istore X0.here hx rfl (hb hby at_138) rfl (l' := #[.val (.int p1), .val (.int p2), .val (.int p3), .val (.int p4), .val (.int p5), .val (.int (lw_fine p1 p2 p3 p4 p5)), .val (.double (lw_scale p1 p2 p3 p4 p5)), .second, .val (.double (lw_qu p1 p2 p3 p4 p5)), .second, .val (.double (lw_pay p1 p2 p3 p4 p5)), .second, .val (.double (lw_oq p1 p2 p3 p4 p5)), .second, .val (.double (lw_op p1 p2 p3 p4 p5)), .second, .val (.long (lw_dq p1 p2 p3 p4 p5)), .second, .val (.long (lw_dp p1 p2 p3 p4 p5)), .second, .val (.int (1 : Int32))]) rfl ?_
          show Steps p.tables e below (s₁.setTop (mkF m 140 #[.val (.int p1), .val (.int p2), .val (.int p3), .val (.int p4), .val (.int p5), .val (.int (lw_fine p1 p2 p3 p4 p5)), .val (.double (lw_scale p1 p2 p3 p4 p5)), .second, .val (.double (lw_qu p1 p2 p3 p4 p5)), .second, .val (.double (lw_pay p1 p2 p3 p4 p5)), .second, .val (.double (lw_oq p1 p2 p3 p4 p5)), .second, .val (.double (lw_op p1 p2 p3 p4 p5)), .second, .val (.long (lw_dq p1 p2 p3 p4 p5)), .second, .val (.long (lw_dp p1 p2 p3 p4 p5)), .second, .val (.int (1 : Int32))] [])) t
          have q : (lw_exp p1 p2 p3 p4 p5) = (1 : Int32) := by simp only [lw_exp, c6, c7, if_true, if_false, Bool.false_eq_true]; try rfl
          rw [q] at k
          clear q
          exact k
        · refine XS.ifNo X0.here hx rfl (hb hby at_116) rfl (Bool.eq_false_iff.mpr c7) ?_
          show Steps p.tables e below (s₁.setTop (mkF m 119 #[.val (.int p1), .val (.int p2), .val (.int p3), .val (.int p4), .val (.int p5), .val (.int (lw_fine p1 p2 p3 p4 p5)), .val (.double (lw_scale p1 p2 p3 p4 p5)), .second, .val (.double (lw_qu p1 p2 p3 p4 p5)), .second, .val (.double (lw_pay p1 p2 p3 p4 p5)), .second, .val (.double (lw_oq p1 p2 p3 p4 p5)), .second, .val (.double (lw_op p1 p2 p3 p4 p5)), .second, .val (.long (lw_dq p1 p2 p3 p4 p5)), .second, .val (.long (lw_dp p1 p2 p3 p4 p5)), .second, .unset] [])) t
          refine XT.lload X0.here hx rfl (hb hby at_119) rfl ?_
          show Steps p.tables e below (s₁.setTop (mkF m 121 #[.val (.int p1), .val (.int p2), .val (.int p3), .val (.int p4), .val (.int p5), .val (.int (lw_fine p1 p2 p3 p4 p5)), .val (.double (lw_scale p1 p2 p3 p4 p5)), .second, .val (.double (lw_qu p1 p2 p3 p4 p5)), .second, .val (.double (lw_pay p1 p2 p3 p4 p5)), .second, .val (.double (lw_oq p1 p2 p3 p4 p5)), .second, .val (.double (lw_op p1 p2 p3 p4 p5)), .second, .val (.long (lw_dq p1 p2 p3 p4 p5)), .second, .val (.long (lw_dp p1 p2 p3 p4 p5)), .second, .unset] [(.long (lw_dq p1 p2 p3 p4 p5))])) t
          refine XT.lconst X0.here hx rfl (hb hby at_121) ?_
          show Steps p.tables e below (s₁.setTop (mkF m 122 #[.val (.int p1), .val (.int p2), .val (.int p3), .val (.int p4), .val (.int p5), .val (.int (lw_fine p1 p2 p3 p4 p5)), .val (.double (lw_scale p1 p2 p3 p4 p5)), .second, .val (.double (lw_qu p1 p2 p3 p4 p5)), .second, .val (.double (lw_pay p1 p2 p3 p4 p5)), .second, .val (.double (lw_oq p1 p2 p3 p4 p5)), .second, .val (.double (lw_op p1 p2 p3 p4 p5)), .second, .val (.long (lw_dq p1 p2 p3 p4 p5)), .second, .val (.long (lw_dp p1 p2 p3 p4 p5)), .second, .unset] [(.long (0 : Int64)), (.long (lw_dq p1 p2 p3 p4 p5))])) t
          refine XT.lcmp X0.here hx rfl (hb hby at_122) rfl ?_
          show Steps p.tables e below (s₁.setTop (mkF m 123 #[.val (.int p1), .val (.int p2), .val (.int p3), .val (.int p4), .val (.int p5), .val (.int (lw_fine p1 p2 p3 p4 p5)), .val (.double (lw_scale p1 p2 p3 p4 p5)), .second, .val (.double (lw_qu p1 p2 p3 p4 p5)), .second, .val (.double (lw_pay p1 p2 p3 p4 p5)), .second, .val (.double (lw_oq p1 p2 p3 p4 p5)), .second, .val (.double (lw_op p1 p2 p3 p4 p5)), .second, .val (.long (lw_dq p1 p2 p3 p4 p5)), .second, .val (.long (lw_dp p1 p2 p3 p4 p5)), .second, .unset] [(.int (XT.cmpL (lw_dq p1 p2 p3 p4 p5) (0 : Int64)))])) t
          by_cases c8 : (ifCond.holds .lt (XT.cmpL (lw_dq p1 p2 p3 p4 p5) (0 : Int64))) = true
          · refine XS.ifYes X0.here hx rfl (pc0 := 123) (pc' := 137) rfl (hb hby at_123) rfl c8 (by decide) (by decide) ?_
            show Steps p.tables e below (s₁.setTop (mkF m 137 #[.val (.int p1), .val (.int p2), .val (.int p3), .val (.int p4), .val (.int p5), .val (.int (lw_fine p1 p2 p3 p4 p5)), .val (.double (lw_scale p1 p2 p3 p4 p5)), .second, .val (.double (lw_qu p1 p2 p3 p4 p5)), .second, .val (.double (lw_pay p1 p2 p3 p4 p5)), .second, .val (.double (lw_oq p1 p2 p3 p4 p5)), .second, .val (.double (lw_op p1 p2 p3 p4 p5)), .second, .val (.long (lw_dq p1 p2 p3 p4 p5)), .second, .val (.long (lw_dp p1 p2 p3 p4 p5)), .second, .unset] [])) t
            refine XS.iconst X0.here hx rfl (hb hby at_137) ?_
            show Steps p.tables e below (s₁.setTop (mkF m 138 #[.val (.int p1), .val (.int p2), .val (.int p3), .val (.int p4), .val (.int p5), .val (.int (lw_fine p1 p2 p3 p4 p5)), .val (.double (lw_scale p1 p2 p3 p4 p5)), .second, .val (.double (lw_qu p1 p2 p3 p4 p5)), .second, .val (.double (lw_pay p1 p2 p3 p4 p5)), .second, .val (.double (lw_oq p1 p2 p3 p4 p5)), .second, .val (.double (lw_op p1 p2 p3 p4 p5)), .second, .val (.long (lw_dq p1 p2 p3 p4 p5)), .second, .val (.long (lw_dp p1 p2 p3 p4 p5)), .second, .unset] [(.int (0 : Int32))])) t
            refine XS.istore X0.here hx rfl (hb hby at_138) rfl (l' := #[.val (.int p1), .val (.int p2), .val (.int p3), .val (.int p4), .val (.int p5), .val (.int (lw_fine p1 p2 p3 p4 p5)), .val (.double (lw_scale p1 p2 p3 p4 p5)), .second, .val (.double (lw_qu p1 p2 p3 p4 p5)), .second, .val (.double (lw_pay p1 p2 p3 p4 p5)), .second, .val (.double (lw_oq p1 p2 p3 p4 p5)), .second, .val (.double (lw_op p1 p2 p3 p4 p5)), .second, .val (.long (lw_dq p1 p2 p3 p4 p5)), .second, .val (.long (lw_dp p1 p2 p3 p4 p5)), .second, .val (.int (0 : Int32))]) rfl ?_
            show Steps p.tables e below (s₁.setTop (mkF m 140 #[.val (.int p1), .val (.int p2), .val (.int p3), .val (.int p4), .val (.int p5), .val (.int (lw_fine p1 p2 p3 p4 p5)), .val (.double (lw_scale p1 p2 p3 p4 p5)), .second, .val (.double (lw_qu p1 p2 p3 p4 p5)), .second, .val (.double (lw_pay p1 p2 p3 p4 p5)), .second, .val (.double (lw_oq p1 p2 p3 p4 p5)), .second, .val (.double (lw_op p1 p2 p3 p4 p5)), .second, .val (.long (lw_dq p1 p2 p3 p4 p5)), .second, .val (.long (lw_dp p1 p2 p3 p4 p5)), .second, .val (.int (0 : Int32))] [])) t
            have q : (lw_exp p1 p2 p3 p4 p5) = (0 : Int32) := by simp only [lw_exp, c6, c7, c8, if_true, if_false, Bool.false_eq_true]; try rfl
            rw [q] at k
            clear q
            exact k
          · refine XS.ifNo X0.here hx rfl (hb hby at_123) rfl (Bool.eq_false_iff.mpr c8) ?_
            show Steps p.tables e below (s₁.setTop (mkF m 126 #[.val (.int p1), .val (.int p2), .val (.int p3), .val (.int p4), .val (.int p5), .val (.int (lw_fine p1 p2 p3 p4 p5)), .val (.double (lw_scale p1 p2 p3 p4 p5)), .second, .val (.double (lw_qu p1 p2 p3 p4 p5)), .second, .val (.double (lw_pay p1 p2 p3 p4 p5)), .second, .val (.double (lw_oq p1 p2 p3 p4 p5)), .second, .val (.double (lw_op p1 p2 p3 p4 p5)), .second, .val (.long (lw_dq p1 p2 p3 p4 p5)), .second, .val (.long (lw_dp p1 p2 p3 p4 p5)), .second, .unset] [])) t
            refine XT.lload X0.here hx rfl (hb hby at_126) rfl ?_
            show Steps p.tables e below (s₁.setTop (mkF m 128 #[.val (.int p1), .val (.int p2), .val (.int p3), .val (.int p4), .val (.int p5), .val (.int (lw_fine p1 p2 p3 p4 p5)), .val (.double (lw_scale p1 p2 p3 p4 p5)), .second, .val (.double (lw_qu p1 p2 p3 p4 p5)), .second, .val (.double (lw_pay p1 p2 p3 p4 p5)), .second, .val (.double (lw_oq p1 p2 p3 p4 p5)), .second, .val (.double (lw_op p1 p2 p3 p4 p5)), .second, .val (.long (lw_dq p1 p2 p3 p4 p5)), .second, .val (.long (lw_dp p1 p2 p3 p4 p5)), .second, .unset] [(.long (lw_dp p1 p2 p3 p4 p5))])) t
            refine XT.lconst X0.here hx rfl (hb hby at_128) ?_
            show Steps p.tables e below (s₁.setTop (mkF m 129 #[.val (.int p1), .val (.int p2), .val (.int p3), .val (.int p4), .val (.int p5), .val (.int (lw_fine p1 p2 p3 p4 p5)), .val (.double (lw_scale p1 p2 p3 p4 p5)), .second, .val (.double (lw_qu p1 p2 p3 p4 p5)), .second, .val (.double (lw_pay p1 p2 p3 p4 p5)), .second, .val (.double (lw_oq p1 p2 p3 p4 p5)), .second, .val (.double (lw_op p1 p2 p3 p4 p5)), .second, .val (.long (lw_dq p1 p2 p3 p4 p5)), .second, .val (.long (lw_dp p1 p2 p3 p4 p5)), .second, .unset] [(.long (1 : Int64)), (.long (lw_dp p1 p2 p3 p4 p5))])) t
            refine XT.lcmp X0.here hx rfl (hb hby at_129) rfl ?_
            show Steps p.tables e below (s₁.setTop (mkF m 130 #[.val (.int p1), .val (.int p2), .val (.int p3), .val (.int p4), .val (.int p5), .val (.int (lw_fine p1 p2 p3 p4 p5)), .val (.double (lw_scale p1 p2 p3 p4 p5)), .second, .val (.double (lw_qu p1 p2 p3 p4 p5)), .second, .val (.double (lw_pay p1 p2 p3 p4 p5)), .second, .val (.double (lw_oq p1 p2 p3 p4 p5)), .second, .val (.double (lw_op p1 p2 p3 p4 p5)), .second, .val (.long (lw_dq p1 p2 p3 p4 p5)), .second, .val (.long (lw_dp p1 p2 p3 p4 p5)), .second, .unset] [(.int (XT.cmpL (lw_dp p1 p2 p3 p4 p5) (1 : Int64)))])) t
            by_cases c9 : (ifCond.holds .lt (XT.cmpL (lw_dp p1 p2 p3 p4 p5) (1 : Int64))) = true
            · refine XS.ifYes X0.here hx rfl (pc0 := 130) (pc' := 137) rfl (hb hby at_130) rfl c9 (by decide) (by decide) ?_
              show Steps p.tables e below (s₁.setTop (mkF m 137 #[.val (.int p1), .val (.int p2), .val (.int p3), .val (.int p4), .val (.int p5), .val (.int (lw_fine p1 p2 p3 p4 p5)), .val (.double (lw_scale p1 p2 p3 p4 p5)), .second, .val (.double (lw_qu p1 p2 p3 p4 p5)), .second, .val (.double (lw_pay p1 p2 p3 p4 p5)), .second, .val (.double (lw_oq p1 p2 p3 p4 p5)), .second, .val (.double (lw_op p1 p2 p3 p4 p5)), .second, .val (.long (lw_dq p1 p2 p3 p4 p5)), .second, .val (.long (lw_dp p1 p2 p3 p4 p5)), .second, .unset] [])) t
              refine XS.iconst X0.here hx rfl (hb hby at_137) ?_
              show Steps p.tables e below (s₁.setTop (mkF m 138 #[.val (.int p1), .val (.int p2), .val (.int p3), .val (.int p4), .val (.int p5), .val (.int (lw_fine p1 p2 p3 p4 p5)), .val (.double (lw_scale p1 p2 p3 p4 p5)), .second, .val (.double (lw_qu p1 p2 p3 p4 p5)), .second, .val (.double (lw_pay p1 p2 p3 p4 p5)), .second, .val (.double (lw_oq p1 p2 p3 p4 p5)), .second, .val (.double (lw_op p1 p2 p3 p4 p5)), .second, .val (.long (lw_dq p1 p2 p3 p4 p5)), .second, .val (.long (lw_dp p1 p2 p3 p4 p5)), .second, .unset] [(.int (0 : Int32))])) t
              refine XS.istore X0.here hx rfl (hb hby at_138) rfl (l' := #[.val (.int p1), .val (.int p2), .val (.int p3), .val (.int p4), .val (.int p5), .val (.int (lw_fine p1 p2 p3 p4 p5)), .val (.double (lw_scale p1 p2 p3 p4 p5)), .second, .val (.double (lw_qu p1 p2 p3 p4 p5)), .second, .val (.double (lw_pay p1 p2 p3 p4 p5)), .second, .val (.double (lw_oq p1 p2 p3 p4 p5)), .second, .val (.double (lw_op p1 p2 p3 p4 p5)), .second, .val (.long (lw_dq p1 p2 p3 p4 p5)), .second, .val (.long (lw_dp p1 p2 p3 p4 p5)), .second, .val (.int (0 : Int32))]) rfl ?_
              show Steps p.tables e below (s₁.setTop (mkF m 140 #[.val (.int p1), .val (.int p2), .val (.int p3), .val (.int p4), .val (.int p5), .val (.int (lw_fine p1 p2 p3 p4 p5)), .val (.double (lw_scale p1 p2 p3 p4 p5)), .second, .val (.double (lw_qu p1 p2 p3 p4 p5)), .second, .val (.double (lw_pay p1 p2 p3 p4 p5)), .second, .val (.double (lw_oq p1 p2 p3 p4 p5)), .second, .val (.double (lw_op p1 p2 p3 p4 p5)), .second, .val (.long (lw_dq p1 p2 p3 p4 p5)), .second, .val (.long (lw_dp p1 p2 p3 p4 p5)), .second, .val (.int (0 : Int32))] [])) t
              have q : (lw_exp p1 p2 p3 p4 p5) = (0 : Int32) := by simp only [lw_exp, c6, c7, c8, c9, if_true, if_false, Bool.false_eq_true]; try rfl
              rw [q] at k
              clear q
              exact k
            · refine XS.ifNo X0.here hx rfl (hb hby at_130) rfl (Bool.eq_false_iff.mpr c9) ?_
              show Steps p.tables e below (s₁.setTop (mkF m 133 #[.val (.int p1), .val (.int p2), .val (.int p3), .val (.int p4), .val (.int p5), .val (.int (lw_fine p1 p2 p3 p4 p5)), .val (.double (lw_scale p1 p2 p3 p4 p5)), .second, .val (.double (lw_qu p1 p2 p3 p4 p5)), .second, .val (.double (lw_pay p1 p2 p3 p4 p5)), .second, .val (.double (lw_oq p1 p2 p3 p4 p5)), .second, .val (.double (lw_op p1 p2 p3 p4 p5)), .second, .val (.long (lw_dq p1 p2 p3 p4 p5)), .second, .val (.long (lw_dp p1 p2 p3 p4 p5)), .second, .unset] [])) t
              refine XS.iconst X0.here hx rfl (hb hby at_133) ?_
              show Steps p.tables e below (s₁.setTop (mkF m 134 #[.val (.int p1), .val (.int p2), .val (.int p3), .val (.int p4), .val (.int p5), .val (.int (lw_fine p1 p2 p3 p4 p5)), .val (.double (lw_scale p1 p2 p3 p4 p5)), .second, .val (.double (lw_qu p1 p2 p3 p4 p5)), .second, .val (.double (lw_pay p1 p2 p3 p4 p5)), .second, .val (.double (lw_oq p1 p2 p3 p4 p5)), .second, .val (.double (lw_op p1 p2 p3 p4 p5)), .second, .val (.long (lw_dq p1 p2 p3 p4 p5)), .second, .val (.long (lw_dp p1 p2 p3 p4 p5)), .second, .unset] [(.int (1 : Int32))])) t
              refine XS.goto X0.here hx rfl (pc0 := 134) (pc' := 138) rfl (hb hby at_134) (by decide) (by decide) ?_
              show Steps p.tables e below (s₁.setTop (mkF m 138 #[.val (.int p1), .val (.int p2), .val (.int p3), .val (.int p4), .val (.int p5), .val (.int (lw_fine p1 p2 p3 p4 p5)), .val (.double (lw_scale p1 p2 p3 p4 p5)), .second, .val (.double (lw_qu p1 p2 p3 p4 p5)), .second, .val (.double (lw_pay p1 p2 p3 p4 p5)), .second, .val (.double (lw_oq p1 p2 p3 p4 p5)), .second, .val (.double (lw_op p1 p2 p3 p4 p5)), .second, .val (.long (lw_dq p1 p2 p3 p4 p5)), .second, .val (.long (lw_dp p1 p2 p3 p4 p5)), .second, .unset] [(.int (1 : Int32))])) t
              refine XS.istore X0.here hx rfl (hb hby at_138) rfl (l' := #[.val (.int p1), .val (.int p2), .val (.int p3), .val (.int p4), .val (.int p5), .val (.int (lw_fine p1 p2 p3 p4 p5)), .val (.double (lw_scale p1 p2 p3 p4 p5)), .second, .val (.double (lw_qu p1 p2 p3 p4 p5)), .second, .val (.double (lw_pay p1 p2 p3 p4 p5)), .second, .val (.double (lw_oq p1 p2 p3 p4 p5)), .second, .val (.double (lw_op p1 p2 p3 p4 p5)), .second, .val (.long (lw_dq p1 p2 p3 p4 p5)), .second, .val (.long (lw_dp p1 p2 p3 p4 p5)), .second, .val (.int (1 : Int32))]) rfl ?_
              show Steps p.tables e below (s₁.setTop (mkF m 140 #[.val (.int p1), .val (.int p2), .val (.int p3), .val (.int p4), .val (.int p5), .val (.int (lw_fine p1 p2 p3 p4 p5)), .val (.double (lw_scale p1 p2 p3 p4 p5)), .second, .val (.double (lw_qu p1 p2 p3 p4 p5)), .second, .val (.double (lw_pay p1 p2 p3 p4 p5)), .second, .val (.double (lw_oq p1 p2 p3 p4 p5)), .second, .val (.double (lw_op p1 p2 p3 p4 p5)), .second, .val (.long (lw_dq p1 p2 p3 p4 p5)), .second, .val (.long (lw_dp p1 p2 p3 p4 p5)), .second, .val (.int (1 : Int32))] [])) t
              have q : (lw_exp p1 p2 p3 p4 p5) = (1 : Int32) := by simp only [lw_exp, c6, c7, c8, c9, if_true, if_false, Bool.false_eq_true]; try rfl
              rw [q] at k
              clear q
              exact k
      · refine XS.ifNo X0.here hx rfl (hb hby at_72) rfl (Bool.eq_false_iff.mpr c6) ?_
        show Steps p.tables e below (s₁.setTop (mkF m 75 #[.val (.int p1), .val (.int p2), .val (.int p3), .val (.int p4), .val (.int p5), .val (.int (lw_fine p1 p2 p3 p4 p5)), .val (.double (lw_scale p1 p2 p3 p4 p5)), .second, .val (.double (lw_qu p1 p2 p3 p4 p5)), .second, .val (.double (lw_pay p1 p2 p3 p4 p5)), .second, .val (.double (lw_oq p1 p2 p3 p4 p5)), .second, .val (.double (lw_op p1 p2 p3 p4 p5)), .second, .val (.long (lw_dq p1 p2 p3 p4 p5)), .second, .val (.long (lw_dp p1 p2 p3 p4 p5)), .second, .unset] [])) t
        refine XT.lload X0.here hx rfl (hb hby at_75) rfl ?_
        show Steps p.tables e below (s₁.setTop (mkF m 77 #[.val (.int p1), .val (.int p2), .val (.int p3), .val (.int p4), .val (.int p5), .val (.int (lw_fine p1 p2 p3 p4 p5)), .val (.double (lw_scale p1 p2 p3 p4 p5)), .second, .val (.double (lw_qu p1 p2 p3 p4 p5)), .second, .val (.double (lw_pay p1 p2 p3 p4 p5)), .second, .val (.double (lw_oq p1 p2 p3 p4 p5)), .second, .val (.double (lw_op p1 p2 p3 p4 p5)), .second, .val (.long (lw_dq p1 p2 p3 p4 p5)), .second, .val (.long (lw_dp p1 p2 p3 p4 p5)), .second, .unset] [(.long (lw_dq p1 p2 p3 p4 p5))])) t
        refine X0.ldc2J hx hown (mvT hZ (hw _ (List.mem_of_getElem? (i := 6) rfl))) (g := (mkF m 77 #[.val (.int p1), .val (.int p2), .val (.int p3), .val (.int p4), .val (.int p5), .val (.int (lw_fine p1 p2 p3 p4 p5)), .val (.double (lw_scale p1 p2 p3 p4 p5)), .second, .val (.double (lw_qu p1 p2 p3 p4 p5)), .second, .val (.double (lw_pay p1 p2 p3 p4 p5)), .second, .val (.double (lw_oq p1 p2 p3 p4 p5)), .second, .val (.double (lw_op p1 p2 p3 p4 p5)), .second, .val (.long (lw_dq p1 p2 p3 p4 p5)), .second, .val (.long (lw_dp p1 p2 p3 p4 p5)), .second, .unset] [(.long (lw_dq p1 p2 p3 p4 p5))])) rfl (hb hby at_77) ?_
        show Steps p.tables e below (s₁.setTop (mkF m 80 #[.val (.int p1), .val (.int p2), .val (.int p3), .val (.int p4), .val (.int p5), .val (.int (lw_fine p1 p2 p3 p4 p5)), .val (.double (lw_scale p1 p2 p3 p4 p5)), .second, .val (.double (lw_qu p1 p2 p3 p4 p5)), .second, .val (.double (lw_pay p1 p2 p3 p4 p5)), .second, .val (.double (lw_oq p1 p2 p3 p4 p5)), .second, .val (.double (lw_op p1 p2 p3 p4 p5)), .second, .val (.long (lw_dq p1 p2 p3 p4 p5)), .second, .val (.long (lw_dp p1 p2 p3 p4 p5)), .second, .unset] [(.long (3 : Int64)), (.long (lw_dq p1 p2 p3 p4 p5))])) t
        refine XT.lcmp X0.here hx rfl (hb hby at_80) rfl ?_
        show Steps p.tables e below (s₁.setTop (mkF m 81 #[.val (.int p1), .val (.int p2), .val (.int p3), .val (.int p4), .val (.int p5), .val (.int (lw_fine p1 p2 p3 p4 p5)), .val (.double (lw_scale p1 p2 p3 p4 p5)), .second, .val (.double (lw_qu p1 p2 p3 p4 p5)), .second, .val (.double (lw_pay p1 p2 p3 p4 p5)), .second, .val (.double (lw_oq p1 p2 p3 p4 p5)), .second, .val (.double (lw_op p1 p2 p3 p4 p5)), .second, .val (.long (lw_dq p1 p2 p3 p4 p5)), .second, .val (.long (lw_dp p1 p2 p3 p4 p5)), .second, .unset] [(.int (XT.cmpL (lw_dq p1 p2 p3 p4 p5) (3 : Int64)))])) t
        by_cases c10 : (ifCond.holds .ge (XT.cmpL (lw_dq p1 p2 p3 p4 p5) (3 : Int64))) = true
        · refine XS.ifYes X0.here hx rfl (pc0 := 81) (pc' := 102) rfl (hb hby at_81) rfl c10 (by decide) (by decide) ?_
          show Steps p.tables e below (s₁.setTop (mkF m 102 #[.val (.int p1), .val (.int p2), .val (.int p3), .val (.int p4), .val (.int p5), .val (.int (lw_fine p1 p2 p3 p4 p5)), .val (.double (lw_scale p1 p2 p3 p4 p5)), .second, .val (.double (lw_qu p1 p2 p3 p4 p5)), .second, .val (.double (lw_pay p1 p2 p3 p4 p5)), .second, .val (.double (lw_oq p1 p2 p3 p4 p5)), .second, .val (.double (lw_op p1 p2 p3 p4 p5)), .second, .val (.long (lw_dq p1 p2 p3 p4 p5)), .second, .val (.long (lw_dp p1 p2 p3 p4 p5)), .second, .unset] [])) t
          refine XS.iconst X0.here hx rfl (hb hby at_102) ?_
          show Steps p.tables e below (s₁.setTop (mkF m 103 #[.val (.int p1), .val (.int p2), .val (.int p3), .val (.int p4), .val (.int p5), .val (.int (lw_fine p1 p2 p3 p4 p5)), .val (.double (lw_scale p1 p2 p3 p4 p5)), .second, .val (.double (lw_qu p1 p2 p3 p4 p5)), .second, .val (.double (lw_pay p1 p2 p3 p4 p5)), .second, .val (.double (lw_oq p1 p2 p3 p4 p5)), .second, .val (.double (lw_op p1 p2 p3 p4 p5)), .second, .val (.long (lw_dq p1 p2 p3 p4 p5)), .second, .val (.long (lw_dp p1 p2 p3 p4 p5)), .second, .unset] [(.int (1 : Int32))])) t
          refine XS.goto X0.here hx rfl (pc0 := 103) (pc' := 107) rfl (hb hby at_103) (by decide) (by decide) ?_
          show Steps p.tables e below (s₁.setTop (mkF m 107 #[.val (.int p1), .val (.int p2), .val (.int p3), .val (.int p4), .val (.int p5), .val (.int (lw_fine p1 p2 p3 p4 p5)), .val (.double (lw_scale p1 p2 p3 p4 p5)), .second, .val (.double (lw_qu p1 p2 p3 p4 p5)), .second, .val (.double (lw_pay p1 p2 p3 p4 p5)), .second, .val (.double (lw_oq p1 p2 p3 p4 p5)), .second, .val (.double (lw_op p1 p2 p3 p4 p5)), .second, .val (.long (lw_dq p1 p2 p3 p4 p5)), .second, .val (.long (lw_dp p1 p2 p3 p4 p5)), .second, .unset] [(.int (1 : Int32))])) t
          refine XS.istore X0.here hx rfl (hb hby at_107) rfl (l' := #[.val (.int p1), .val (.int p2), .val (.int p3), .val (.int p4), .val (.int p5), .val (.int (lw_fine p1 p2 p3 p4 p5)), .val (.double (lw_scale p1 p2 p3 p4 p5)), .second, .val (.double (lw_qu p1 p2 p3 p4 p5)), .second, .val (.double (lw_pay p1 p2 p3 p4 p5)), .second, .val (.double (lw_oq p1 p2 p3 p4 p5)), .second, .val (.double (lw_op p1 p2 p3 p4 p5)), .second, .val (.long (lw_dq p1 p2 p3 p4 p5)), .second, .val (.long (lw_dp p1 p2 p3 p4 p5)), .second, .val (.int (1 : Int32))]) rfl ?_
          show Steps p.tables e below (s₁.setTop (mkF m 109 #[.val (.int p1), .val (.int p2), .val (.int p3), .val (.int p4), .val (.int p5), .val (.int (lw_fine p1 p2 p3 p4 p5)), .val (.double (lw_scale p1 p2 p3 p4 p5)), .second, .val (.double (lw_qu p1 p2 p3 p4 p5)), .second, .val (.double (lw_pay p1 p2 p3 p4 p5)), .second, .val (.double (lw_oq p1 p2 p3 p4 p5)), .second, .val (.double (lw_op p1 p2 p3 p4 p5)), .second, .val (.long (lw_dq p1 p2 p3 p4 p5)), .second, .val (.long (lw_dp p1 p2 p3 p4 p5)), .second, .val (.int (1 : Int32))] [])) t
          refine XS.goto X0.here hx rfl (pc0 := 109) (pc' := 140) rfl (hb hby at_109) (by decide) (by decide) ?_
          show Steps p.tables e below (s₁.setTop (mkF m 140 #[.val (.int p1), .val (.int p2), .val (.int p3), .val (.int p4), .val (.int p5), .val (.int (lw_fine p1 p2 p3 p4 p5)), .val (.double (lw_scale p1 p2 p3 p4 p5)), .second, .val (.double (lw_qu p1 p2 p3 p4 p5)), .second, .val (.double (lw_pay p1 p2 p3 p4 p5)), .second, .val (.double (lw_oq p1 p2 p3 p4 p5)), .second, .val (.double (lw_op p1 p2 p3 p4 p5)), .second, .val (.long (lw_dq p1 p2 p3 p4 p5)), .second, .val (.long (lw_dp p1 p2 p3 p4 p5)), .second, .val (.int (1 : Int32))] [])) t
          have q : (lw_exp p1 p2 p3 p4 p5) = (1 : Int32) := by simp only [lw_exp, c6, c10, if_true, if_false, Bool.false_eq_true]; try rfl
          rw [q] at k
          clear q
          exact k
        · refine XS.ifNo X0.here hx rfl (hb hby at_81) rfl (Bool.eq_false_iff.mpr c10) ?_
          show Steps p.tables e below (s₁.setTop (mkF m 84 #[.val (.int p1), .val (.int p2), .val (.int p3), .val (.int p4), .val (.int p5), .val (.int (lw_fine p1 p2 p3 p4 p5)), .val (.double (lw_scale p1 p2 p3 p4 p5)), .second, .val (.double (lw_qu p1 p2 p3 p4 p5)), .second, .val (.double (lw_pay p1 p2 p3 p4 p5)), .second, .val (.double (lw_oq p1 p2 p3 p4 p5)), .second, .val (.double (lw_op p1 p2 p3 p4 p5)), .second, .val (.long (lw_dq p1 p2 p3 p4 p5)), .second, .val (.long (lw_dp p1 p2 p3 p4 p5)), .second, .unset] [])) t
          refine XT.lload X0.here hx rfl (hb hby at_84) rfl ?_
          show Steps p.tables e below (s₁.setTop (mkF m 86 #[.val (.int p1), .val (.int p2), .val (.int p3), .val (.int p4), .val (.int p5), .val (.int (lw_fine p1 p2 p3 p4 p5)), .val (.double (lw_scale p1 p2 p3 p4 p5)), .second, .val (.double (lw_qu p1 p2 p3 p4 p5)), .second, .val (.double (lw_pay p1 p2 p3 p4 p5)), .second, .val (.double (lw_oq p1 p2 p3 p4 p5)), .second, .val (.double (lw_op p1 p2 p3 p4 p5)), .second, .val (.long (lw_dq p1 p2 p3 p4 p5)), .second, .val (.long (lw_dp p1 p2 p3 p4 p5)), .second, .unset] [(.long (lw_dq p1 p2 p3 p4 p5))])) t
          refine X0.ldc2J hx hown (mvT hZ (hw _ (List.mem_of_getElem? (i := 7) rfl))) (g := (mkF m 86 #[.val (.int p1), .val (.int p2), .val (.int p3), .val (.int p4), .val (.int p5), .val (.int (lw_fine p1 p2 p3 p4 p5)), .val (.double (lw_scale p1 p2 p3 p4 p5)), .second, .val (.double (lw_qu p1 p2 p3 p4 p5)), .second, .val (.double (lw_pay p1 p2 p3 p4 p5)), .second, .val (.double (lw_oq p1 p2 p3 p4 p5)), .second, .val (.double (lw_op p1 p2 p3 p4 p5)), .second, .val (.long (lw_dq p1 p2 p3 p4 p5)), .second, .val (.long (lw_dp p1 p2 p3 p4 p5)), .second, .unset] [(.long (lw_dq p1 p2 p3 p4 p5))])) rfl (hb hby at_86) ?_
          show Steps p.tables e below (s₁.setTop (mkF m 89 #[.val (.int p1), .val (.int p2), .val (.int p3), .val (.int p4), .val (.int p5), .val (.int (lw_fine p1 p2 p3 p4 p5)), .val (.double (lw_scale p1 p2 p3 p4 p5)), .second, .val (.double (lw_qu p1 p2 p3 p4 p5)), .second, .val (.double (lw_pay p1 p2 p3 p4 p5)), .second, .val (.double (lw_oq p1 p2 p3 p4 p5)), .second, .val (.double (lw_op p1 p2 p3 p4 p5)), .second, .val (.long (lw_dq p1 p2 p3 p4 p5)), .second, .val (.long (lw_dp p1 p2 p3 p4 p5)), .second, .unset] [(.long (-2 : Int64)), (.long (lw_dq p1 p2 p3 p4 p5))])) t
          refine XT.lcmp X0.here hx rfl (hb hby at_89) rfl ?_
          show Steps p.tables e below (s₁.setTop (mkF m 90 #[.val (.int p1), .val (.int p2), .val (.int p3), .val (.int p4), .val (.int p5), .val (.int (lw_fine p1 p2 p3 p4 p5)), .val (.double (lw_scale p1 p2 p3 p4 p5)), .second, .val (.double (lw_qu p1 p2 p3 p4 p5)), .second, .val (.double (lw_pay p1 p2 p3 p4 p5)), .second, .val (.double (lw_oq p1 p2 p3 p4 p5)), .second, .val (.double (lw_op p1 p2 p3 p4 p5)), .second, .val (.long (lw_dq p1 p2 p3 p4 p5)), .second, .val (.long (lw_dp p1 p2 p3 p4 p5)), .second, .unset] [(.int (XT.cmpL (lw_dq p1 p2 p3 p4 p5) (-2 : Int64)))])) t
          by_cases c11 : (ifCond.holds .lt (XT.cmpL (lw_dq p1 p2 p3 p4 p5) (-2 : Int64))) = true
          · refine XS.ifYes X0.here hx rfl (pc0 := 90) (pc' := 106) rfl (hb hby at_90) rfl c11 (by decide) (by decide) ?_
            show Steps p.tables e below (s₁.setTop (mkF m 106 #[.val (.int p1), .val (.int p2), .val (.int p3), .val (.int p4), .val (.int p5), .val (.int (lw_fine p1 p2 p3 p4 p5)), .val (.double (lw_scale p1 p2 p3 p4 p5)), .second, .val (.double (lw_qu p1 p2 p3 p4 p5)), .second, .val (.double (lw_pay p1 p2 p3 p4 p5)), .second, .val (.double (lw_oq p1 p2 p3 p4 p5)), .second, .val (.double (lw_op p1 p2 p3 p4 p5)), .second, .val (.long (lw_dq p1 p2 p3 p4 p5)), .second, .val (.long (lw_dp p1 p2 p3 p4 p5)), .second, .unset] [])) t
            refine XS.iconst X0.here hx rfl (hb hby at_106) ?_
            show Steps p.tables e below (s₁.setTop (mkF m 107 #[.val (.int p1), .val (.int p2), .val (.int p3), .val (.int p4), .val (.int p5), .val (.int (lw_fine p1 p2 p3 p4 p5)), .val (.double (lw_scale p1 p2 p3 p4 p5)), .second, .val (.double (lw_qu p1 p2 p3 p4 p5)), .second, .val (.double (lw_pay p1 p2 p3 p4 p5)), .second, .val (.double (lw_oq p1 p2 p3 p4 p5)), .second, .val (.double (lw_op p1 p2 p3 p4 p5)), .second, .val (.long (lw_dq p1 p2 p3 p4 p5)), .second, .val (.long (lw_dp p1 p2 p3 p4 p5)), .second, .unset] [(.int (0 : Int32))])) t
            refine XS.istore X0.here hx rfl (hb hby at_107) rfl (l' := #[.val (.int p1), .val (.int p2), .val (.int p3), .val (.int p4), .val (.int p5), .val (.int (lw_fine p1 p2 p3 p4 p5)), .val (.double (lw_scale p1 p2 p3 p4 p5)), .second, .val (.double (lw_qu p1 p2 p3 p4 p5)), .second, .val (.double (lw_pay p1 p2 p3 p4 p5)), .second, .val (.double (lw_oq p1 p2 p3 p4 p5)), .second, .val (.double (lw_op p1 p2 p3 p4 p5)), .second, .val (.long (lw_dq p1 p2 p3 p4 p5)), .second, .val (.long (lw_dp p1 p2 p3 p4 p5)), .second, .val (.int (0 : Int32))]) rfl ?_
            show Steps p.tables e below (s₁.setTop (mkF m 109 #[.val (.int p1), .val (.int p2), .val (.int p3), .val (.int p4), .val (.int p5), .val (.int (lw_fine p1 p2 p3 p4 p5)), .val (.double (lw_scale p1 p2 p3 p4 p5)), .second, .val (.double (lw_qu p1 p2 p3 p4 p5)), .second, .val (.double (lw_pay p1 p2 p3 p4 p5)), .second, .val (.double (lw_oq p1 p2 p3 p4 p5)), .second, .val (.double (lw_op p1 p2 p3 p4 p5)), .second, .val (.long (lw_dq p1 p2 p3 p4 p5)), .second, .val (.long (lw_dp p1 p2 p3 p4 p5)), .second, .val (.int (0 : Int32))] [])) t
            refine XS.goto X0.here hx rfl (pc0 := 109) (pc' := 140) rfl (hb hby at_109) (by decide) (by decide) ?_
            show Steps p.tables e below (s₁.setTop (mkF m 140 #[.val (.int p1), .val (.int p2), .val (.int p3), .val (.int p4), .val (.int p5), .val (.int (lw_fine p1 p2 p3 p4 p5)), .val (.double (lw_scale p1 p2 p3 p4 p5)), .second, .val (.double (lw_qu p1 p2 p3 p4 p5)), .second, .val (.double (lw_pay p1 p2 p3 p4 p5)), .second, .val (.double (lw_oq p1 p2 p3 p4 p5)), .second, .val (.double (lw_op p1 p2 p3 p4 p5)), .second, .val (.long (lw_dq p1 p2 p3 p4 p5)), .second, .val (.long (lw_dp p1 p2 p3 p4 p5)), .second, .val (.int (0 : Int32))] [])) t
            have q : (lw_exp p1 p2 p3 p4 p5) = (0 : Int32) := by simp only [lw_exp, c6, c10, c11, if_true, if_false, Bool.false_eq_true]; try rfl
            rw [q] at k
            clear q
            exact k
          · refine XS.ifNo X0.here hx rfl (hb hby at_90) rfl (Bool.eq_false_iff.mpr c11) ?_
            show Steps p.tables e below (s₁.setTop (mkF m 93 #[.val (.int p1), .val (.int p2), .val (.int p3), .val (.int p4), .val (.int p5), .val (.int (lw_fine p1 p2 p3 p4 p5)), .val (.double (lw_scale p1 p2 p3 p4 p5)), .second, .val (.double (lw_qu p1 p2 p3 p4 p5)), .second, .val (.double (lw_pay p1 p2 p3 p4 p5)), .second, .val (.double (lw_oq p1 p2 p3 p4 p5)), .second, .val (.double (lw_op p1 p2 p3 p4 p5)), .second, .val (.long (lw_dq p1 p2 p3 p4 p5)), .second, .val (.long (lw_dp p1 p2 p3 p4 p5)), .second, .unset] [])) t
            refine XT.lload X0.here hx rfl (hb hby at_93) rfl ?_
            show Steps p.tables e below (s₁.setTop (mkF m 95 #[.val (.int p1), .val (.int p2), .val (.int p3), .val (.int p4), .val (.int p5), .val (.int (lw_fine p1 p2 p3 p4 p5)), .val (.double (lw_scale p1 p2 p3 p4 p5)), .second, .val (.double (lw_qu p1 p2 p3 p4 p5)), .second, .val (.double (lw_pay p1 p2 p3 p4 p5)), .second, .val (.double (lw_oq p1 p2 p3 p4 p5)), .second, .val (.double (lw_op p1 p2 p3 p4 p5)), .second, .val (.long (lw_dq p1 p2 p3 p4 p5)), .second, .val (.long (lw_dp p1 p2 p3 p4 p5)), .second, .unset] [(.long (lw_dp p1 p2 p3 p4 p5))])) t
            refine X0.ldc2J hx hown (mvT hZ (hw _ (List.mem_of_getElem? (i := 6) rfl))) (g := (mkF m 95 #[.val (.int p1), .val (.int p2), .val (.int p3), .val (.int p4), .val (.int p5), .val (.int (lw_fine p1 p2 p3 p4 p5)), .val (.double (lw_scale p1 p2 p3 p4 p5)), .second, .val (.double (lw_qu p1 p2 p3 p4 p5)), .second, .val (.double (lw_pay p1 p2 p3 p4 p5)), .second, .val (.double (lw_oq p1 p2 p3 p4 p5)), .second, .val (.double (lw_op p1 p2 p3 p4 p5)), .second, .val (.long (lw_dq p1 p2 p3 p4 p5)), .second, .val (.long (lw_dp p1 p2 p3 p4 p5)), .second, .unset] [(.long (lw_dp p1 p2 p3 p4 p5))])) rfl (hb hby at_95) ?_
            show Steps p.tables e below (s₁.setTop (mkF m 98 #[.val (.int p1), .val (.int p2), .val (.int p3), .val (.int p4), .val (.int p5), .val (.int (lw_fine p1 p2 p3 p4 p5)), .val (.double (lw_scale p1 p2 p3 p4 p5)), .second, .val (.double (lw_qu p1 p2 p3 p4 p5)), .second, .val (.double (lw_pay p1 p2 p3 p4 p5)), .second, .val (.double (lw_oq p1 p2 p3 p4 p5)), .second, .val (.double (lw_op p1 p2 p3 p4 p5)), .second, .val (.long (lw_dq p1 p2 p3 p4 p5)), .second, .val (.long (lw_dp p1 p2 p3 p4 p5)), .second, .unset] [(.long (3 : Int64)), (.long (lw_dp p1 p2 p3 p4 p5))])) t
            refine XT.lcmp X0.here hx rfl (hb hby at_98) rfl ?_
            show Steps p.tables e below (s₁.setTop (mkF m 99 #[.val (.int p1), .val (.int p2), .val (.int p3), .val (.int p4), .val (.int p5), .val (.int (lw_fine p1 p2 p3 p4 p5)), .val (.double (lw_scale p1 p2 p3 p4 p5)), .second, .val (.double (lw_qu p1 p2 p3 p4 p5)), .second, .val (.double (lw_pay p1 p2 p3 p4 p5)), .second, .val (.double (lw_oq p1 p2 p3 p4 p5)), .second, .val (.double (lw_op p1 p2 p3 p4 p5)), .second, .val (.long (lw_dq p1 p2 p3 p4 p5)), .second, .val (.long (lw_dp p1 p2 p3 p4 p5)), .second, .unset] [(.int (XT.cmpL (lw_dp p1 p2 p3 p4 p5) (3 : Int64)))])) t
            by_cases c12 : (ifCond.holds .lt (XT.cmpL (lw_dp p1 p2 p3 p4 p5) (3 : Int64))) = true
            · refine XS.ifYes X0.here hx rfl (pc0 := 99) (pc' := 106) rfl (hb hby at_99) rfl c12 (by decide) (by decide) ?_
              show Steps p.tables e below (s₁.setTop (mkF m 106 #[.val (.int p1), .val (.int p2), .val (.int p3), .val (.int p4), .val (.int p5), .val (.int (lw_fine p1 p2 p3 p4 p5)), .val (.double (lw_scale p1 p2 p3 p4 p5)), .second, .val (.double (lw_qu p1 p2 p3 p4 p5)), .second, .val (.double (lw_pay p1 p2 p3 p4 p5)), .second, .val (.double (lw_oq p1 p2 p3 p4 p5)), .second, .val (.double (lw_op p1 p2 p3 p4 p5)), .second, .val (.long (lw_dq p1 p2 p3 p4 p5)), .second, .val (.long (lw_dp p1 p2 p3 p4 p5)), .second, .unset] [])) t
              refine XS.iconst X0.here hx rfl (hb hby at_106) ?_
              show Steps p.tables e below (s₁.setTop (mkF m 107 #[.val (.int p1), .val (.int p2), .val (.int p3), .val (.int p4), .val (.int p5), .val (.int (lw_fine p1 p2 p3 p4 p5)), .val (.double (lw_scale p1 p2 p3 p4 p5)), .second, .val (.double (lw_qu p1 p2 p3 p4 p5)), .second, .val (.double (lw_pay p1 p2 p3 p4 p5)), .second, .val (.double (lw_oq p1 p2 p3 p4 p5)), .second, .val (.double (lw_op p1 p2 p3 p4 p5)), .second, .val (.long (lw_dq p1 p2 p3 p4 p5)), .second, .val (.long (lw_dp p1 p2 p3 p4 p5)), .second, .unset] [(.int (0 : Int32))])) t
              refine XS.istore X0.here hx rfl (hb hby at_107) rfl (l' := #[.val (.int p1), .val (.int p2), .val (.int p3), .val (.int p4), .val (.int p5), .val (.int (lw_fine p1 p2 p3 p4 p5)), .val (.double (lw_scale p1 p2 p3 p4 p5)), .second, .val (.double (lw_qu p1 p2 p3 p4 p5)), .second, .val (.double (lw_pay p1 p2 p3 p4 p5)), .second, .val (.double (lw_oq p1 p2 p3 p4 p5)), .second, .val (.double (lw_op p1 p2 p3 p4 p5)), .second, .val (.long (lw_dq p1 p2 p3 p4 p5)), .second, .val (.long (lw_dp p1 p2 p3 p4 p5)), .second, .val (.int (0 : Int32))]) rfl ?_
              show Steps p.tables e below (s₁.setTop (mkF m 109 #[.val (.int p1), .val (.int p2), .val (.int p3), .val (.int p4), .val (.int p5), .val (.int (lw_fine p1 p2 p3 p4 p5)), .val (.double (lw_scale p1 p2 p3 p4 p5)), .second, .val (.double (lw_qu p1 p2 p3 p4 p5)), .second, .val (.double (lw_pay p1 p2 p3 p4 p5)), .second, .val (.double (lw_oq p1 p2 p3 p4 p5)), .second, .val (.double (lw_op p1 p2 p3 p4 p5)), .second, .val (.long (lw_dq p1 p2 p3 p4 p5)), .second, .val (.long (lw_dp p1 p2 p3 p4 p5)), .second, .val (.int (0 : Int32))] [])) t
              refine XS.goto X0.here hx rfl (pc0 := 109) (pc' := 140) rfl (hb hby at_109) (by decide) (by decide) ?_
              show Steps p.tables e below (s₁.setTop (mkF m 140 #[.val (.int p1), .val (.int p2), .val (.int p3), .val (.int p4), .val (.int p5), .val (.int (lw_fine p1 p2 p3 p4 p5)), .val (.double (lw_scale p1 p2 p3 p4 p5)), .second, .val (.double (lw_qu p1 p2 p3 p4 p5)), .second, .val (.double (lw_pay p1 p2 p3 p4 p5)), .second, .val (.double (lw_oq p1 p2 p3 p4 p5)), .second, .val (.double (lw_op p1 p2 p3 p4 p5)), .second, .val (.long (lw_dq p1 p2 p3 p4 p5)), .second, .val (.long (lw_dp p1 p2 p3 p4 p5)), .second, .val (.int (0 : Int32))] [])) t
              have q : (lw_exp p1 p2 p3 p4 p5) = (0 : Int32) := by simp only [lw_exp, c6, c10, c11, c12, if_true, if_false, Bool.false_eq_true]; try rfl
              rw [q] at k
              clear q
              exact k
            · refine XS.ifNo X0.here hx rfl (hb hby at_99) rfl (Bool.eq_false_iff.mpr c12) ?_
              show Steps p.tables e below (s₁.setTop (mkF m 102 #[.val (.int p1), .val (.int p2), .val (.int p3), .val (.int p4), .val (.int p5), .val (.int (lw_fine p1 p2 p3 p4 p5)), .val (.double (lw_scale p1 p2 p3 p4 p5)), .second, .val (.double (lw_qu p1 p2 p3 p4 p5)), .second, .val (.double (lw_pay p1 p2 p3 p4 p5)), .second, .val (.double (lw_oq p1 p2 p3 p4 p5)), .second, .val (.double (lw_op p1 p2 p3 p4 p5)), .second, .val (.long (lw_dq p1 p2 p3 p4 p5)), .second, .val (.long (lw_dp p1 p2 p3 p4 p5)), .second, .unset] [])) t
              refine XS.iconst X0.here hx rfl (hb hby at_102) ?_
              show Steps p.tables e below (s₁.setTop (mkF m 103 #[.val (.int p1), .val (.int p2), .val (.int p3), .val (.int p4), .val (.int p5), .val (.int (lw_fine p1 p2 p3 p4 p5)), .val (.double (lw_scale p1 p2 p3 p4 p5)), .second, .val (.double (lw_qu p1 p2 p3 p4 p5)), .second, .val (.double (lw_pay p1 p2 p3 p4 p5)), .second, .val (.double (lw_oq p1 p2 p3 p4 p5)), .second, .val (.double (lw_op p1 p2 p3 p4 p5)), .second, .val (.long (lw_dq p1 p2 p3 p4 p5)), .second, .val (.long (lw_dp p1 p2 p3 p4 p5)), .second, .unset] [(.int (1 : Int32))])) t
              refine XS.goto X0.here hx rfl (pc0 := 103) (pc' := 107) rfl (hb hby at_103) (by decide) (by decide) ?_
              show Steps p.tables e below (s₁.setTop (mkF m 107 #[.val (.int p1), .val (.int p2), .val (.int p3), .val (.int p4), .val (.int p5), .val (.int (lw_fine p1 p2 p3 p4 p5)), .val (.double (lw_scale p1 p2 p3 p4 p5)), .second, .val (.double (lw_qu p1 p2 p3 p4 p5)), .second, .val (.double (lw_pay p1 p2 p3 p4 p5)), .second, .val (.double (lw_oq p1 p2 p3 p4 p5)), .second, .val (.double (lw_op p1 p2 p3 p4 p5)), .second, .val (.long (lw_dq p1 p2 p3 p4 p5)), .second, .val (.long (lw_dp p1 p2 p3 p4 p5)), .second, .unset] [(.int (1 : Int32))])) t
              refine XS.istore X0.here hx rfl (hb hby at_107) rfl (l' := #[.val (.int p1), .val (.int p2), .val (.int p3), .val (.int p4), .val (.int p5), .val (.int (lw_fine p1 p2 p3 p4 p5)), .val (.double (lw_scale p1 p2 p3 p4 p5)), .second, .val (.double (lw_qu p1 p2 p3 p4 p5)), .second, .val (.double (lw_pay p1 p2 p3 p4 p5)), .second, .val (.double (lw_oq p1 p2 p3 p4 p5)), .second, .val (.double (lw_op p1 p2 p3 p4 p5)), .second, .val (.long (lw_dq p1 p2 p3 p4 p5)), .second, .val (.long (lw_dp p1 p2 p3 p4 p5)), .second, .val (.int (1 : Int32))]) rfl ?_
              show Steps p.tables e below (s₁.setTop (mkF m 109 #[.val (.int p1), .val (.int p2), .val (.int p3), .val (.int p4), .val (.int p5), .val (.int (lw_fine p1 p2 p3 p4 p5)), .val (.double (lw_scale p1 p2 p3 p4 p5)), .second, .val (.double (lw_qu p1 p2 p3 p4 p5)), .second, .val (.double (lw_pay p1 p2 p3 p4 p5)), .second, .val (.double (lw_oq p1 p2 p3 p4 p5)), .second, .val (.double (lw_op p1 p2 p3 p4 p5)), .second, .val (.long (lw_dq p1 p2 p3 p4 p5)), .second, .val (.long (lw_dp p1 p2 p3 p4 p5)), .second, .val (.int (1 : Int32))] [])) t
              refine XS.goto X0.here hx rfl (pc0 := 109) (pc' := 140) rfl (hb hby at_109) (by decide) (by decide) ?_
              show Steps p.tables e below (s₁.setTop (mkF m 140 #[.val (.int p1), .val (.int p2), .val (.int p3), .val (.int p4), .val (.int p5), .val (.int (lw_fine p1 p2 p3 p4 p5)), .val (.double (lw_scale p1 p2 p3 p4 p5)), .second, .val (.double (lw_qu p1 p2 p3 p4 p5)), .second, .val (.double (lw_pay p1 p2 p3 p4 p5)), .second, .val (.double (lw_oq p1 p2 p3 p4 p5)), .second, .val (.double (lw_op p1 p2 p3 p4 p5)), .second, .val (.long (lw_dq p1 p2 p3 p4 p5)), .second, .val (.long (lw_dp p1 p2 p3 p4 p5)), .second, .val (.int (1 : Int32))] [])) t
              have q : (lw_exp p1 p2 p3 p4 p5) = (1 : Int32) := by simp only [lw_exp, c6, c10, c11, c12, if_true, if_false, Bool.false_eq_true]; try rfl
              rw [q] at k
              clear q
              exact k
    refine sg5 _ ?_
    show Steps p.tables e below (s₁.setTop (mkF m 140 #[.val (.int p1), .val (.int p2), .val (.int p3), .val (.int p4), .val (.int p5), .val (.int (lw_fine p1 p2 p3 p4 p5)), .val (.double (lw_scale p1 p2 p3 p4 p5)), .second, .val (.double (lw_qu p1 p2 p3 p4 p5)), .second, .val (.double (lw_pay p1 p2 p3 p4 p5)), .second, .val (.double (lw_oq p1 p2 p3 p4 p5)), .second, .val (.double (lw_op p1 p2 p3 p4 p5)), .second, .val (.long (lw_dq p1 p2 p3 p4 p5)), .second, .val (.long (lw_dp p1 p2 p3 p4 p5)), .second, .val (.int (lw_exp p1 p2 p3 p4 p5))] [])) _
    refine XS.dload X0.here hx rfl (hb hby at_140) rfl ?_
    show Steps p.tables e below (s₁.setTop (mkF m 142 #[.val (.int p1), .val (.int p2), .val (.int p3), .val (.int p4), .val (.int p5), .val (.int (lw_fine p1 p2 p3 p4 p5)), .val (.double (lw_scale p1 p2 p3 p4 p5)), .second, .val (.double (lw_qu p1 p2 p3 p4 p5)), .second, .val (.double (lw_pay p1 p2 p3 p4 p5)), .second, .val (.double (lw_oq p1 p2 p3 p4 p5)), .second, .val (.double (lw_op p1 p2 p3 p4 p5)), .second, .val (.long (lw_dq p1 p2 p3 p4 p5)), .second, .val (.long (lw_dp p1 p2 p3 p4 p5)), .second, .val (.int (lw_exp p1 p2 p3 p4 p5))] [(.double (lw_qu p1 p2 p3 p4 p5))])) _
    refine XS.dload X0.here hx rfl (hb hby at_142) rfl ?_
    show Steps p.tables e below (s₁.setTop (mkF m 144 #[.val (.int p1), .val (.int p2), .val (.int p3), .val (.int p4), .val (.int p5), .val (.int (lw_fine p1 p2 p3 p4 p5)), .val (.double (lw_scale p1 p2 p3 p4 p5)), .second, .val (.double (lw_qu p1 p2 p3 p4 p5)), .second, .val (.double (lw_pay p1 p2 p3 p4 p5)), .second, .val (.double (lw_oq p1 p2 p3 p4 p5)), .second, .val (.double (lw_op p1 p2 p3 p4 p5)), .second, .val (.long (lw_dq p1 p2 p3 p4 p5)), .second, .val (.long (lw_dp p1 p2 p3 p4 p5)), .second, .val (.int (lw_exp p1 p2 p3 p4 p5))] [(.double (lw_pay p1 p2 p3 p4 p5)), (.double (lw_qu p1 p2 p3 p4 p5))])) _
    refine XS.dload X0.here hx rfl (hb hby at_144) rfl ?_
    show Steps p.tables e below (s₁.setTop (mkF m 146 #[.val (.int p1), .val (.int p2), .val (.int p3), .val (.int p4), .val (.int p5), .val (.int (lw_fine p1 p2 p3 p4 p5)), .val (.double (lw_scale p1 p2 p3 p4 p5)), .second, .val (.double (lw_qu p1 p2 p3 p4 p5)), .second, .val (.double (lw_pay p1 p2 p3 p4 p5)), .second, .val (.double (lw_oq p1 p2 p3 p4 p5)), .second, .val (.double (lw_op p1 p2 p3 p4 p5)), .second, .val (.long (lw_dq p1 p2 p3 p4 p5)), .second, .val (.long (lw_dp p1 p2 p3 p4 p5)), .second, .val (.int (lw_exp p1 p2 p3 p4 p5))] [(.double (lw_oq p1 p2 p3 p4 p5)), (.double (lw_pay p1 p2 p3 p4 p5)), (.double (lw_qu p1 p2 p3 p4 p5))])) _
    refine XS.dload X0.here hx rfl (hb hby at_146) rfl ?_
    show Steps p.tables e below (s₁.setTop (mkF m 148 #[.val (.int p1), .val (.int p2), .val (.int p3), .val (.int p4), .val (.int p5), .val (.int (lw_fine p1 p2 p3 p4 p5)), .val (.double (lw_scale p1 p2 p3 p4 p5)), .second, .val (.double (lw_qu p1 p2 p3 p4 p5)), .second, .val (.double (lw_pay p1 p2 p3 p4 p5)), .second, .val (.double (lw_oq p1 p2 p3 p4 p5)), .second, .val (.double (lw_op p1 p2 p3 p4 p5)), .second, .val (.long (lw_dq p1 p2 p3 p4 p5)), .second, .val (.long (lw_dp p1 p2 p3 p4 p5)), .second, .val (.int (lw_exp p1 p2 p3 p4 p5))] [(.double (lw_op p1 p2 p3 p4 p5)), (.double (lw_oq p1 p2 p3 p4 p5)), (.double (lw_pay p1 p2 p3 p4 p5)), (.double (lw_qu p1 p2 p3 p4 p5))])) _
    refine st13 _ ?_
    show Steps p.tables e below (T13.setTop (mkF m 151 #[.val (.int p1), .val (.int p2), .val (.int p3), .val (.int p4), .val (.int p5), .val (.int (lw_fine p1 p2 p3 p4 p5)), .val (.double (lw_scale p1 p2 p3 p4 p5)), .second, .val (.double (lw_qu p1 p2 p3 p4 p5)), .second, .val (.double (lw_pay p1 p2 p3 p4 p5)), .second, .val (.double (lw_oq p1 p2 p3 p4 p5)), .second, .val (.double (lw_op p1 p2 p3 p4 p5)), .second, .val (.long (lw_dq p1 p2 p3 p4 p5)), .second, .val (.long (lw_dp p1 p2 p3 p4 p5)), .second, .val (.int (lw_exp p1 p2 p3 p4 p5))] [(.int (bt_res (lw_qu p1 p2 p3 p4 p5) (lw_pay p1 p2 p3 p4 p5) (lw_oq p1 p2 p3 p4 p5) (lw_op p1 p2 p3 p4 p5)))])) _
    refine XS.iload X13.here hx rfl (hb hby at_151) rfl ?_
    show Steps p.tables e below (T13.setTop (mkF m 153 #[.val (.int p1), .val (.int p2), .val (.int p3), .val (.int p4), .val (.int p5), .val (.int (lw_fine p1 p2 p3 p4 p5)), .val (.double (lw_scale p1 p2 p3 p4 p5)), .second, .val (.double (lw_qu p1 p2 p3 p4 p5)), .second, .val (.double (lw_pay p1 p2 p3 p4 p5)), .second, .val (.double (lw_oq p1 p2 p3 p4 p5)), .second, .val (.double (lw_op p1 p2 p3 p4 p5)), .second, .val (.long (lw_dq p1 p2 p3 p4 p5)), .second, .val (.long (lw_dp p1 p2 p3 p4 p5)), .second, .val (.int (lw_exp p1 p2 p3 p4 p5))] [(.int (lw_exp p1 p2 p3 p4 p5)), (.int (bt_res (lw_qu p1 p2 p3 p4 p5) (lw_pay p1 p2 p3 p4 p5) (lw_oq p1 p2 p3 p4 p5) (lw_op p1 p2 p3 p4 p5)))])) _
    refine XS.icmpNo X13.here hx rfl (hb hby at_153) rfl (own_same p1 p2 p3 p4 p5) ?_
    show Steps p.tables e below (T13.setTop (mkF m 156 #[.val (.int p1), .val (.int p2), .val (.int p3), .val (.int p4), .val (.int p5), .val (.int (lw_fine p1 p2 p3 p4 p5)), .val (.double (lw_scale p1 p2 p3 p4 p5)), .second, .val (.double (lw_qu p1 p2 p3 p4 p5)), .second, .val (.double (lw_pay p1 p2 p3 p4 p5)), .second, .val (.double (lw_oq p1 p2 p3 p4 p5)), .second, .val (.double (lw_op p1 p2 p3 p4 p5)), .second, .val (.long (lw_dq p1 p2 p3 p4 p5)), .second, .val (.long (lw_dp p1 p2 p3 p4 p5)), .second, .val (.int (lw_exp p1 p2 p3 p4 p5))] [])) _
    refine XS.iconst X13.here hx rfl (hb hby at_156) ?_
    show Steps p.tables e below (T13.setTop (mkF m 157 #[.val (.int p1), .val (.int p2), .val (.int p3), .val (.int p4), .val (.int p5), .val (.int (lw_fine p1 p2 p3 p4 p5)), .val (.double (lw_scale p1 p2 p3 p4 p5)), .second, .val (.double (lw_qu p1 p2 p3 p4 p5)), .second, .val (.double (lw_pay p1 p2 p3 p4 p5)), .second, .val (.double (lw_oq p1 p2 p3 p4 p5)), .second, .val (.double (lw_op p1 p2 p3 p4 p5)), .second, .val (.long (lw_dq p1 p2 p3 p4 p5)), .second, .val (.long (lw_dp p1 p2 p3 p4 p5)), .second, .val (.int (lw_exp p1 p2 p3 p4 p5))] [(.int (1 : Int32))])) _
    refine XS.goto X13.here hx rfl (pc0 := 157) (pc' := 161) rfl (hb hby at_157) (by decide) (by decide) ?_
    show Steps p.tables e below (T13.setTop (mkF m 161 #[.val (.int p1), .val (.int p2), .val (.int p3), .val (.int p4), .val (.int p5), .val (.int (lw_fine p1 p2 p3 p4 p5)), .val (.double (lw_scale p1 p2 p3 p4 p5)), .second, .val (.double (lw_qu p1 p2 p3 p4 p5)), .second, .val (.double (lw_pay p1 p2 p3 p4 p5)), .second, .val (.double (lw_oq p1 p2 p3 p4 p5)), .second, .val (.double (lw_op p1 p2 p3 p4 p5)), .second, .val (.long (lw_dq p1 p2 p3 p4 p5)), .second, .val (.long (lw_dp p1 p2 p3 p4 p5)), .second, .val (.int (lw_exp p1 p2 p3 p4 p5))] [(.int (1 : Int32))])) _
    exact retN X13 hx (t := .boolean) Bd.returns (by simp) (hb hby at_161) hr
  · show Q_lw Z p1 p2 p3 p4 p5  h0 n0 _ T13.heap _
    exact ⟨rfl, Nn13⟩
set_option maxRecDepth 65536 in
set_option maxHeartbeats 40000000 in
theorem comes_1 {Post : Tables → Env → Array Value → State → Outcome → State → Prop} (hpost : ∀ tb e args s v u, (limb_1_1.after args s (.returned v) u = true ∧ limb_1_2.after args s (.returned v) u = true ∧ True) → FrameEnd s (.returned v) u (Jvm.fieldLocs frame_1_writes args s ++ Jvm.arrayLocs frame_1_arrays args s ++ Jvm.staticLocs frame_1_statics s) 0 0 → Post tb e args s (.returned v) u) :
    ArmFor flags0 classFile x code maxLocals ret World_1 tables_1 room_1 Calls_1 rest_1 Pre_1 Post := by
  intro l hfl _ _ p e ha hc hk s m args below hf hA hF happ hP
  obtain ⟨hcalls, hrest, hpre⟩ := hP
  obtain ⟨-, -, -, hnamed, -, -, -, hat⟩ := (Spec.applies_iff hf).mp happ
  obtain ⟨hg, hn⟩ := and_e (Cond.before_iff.mp (show (Jvm.Cond.and given_1 narrow_1).before args s = true from hpre))
  obtain ⟨h1, g0⟩ := and_e hg
  obtain ⟨i0, g1⟩ := and_e g0
  obtain ⟨i1, g2⟩ := and_e g1
  obtain ⟨i2, g3⟩ := and_e g2
  obtain ⟨i3, g4⟩ := and_e g3
  obtain ⟨w0, w1, w2, w3, w4, rfl⟩ : ∃ w0 w1 w2 w3 w4 : Value, args = #[w0, w1, w2, w3, w4] := by
    have hs : args.size = 5 := by simpa [Cond.value, given_1] using h1
    obtain ⟨L⟩ := args
    match L, hs with
    | [w0, w1, w2, w3, w4], _ => exact ⟨w0, w1, w2, w3, w4, rfl⟩
  have hw := fun d (hd : d ∈ tables_1) => atoms_spec (ws := Jvm.Cond.code x code maxLocals ret :: tables_1) hat d (List.mem_cons_of_mem _ hd)
  obtain ⟨v0, e0⟩ := is_v i0
  obtain rfl : w0 = (.int v0) := Option.some.inj e0
  obtain ⟨v1, e1⟩ := is_v i1
  obtain rfl : w1 = (.int v1) := Option.some.inj e1
  obtain ⟨v2, e2⟩ := is_v i2
  obtain rfl : w2 = (.int v2) := Option.some.inj e2
  obtain ⟨v3, e3⟩ := is_v i3
  obtain rfl : w3 = (.int v3) := Option.some.inj e3
  obtain ⟨v4, e4⟩ := is_v g4
  obtain rfl : w4 = (.int v4) := Option.some.inj e4
  obtain ⟨n, o, h1, h2, h3, _, L, rfl, ⟨rfl, N⟩, hq⟩ := rm_lw l s _ hw tables_1 v0 v1 v2 v3 v4  s.heap s.heap.size (Nat.le_refl _)  p e ha hc hk s m _ below hf ((Spec.applies_iff_loose hf).mp happ).1 ⟨rfl, State.Warmed39.refl s, rfl⟩ trivial
  refine ⟨n, _, h1, h2, h3, hpost _ _ _ _ _ _ ⟨Cond.after_iff.mpr rfl, Cond.after_iff.mpr (eq_i res_at (Term.int_eval (1)) rfl), trivial⟩ ⟨hq.1, hq.2.1, (hq.2.2.sift fun y hy => Or.inr (N y hy)).mono (by decide) (by decide)⟩⟩
theorem main_1_1 : Claimed_1_1 := comes_1 fun _ _ _ _ _ _ h hF => ⟨h.1, hF⟩
theorem main_1_2 : Claimed_1_2 := comes_1 fun _ _ _ _ _ _ h hF => ⟨h.2.1, hF⟩
end Jvm.Pilot.@@N@@
namespace Jvm.Pilot.@@N@@
open Jvm Jvm.ClassFile Sem Op Lib Jvm.Free Jvm.Stand Jvm.Pilot.@@N@@.Jvm.D
/-! MADE BY PROGRAM (witnessworld.py) out of the Statement's table words and the real class files: 9 classes; the members and pool entries that the words name. The judged class is class 1, her method 1. -/
namespace start1
open Jvm.ClassFile
def u (s : String) : CpInfo := .utf8 (stringToUtf16 s)
/-- a pool by its gaps: so many unusable entries, then the entry; so many at the end -/
def gap : Nat → List CpInfo → List CpInfo
  | 0, r => r
  | n + 1, r => .unusable :: gap n r
def poolList (es : List (Nat × CpInfo)) (last : Nat) : List CpInfo := es.foldr (fun e r => gap e.1 (e.2 :: r)) (gap last [])
def pool (es : List (Nat × CpInfo)) (last : Nat) : Array CpInfo := ⟨poolList es last⟩
def fileOf (pool : Array CpInfo) (this : Nat) (attrs : Array Attribute := #[]) (ms : Array MethodInfo := #[]) (fl : Nat := 33) (sup : Nat := 0) (ifs : Array Nat := #[]) (fds : Array FieldInfo := #[]) : ClassFile where
  minorVersion := 0
  majorVersion := 65
  constantPool := pool
  accessFlags := fl
  thisClass := this
  superClass := sup
  interfaces := ifs
  fields := fds
  methods := ms
  attributes := attrs
def plain (name : String) (sup : Option ClassId) : Class where
  name := name
  kind := .ordinary
  loader := none
  accessFlags := 33
  super := sup
  interfaces := #[]
  cf := none
  fields := #[]
  methods := #[]
  instanceTypes := #[]
  staticTypes := #[]
  resolved := #[]
  callSites := []
  init := .initialized
  statics := none
  mirror := none

def pool0 : Array CpInfo := pool [(5, u "<init>"), (0, u "()V"), (1, .class_ 10), (1, u "java/lang/Object")] 113

def k0m0 : Method := { name := "<init>", desc := "()V", sig := { parameters := [], returnType := none }, accessFlags := 1, code := none }
/-- java/lang/Object -/
def k0 : Class := { plain "java/lang/Object" none with
  accessFlags := 33
  interfaces := #[]
  cf := some (fileOf pool0 8 #[] #[{ accessFlags := 1, nameIndex := 5, descriptorIndex := 6, attributes := #[] }] 33 0 #[] #[])
  fields := #[]
  methods := #[k0m0]
  instanceTypes := #[]
  staticTypes := #[]
  resolved := Array.replicate 124 none
  statics := none }

def pool1 : Array CpInfo := pool [(2, .class_ 4), (1, u "java/lang/Object"), (0, u "<init>"), (0, u "()V"), (0, .double 4746794007248502784), (1, .long 3), (1, .long 18446744073709551614), (1, .methodref 14 15), (0, .class_ 16), (0, .nameAndType 17 18), (0, u "com/example/muster/muster/plan/Candidates"), (0, u "better"), (0, u "(DDDD)Z"), (0, .class_ 20), (0, u "com/example/muster/muster/plan/CandidatesBetterPinLaw"), (2, u "law"), (0, u "(IIIII)Z")] 3

def k1m0 : Method := { name := "<init>", desc := "()V", sig := { parameters := [], returnType := none }, accessFlags := 1, code := none }
def k1c1 : Code := { maxStack := 8, maxLocals := 21, code := code, exceptionTable := #[], attributes := #[] }
def k1m1 : Method := { name := "law", desc := "(IIIII)Z", sig := { parameters := [.int, .int, .int, .int, .int], returnType := some .boolean }, accessFlags := 9, code := some k1c1 }
/-- com/example/muster/muster/plan/CandidatesBetterPinLaw -/
def k1 : Class := { plain "com/example/muster/muster/plan/CandidatesBetterPinLaw" (some 0) with
  accessFlags := 49
  interfaces := #[]
  cf := some (fileOf pool1 19 #[] #[{ accessFlags := 1, nameIndex := 5, descriptorIndex := 6, attributes := #[] }, { accessFlags := 9, nameIndex := 23, descriptorIndex := 24, attributes := #[] }] 49 2 #[] #[])
  fields := #[]
  methods := #[k1m0, k1m1]
  instanceTypes := #[]
  staticTypes := #[]
  resolved := Array.replicate 28 none
  statics := none }

def pool2 : Array CpInfo := pool [(2, .class_ 4), (1, u "java/lang/Object"), (6, .class_ 13), (1, u "com/example/muster/muster/plan/Candidates"), (0, u "workers"), (0, u "Ljava/util/List;"), (2, u "offers"), (87, u "tasks"), (2, u "highestQualities"), (0, u "[D"), (7, u "[[D"), (2, u "shares"), (8, .double 4472406533629990549), (23, u "better"), (0, u "(DDDD)Z")] 25

def k2c0 : Code := { maxStack := 6, maxLocals := 8, code := prog_32_method_10_code, exceptionTable := #[], attributes := #[] }
def k2m0 : Method := { name := "better", desc := "(DDDD)Z", sig := { parameters := [.double, .double, .double, .double], returnType := some .boolean }, accessFlags := 8, code := some k2c0 }
/-- com/example/muster/muster/plan/Candidates -/
def k2 : Class := { plain "com/example/muster/muster/plan/Candidates" (some 0) with
  accessFlags := 48
  interfaces := #[]
  cf := some (fileOf pool2 11 #[] #[{ accessFlags := 8, nameIndex := 154, descriptorIndex := 155, attributes := #[] }] 48 2 #[] #[{ accessFlags := 18, nameIndex := 106, descriptorIndex := 15, attributes := #[] }, { accessFlags := 18, nameIndex := 14, descriptorIndex := 15, attributes := #[] }, { accessFlags := 18, nameIndex := 18, descriptorIndex := 15, attributes := #[] }, { accessFlags := 18, nameIndex := 121, descriptorIndex := 118, attributes := #[] }, { accessFlags := 18, nameIndex := 109, descriptorIndex := 110, attributes := #[] }])
  fields := #[{ name := "tasks", type := (.object "java/util/List"), accessFlags := 18, slot := 0, constantValue := 0 }, { name := "workers", type := (.object "java/util/List"), accessFlags := 18, slot := 1, constantValue := 0 }, { name := "offers", type := (.object "java/util/List"), accessFlags := 18, slot := 2, constantValue := 0 }, { name := "shares", type := (.array (.array .double)), accessFlags := 18, slot := 3, constantValue := 0 }, { name := "highestQualities", type := (.array .double), accessFlags := 18, slot := 4, constantValue := 0 }]
  methods := #[k2m0]
  instanceTypes := #[(.object "java/util/List"), (.object "java/util/List"), (.object "java/util/List"), (.array (.array .double)), (.array .double)]
  staticTypes := #[]
  resolved := Array.replicate 181 none
  statics := none }

def pool3 : Array CpInfo := pool [(1, u "java/lang/Cloneable"), (0, .class_ 1), (0, u "java/lang/Object"), (0, .class_ 3)] 3

/-- java/lang/Cloneable -/
def k3 : Class := { plain "java/lang/Cloneable" (some 0) with
  accessFlags := 1537
  interfaces := #[]
  cf := some (fileOf pool3 2 #[] #[] 1537 4 #[] #[])
  fields := #[]
  methods := #[]
  instanceTypes := #[]
  staticTypes := #[]
  resolved := Array.replicate 8 none
  statics := none }

def pool4 : Array CpInfo := pool [(1, u "java/io/Serializable"), (0, .class_ 1), (0, u "java/lang/Object"), (0, .class_ 3)] 3

/-- java/io/Serializable -/
def k4 : Class := { plain "java/io/Serializable" (some 0) with
  accessFlags := 1537
  interfaces := #[]
  cf := some (fileOf pool4 2 #[] #[] 1537 4 #[] #[])
  fields := #[]
  methods := #[]
  instanceTypes := #[]
  staticTypes := #[]
  resolved := Array.replicate 8 none
  statics := none }

/-- the primitive byte -/
def k5 : Class := { plain "byte" none with kind := .primitive 'B', accessFlags := 0x411 }
/-- [B -/
def k6 : Class := { plain "[B" (some 0) with kind := .array 5 .byte, interfaces := #[3, 4], accessFlags := 1041 }

/-- the primitive int -/
def k7 : Class := { plain "int" none with kind := .primitive 'I', accessFlags := 0x411 }
/-- [I -/
def k8 : Class := { plain "[I" (some 0) with kind := .array 7 .int, interfaces := #[3, 4], accessFlags := 1041 }

def heap : Heap := #[]
def classes : Array Class := #[k0, k1, k2, k3, k4, k5, k6, k7, k8]
def interned : List (Array UInt16 × Addr) := []
def slotsUsed : Nat := 0
def theMethod : MethodId := ⟨1, 1⟩
def args0 : Array Value := #[.int 3, .int 4, .int 5, .int 6, .int 7]
def aboutOver (below : List Frame) : State where
  vm := { classes := classes, interned := interned.toArray }
  heap := heap
  slotsUsed := slotsUsed
  threads := #[{ frames := .invoking theMethod args0 :: below }]
def below0 : List Frame := [.native { method := ⟨0, 0⟩, args := #[] }]
def about1 : State := aboutOver below0
def p0 : Program := .bare "" "" ""
def e0 : Env := launch0.env 0 0 0
theorem w_frames : about1.frames = Frame.invoking theMethod args0 :: below0 := rfl
set_option maxRecDepth 65536 in
theorem w_args : argsFit about1.vm theMethod args0 = true := by decide +kernel
set_option maxRecDepth 65536 in
theorem w_heap : heapFits about1 = true := by decide +kernel
set_option maxRecDepth 65536 in
theorem w_runnable : about1.curStatus? = some .runnable := by decide +kernel
set_option maxRecDepth 65536 in
theorem w_alone : about1.alone = true := by decide +kernel
set_option maxRecDepth 65536 in
theorem w_named : about1.methodNamed? x = some theMethod := by decide +kernel
set_option maxRecDepth 65536 in
theorem w_hears : about1.hears theMethod below0 = true := by decide +kernel
set_option maxRecDepth 65536 in
theorem w_ripe : about1.ripe theMethod args0 below0 = true := by decide +kernel
theorem w_running : about1.status = .running := rfl
set_option maxRecDepth 65536 in
theorem w_room : about1.hasRoom e0.platform room_1 = true :=
  launch0.hasRoom_least _ room_1 (by decide +kernel) (by decide +kernel) (by decide +kernel) (by decide +kernel) (by decide +kernel) (by decide +kernel)
theorem allAtoms_all (ts : List Jvm.Cond) (a : Array Jvm.Value) (st : Jvm.State) : (allAtoms ts).before a st = ts.all (fun c => c.before a st) := by
  induction ts with
  | nil => rfl
  | cons c t ih =>
    show (Jvm.Cond.and c (allAtoms t)).before a st = _
    rw [Jvm.Cond.before_and, ih, List.all_cons]
def words1 : List Jvm.Cond := Jvm.Cond.code x code maxLocals ret :: tables_1
/-- a 'code' word, met by the world's own term for the bytes: nothing is compared byte by byte -/
theorem code_word {y : MethodName} {bytes : ByteArray} {mx : Nat} {rt : Option FieldType} {a : Array Value} {s : State} {m : MethodId} {meth : Method} {c : Code} (h1 : s.methodNamed? y = some m) (h2 : s.vm.method? m = some meth) (h3 : meth.code = some c) (h4 : c.code = bytes)
    (h5 : (c.maxLocals == mx && c.exceptionTable.isEmpty && decide (c.maxStack ≤ mostOperands) && decide (meth.sig.returnType = rt) && !meth.locks && decide (parseMethodDescriptor y.desc = some meth.sig)) = true) : (Jvm.Cond.code y bytes mx rt).before a s = true := by
  simp only [Bool.and_eq_true, beq_iff_eq, Bool.not_eq_true', decide_eq_true_eq] at h5
  obtain ⟨⟨⟨⟨⟨g1, g2⟩, g3⟩, g4⟩, g5⟩, g6⟩ := h5
  simp [Cond.before, Cond.holds, Cond.value, h1, h2, h3, h4, g1, g2, g3, g4, g5, g6]
def isCode : Jvm.Cond → Bool
  | .code _ _ _ _ => true
  | _ => false
theorem all_split {L : List Jvm.Cond} {P : Jvm.Cond → Bool} (h1 : L.all (fun c => isCode c || P c) = true) (h2 : ∀ c ∈ L.filter isCode, P c = true) : L.all P = true := by
  refine List.all_eq_true.mpr fun c hc => ?_
  have h := List.all_eq_true.mp h1 c hc
  rcases Bool.eq_false_or_eq_true (isCode c) with hi | hi
  · exact h2 c (List.mem_filter.mpr ⟨hc, hi⟩)
  · simpa [hi] using h
set_option maxRecDepth 65536 in
theorem w_c0 : (Jvm.Cond.code x code maxLocals ret).before args0 about1 = true := code_word (m := ⟨1, 1⟩) (meth := k1m1) (c := k1c1) (by decide +kernel) rfl rfl rfl (by decide +kernel)
set_option maxRecDepth 65536 in
theorem w_c1 : (Jvm.Cond.code ({ cls := "com/example/muster/muster/plan/Candidates", name := "better", desc := "(DDDD)Z" } : Jvm.MethodName) prog_32_method_10_code (8 : Nat) (Option.some Jvm.ClassFile.FieldType.boolean)).before args0 about1 = true := code_word (m := ⟨2, 0⟩) (meth := k2m0) (c := k2c0) (by decide +kernel) rfl rfl rfl (by decide +kernel)
def codes1 : List Jvm.Cond := [Jvm.Cond.code x code maxLocals ret, Jvm.Cond.code ({ cls := "com/example/muster/muster/plan/Candidates", name := "better", desc := "(DDDD)Z" } : Jvm.MethodName) prog_32_method_10_code (8 : Nat) (Option.some Jvm.ClassFile.FieldType.boolean)]
set_option maxRecDepth 65536 in
theorem codes_eq : words1.filter isCode = codes1 := rfl
theorem w_codes : ∀ c ∈ words1.filter isCode, c.before args0 about1 = true := by
  rw [codes_eq]
  intro c hc
  simp only [codes1, List.mem_cons, List.not_mem_nil, or_false] at hc
  rcases hc with rfl | rfl
  · exact w_c0
  · exact w_c1
set_option maxRecDepth 65536 in
theorem w_t1 : words1.all (fun c => isCode c || c.before args0 about1) = true := by decide +kernel
theorem w_tables : (allAtoms (Jvm.Cond.code x code maxLocals ret :: tables_1)).before args0 about1 = true := by
  rw [allAtoms_all]
  show words1.all (fun c => c.before args0 about1) = true
  refine all_split ?_ w_codes
  rw [w_t1]
set_option maxRecDepth 65536 in
theorem w_case : (Jvm.Cond.and given_1 narrow_1).before args0 about1 = true := by decide +kernel
theorem w_applies : (headSpec (Jvm.Cond.code x code maxLocals ret :: tables_1) room_1).applies x e0.platform about1 = true :=
  (Spec.applies_iff w_frames).mpr ⟨w_running, w_runnable, w_alone, w_named, w_hears, w_ripe, w_room, w_tables⟩
theorem atStart : AtStart classFile x code maxLocals ret World_1 tables_1 room_1 Calls_1 rest_1 Pre_1 launch0 p0 e0 about1 theMethod args0 below0 :=
  ⟨lists_1, trivial, launch0.admits_env _ _ _, launch0.least_env, fairChoices_fair.cas, fairChoices_fair.clock, w_frames, w_args, w_heap, w_applies, trivial, trivial, w_case⟩
end start1
theorem witness_1 : WitnessClaimed_1 := ⟨start1.p0, start1.e0, start1.about1, start1.theMethod, start1.args0, start1.below0, start1.atStart⟩
end Jvm.Pilot.@@N@@
