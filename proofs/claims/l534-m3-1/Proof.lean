import JvmDerived
import JvmDerived.Pilot.@@N@@Statement
import JvmDerived.Pilot.@@N@@Code
set_option linter.unusedVariables false
set_option linter.unusedSimpArgs false
@@BLOCK:NumsL.lean.txt@@
namespace Jvm.RoadKit
open Sem ClassFile Op Lib Jvm.Stand Jvm.Free Jvm.LawKit
section New
variable {p : Program} {l : Launch} {e : Env} {R : Room} {s : State} {m : MethodId} {args : Array Value} {below : List Frame} {meth : Method} {c : Code} {T : State} {locs : List Loc} {cells slots : Nat}
theorem retI (X : Stand p l e R s m args below meth c T locs cells slots) (hx : p.tables.exec = Jvm.exec) {pc : Nat} {Ls : Array Slot} {z : Int32} {rest : List Value} (hret : meth.sig.returnType = some .int) (hd : decode c.code pc = .ok (.ireturn, 1)) {fs : List Frame}
    (hl : ∀ (f : JFrame) (acts : List Action), f.method = m → f.locked = none → f.entered = [] → (doReturn e (T.setTop f) acts (some (.int z))).1 = T.setFrames fs) : Steps p.tables e below (T.setTop (mkF m pc Ls (.int z :: rest))) (T.setFrames fs) := by
  have hm' : T.vm.method? m = some meth := X.method'
  have hn : narrow .int (.int z) = .int z := rfl
  show Steps p.tables e below (T.setTop { method := m, pc := pc, locals := Ls, stack := _ :: rest, locked := none }) _
  jvm_step X.here [X.here.top, hx, hd, hm', hret, hn]
  first | (intro acts; rw [hl _ acts rfl rfl rfl]) | rw [hl _ _ rfl rfl rfl]
  exact Steps.refl _
end New
end Jvm.RoadKit
namespace Jvm.Pilot.@@N@@
open Jvm Jvm.ClassFile Sem Op Lib Jvm.Free Jvm.Stand Jvm.LawKit Jvm.RoadKit Bundle Jvm.Pilot.@@N@@.Jvm.D
/-! own text: doubles as whole numbers of 2^-1074 (own_Fin), what a double can hold (own_Rep), and the four operations by bounds -/
def own_Rep (z : Int) : Prop := ∃ (s : Bool) (c : Nat) (q : Int), FP.Core.fits FP.Core.b64 (.fin s c q) ∧ FP.Core.zval FP.Core.b64 (.fin s c q) = z
def own_Fin (a : UInt64) (z : Int) : Prop := FP.Core.DFin a ∧ FP.Core.zval FP.Core.b64 (FP.Core.val64 a) = z
def own_U : Int := ((FP.Core.one64 : Nat) : Int)
theorem own_U_pos : 0 < own_U := Int.natCast_pos.mpr FP.Core.one64_pos
theorem own_U_lit : own_U = 202402253307310618352495346718917307049556649764142118356901358027430339567995346891960383701437124495187077864316811911389808737385793476867013399940738509921517424276566361364466907742093216341239767678472745068562007483424692698618103355649159556340810056512358769552333414615230502532186327508646006263307707741093494784 := by decide +kernel
theorem own_Fin.rep {a : UInt64} {z : Int} (h : own_Fin a z) : own_Rep z := by
  obtain ⟨⟨s, c, q, e⟩, h⟩ := h
  refine ⟨s, c, q, ?_, ?_⟩
  · rw [← e]; exact FP.Core.val64_fits a
  · rw [← e]; exact h
theorem own_Fin.ne {a : UInt64} {z : Int} (h : own_Fin a z) : FP.Core.val64 a ≠ .nan := h.1.ne_nan
theorem own_Fin.nn {a : UInt64} {z : Int} (h : own_Fin a z) : Jvm.Free.Fl.NoNaN64 a := Jvm.Free.Fl.val64_no.mpr h.ne
def own_Val (a : UInt64) (z : Int) : Prop := FP.Core.val64 a ≠ .nan ∧ FP.Core.zval FP.Core.b64 (FP.Core.val64 a) = z
theorem own_Fin.v {a : UInt64} {z : Int} (h : own_Fin a z) : own_Val a z := ⟨h.ne, h.2⟩
theorem own_Val.nn {a : UInt64} {z : Int} (h : own_Val a z) : Jvm.Free.Fl.NoNaN64 a := Jvm.Free.Fl.val64_no.mpr h.1
theorem own_Fin.cast {a : UInt64} {z w : Int} (h : own_Fin a z) (e : z = w) : own_Fin a w := e ▸ h
theorem own_signed_le (s : Bool) (n : Nat) : FP.Core.signed s n ≤ (n : Int) ∧ -(n : Int) ≤ FP.Core.signed s n := by
  cases s <;> simp only [FP.Core.signed, if_true, Bool.false_eq_true, if_false] <;> omega
theorem own_zval_inf (f : FP.Core.Fmt) (s : Bool) : FP.Core.zval f (.inf s) = FP.Core.signed s (f.tails * 2 ^ (f.exps - 2)) := rfl
theorem own_zval_fin (f : FP.Core.Fmt) (s : Bool) (c : Nat) (q : Int) : FP.Core.zval f (.fin s c q) = FP.Core.signed s (FP.Core.inUnits c q f.qmin) := rfl
theorem own_Rep.lt {z : Int} (h : own_Rep z) : z < ((FP.Core.b64.tails * 2 ^ (FP.Core.b64.exps - 2) : Nat) : Int) ∧ -((FP.Core.b64.tails * 2 ^ (FP.Core.b64.exps - 2) : Nat) : Int) < z := by
  obtain ⟨s, c, q, hf, rfl⟩ := h
  have h1 := FP.Core.zmag_lt_top FP.Core.good_b64 hf
  have h2 := own_signed_le s (FP.Core.inUnits c q FP.Core.b64.qmin)
  rw [own_zval_fin]
  generalize FP.Core.inUnits c q FP.Core.b64.qmin = n at *
  generalize FP.Core.b64.tails * 2 ^ (FP.Core.b64.exps - 2) = t at *
  omega
theorem own_fin_of {r : UInt64} {lo hi : Int} (hn : FP.Core.val64 r ≠ .nan) (rl : own_Rep lo) (rh : own_Rep hi) (h1 : lo ≤ FP.Core.zval FP.Core.b64 (FP.Core.val64 r)) (h2 : FP.Core.zval FP.Core.b64 (FP.Core.val64 r) ≤ hi) :
    ∃ z, own_Fin r z ∧ lo ≤ z ∧ z ≤ hi := by
  refine ⟨_, ⟨?_, rfl⟩, h1, h2⟩
  have a := rl.lt
  have b := rh.lt
  cases hv : FP.Core.val64 r with
  | nan => exact absurd hv hn
  | fin s c q => exact ⟨s, c, q, hv⟩
  | inf s =>
    exfalso
    rw [hv, own_zval_inf] at h1 h2
    generalize FP.Core.b64.tails * 2 ^ (FP.Core.b64.exps - 2) = t at *
    cases s <;> simp only [FP.Core.signed, if_true, Bool.false_eq_true, if_false] at h1 h2 <;> omega
theorem own_add {a b : UInt64} {x y lo hi : Int} (ha : own_Fin a x) (hb : own_Fin b y) (rl : own_Rep lo) (rh : own_Rep hi) (h1 : lo ≤ x + y) (h2 : x + y ≤ hi) : ∃ z, own_Fin (FP.dadd a b) z ∧ lo ≤ z ∧ z ≤ hi := by
  obtain ⟨s1, c1, q1, f1, e1⟩ := id rl
  obtain ⟨s2, c2, q2, f2, e2⟩ := id rh
  have ev : FP.Core.val64 (FP.dadd a b) = _ := FP.Core.val64_dadd a b
  refine own_fin_of ((FP.Core.notNaN_iff _).mp (FP.Core.dadd_out ha.1.notNaN hb.1)) rl rh ?_ ?_
  · rw [ev, ← e1]
    exact FP.Core.sum_ge FP.Core.good_b64 ha.1 hb.1 (FP.Core.val64_fits a) (FP.Core.val64_fits b) f1 (fun q => nomatch q) (by rw [e1, ha.2, hb.2]; exact h1)
  · rw [ev, ← e2]
    exact FP.Core.sum_le FP.Core.good_b64 ha.1 hb.1 (FP.Core.val64_fits a) (FP.Core.val64_fits b) f2 (fun q => nomatch q) (by rw [e2, ha.2, hb.2]; exact h2)
theorem own_add_e {a b : UInt64} {x y : Int} (ha : own_Fin a x) (hb : own_Fin b y) (r : own_Rep (x + y)) : own_Fin (FP.dadd a b) (x + y) := by
  obtain ⟨z, h, h1, h2⟩ := own_add ha hb r r (Int.le_refl _) (Int.le_refl _)
  exact h.cast (Int.le_antisymm h2 h1)
theorem own_fin_negate {d : FP.Core.Datum} (h : ∃ s c q, d = .fin s c q) : ∃ s c q, FP.Core.negate d = .fin s c q := by
  obtain ⟨s, c, q, rfl⟩ := h
  exact ⟨!s, c, q, rfl⟩
theorem own_sub {a b : UInt64} {x y lo hi : Int} (ha : own_Fin a x) (hb : own_Fin b y) (rl : own_Rep lo) (rh : own_Rep hi) (h1 : lo ≤ x - y) (h2 : x - y ≤ hi) : ∃ z, own_Fin (FP.dsub a b) z ∧ lo ≤ z ∧ z ≤ hi := by
  obtain ⟨s1, c1, q1, f1, e1⟩ := id rl
  obtain ⟨s2, c2, q2, f2, e2⟩ := id rh
  have ev : FP.Core.val64 (FP.dsub a b) = _ := FP.Core.val64_dsub a b
  refine own_fin_of ((FP.Core.notNaN_iff _).mp (FP.Core.dsub_out ha.1.notNaN hb.1)) rl rh ?_ ?_
  · rw [ev, ← e1]
    exact FP.Core.sum_ge FP.Core.good_b64 ha.1 (own_fin_negate hb.1) (FP.Core.val64_fits a) (FP.Core.negate_fits (FP.Core.val64_fits b)) f1 (fun q => nomatch q) (by rw [e1, ha.2, FP.Core.zval_negate, hb.2]; omega)
  · rw [ev, ← e2]
    exact FP.Core.sum_le FP.Core.good_b64 ha.1 (own_fin_negate hb.1) (FP.Core.val64_fits a) (FP.Core.negate_fits (FP.Core.val64_fits b)) f2 (fun q => nomatch q) (by rw [e2, ha.2, FP.Core.zval_negate, hb.2]; omega)
theorem own_sub_e {a b : UInt64} {x y : Int} (ha : own_Fin a x) (hb : own_Fin b y) (r : own_Rep (x - y)) : own_Fin (FP.dsub a b) (x - y) := by
  obtain ⟨z, h, h1, h2⟩ := own_sub ha hb r r (Int.le_refl _) (Int.le_refl _)
  exact h.cast (Int.le_antisymm h2 h1)
theorem own_qq : (FP.Core.b64.qmin - 2 * FP.Core.b64.qmin).toNat = (-FP.Core.b64.qmin).toNat := by rw [FP.Core.qmin_b64]; rfl
theorem own_mul_ge {a b : UInt64} {x y lo : Int} (ha : own_Fin a x) (hb : own_Fin b y) (rl : own_Rep lo) (h1 : lo * own_U ≤ x * y) : lo ≤ FP.Core.zval FP.Core.b64 (FP.Core.val64 (FP.dmul a b)) := by
  obtain ⟨s1, c1, q1, f1, e1⟩ := id rl
  obtain ⟨s, c, q, ea⟩ := id ha.1
  obtain ⟨t, d, r, eb⟩ := id hb.1
  have fa := FP.Core.val64_fits a
  have fb := FP.Core.val64_fits b
  have za := ha.2
  have zb := hb.2
  have ev : FP.Core.val64 (FP.dmul a b) = _ := FP.Core.val64_dmul a b
  rw [ea] at fa za ev
  rw [eb] at fb zb ev
  obtain ⟨p1, p2, p3⟩ := FP.Core.product_units fa fb
  rw [p1] at ev
  have hq : 2 * FP.Core.b64.qmin ≤ FP.Core.b64.qmin := by rw [FP.Core.qmin_b64]; decide
  have hs : FP.Core.signed (s != t) (FP.Core.inUnits (c * d) (q + r) (2 * FP.Core.b64.qmin)) = x * y := by
    rw [p3, FP.Core.signed_xor, ← za, ← zb]; rfl
  have hu : ((2 ^ (FP.Core.b64.qmin - 2 * FP.Core.b64.qmin).toNat : Nat) : Int) = own_U := by rw [own_qq, FP.Core.pow_qmin64]; rfl
  rw [ev, ← e1]
  exact FP.Core.zval_round_ge FP.Core.good_b64 f1 (fun q => nomatch q) hq p2 (by rw [hs, hu, e1]; exact h1)
theorem own_mul_le {a b : UInt64} {x y hi : Int} (ha : own_Fin a x) (hb : own_Fin b y) (rh : own_Rep hi) (h2 : x * y ≤ hi * own_U) : FP.Core.zval FP.Core.b64 (FP.Core.val64 (FP.dmul a b)) ≤ hi := by
  obtain ⟨s2, c2, q2, f2, e2⟩ := id rh
  obtain ⟨s, c, q, ea⟩ := id ha.1
  obtain ⟨t, d, r, eb⟩ := id hb.1
  have fa := FP.Core.val64_fits a
  have fb := FP.Core.val64_fits b
  have za := ha.2
  have zb := hb.2
  have ev : FP.Core.val64 (FP.dmul a b) = _ := FP.Core.val64_dmul a b
  rw [ea] at fa za ev
  rw [eb] at fb zb ev
  obtain ⟨p1, p2, p3⟩ := FP.Core.product_units fa fb
  rw [p1] at ev
  have hq : 2 * FP.Core.b64.qmin ≤ FP.Core.b64.qmin := by rw [FP.Core.qmin_b64]; decide
  have hs : FP.Core.signed (s != t) (FP.Core.inUnits (c * d) (q + r) (2 * FP.Core.b64.qmin)) = x * y := by
    rw [p3, FP.Core.signed_xor, ← za, ← zb]; rfl
  have hu : ((2 ^ (FP.Core.b64.qmin - 2 * FP.Core.b64.qmin).toNat : Nat) : Int) = own_U := by rw [own_qq, FP.Core.pow_qmin64]; rfl
  rw [ev, ← e2]
  exact FP.Core.zval_round_le FP.Core.good_b64 f2 (fun q => nomatch q) hq p2 (by rw [hs, hu, e2]; exact h2)
theorem own_mul_ne {a b : UInt64} {x y : Int} (ha : own_Fin a x) (hb : own_Fin b y) : FP.Core.val64 (FP.dmul a b) ≠ .nan := (FP.Core.notNaN_iff _).mp (FP.Core.dmul_out ha.1 hb.1)
theorem own_mul {a b : UInt64} {x y lo hi : Int} (ha : own_Fin a x) (hb : own_Fin b y) (rl : own_Rep lo) (rh : own_Rep hi) (h1 : lo * own_U ≤ x * y) (h2 : x * y ≤ hi * own_U) : ∃ z, own_Fin (FP.dmul a b) z ∧ lo ≤ z ∧ z ≤ hi :=
  own_fin_of (own_mul_ne ha hb) rl rh (own_mul_ge ha hb rl h1) (own_mul_le ha hb rh h2)
theorem own_mul_e {a b : UInt64} {x y z : Int} (ha : own_Fin a x) (hb : own_Fin b y) (r : own_Rep z) (e : x * y = z * own_U) : own_Fin (FP.dmul a b) z := by
  obtain ⟨w, h, h1, h2⟩ := own_mul ha hb r r (Int.le_of_eq e.symm) (Int.le_of_eq e)
  exact h.cast (Int.le_antisymm h2 h1)
theorem own_ratio_units {c d : Nat} {q r m : Int} (hq : m ≤ q) (hr : m ≤ r) (hm : m < 0) :
    FP.Core.inUnits c (q - r) (m + m - r) = FP.Core.inUnits c q m * 2 ^ (-m).toNat ∧ ∀ v : Nat, v * 2 ^ (m - (m + m - r)).toNat * d = v * FP.Core.inUnits d r m := by
  constructor
  · unfold FP.Core.inUnits
    rw [show (q - r - (m + m - r)).toNat = (q - m).toNat + (-m).toNat by omega, Nat.pow_add, Nat.mul_assoc]
  · intro v
    unfold FP.Core.inUnits
    rw [show (m - (m + m - r)).toNat = (r - m).toNat by omega, Nat.mul_assoc, Nat.mul_comm d]
theorem own_ratio_le {s s' t : Bool} {c d : Nat} {q r : Int} {V : FP.Core.Datum} (hx : FP.Core.fits FP.Core.b64 (.fin s c q)) (hy : FP.Core.fits FP.Core.b64 (.fin t d r)) (hd : 0 < d) (hV : FP.Core.fits FP.Core.b64 V) (hn : V ≠ .nan)
    (h : FP.Core.inUnits c q FP.Core.b64.qmin * FP.Core.one64 ≤ FP.Core.zmag FP.Core.b64 V * FP.Core.inUnits d r FP.Core.b64.qmin) : FP.Core.zmag FP.Core.b64 (FP.Core.roundRatio FP.Core.b64 s' c d (q - r)) ≤ FP.Core.zmag FP.Core.b64 V := by
  have hm : FP.Core.b64.qmin < 0 := by rw [FP.Core.qmin_b64]; decide
  obtain ⟨u1, u2⟩ := own_ratio_units (c := c) (d := d) hx.2.1 hy.2.1 hm
  have hqx := hx.2.1
  have hqy := hy.2.1
  refine FP.Core.zmag_roundRatio_le FP.Core.good_b64 (e0 := FP.Core.b64.qmin + FP.Core.b64.qmin - r) hd hV hn (by omega) (by omega) ?_
  rw [u1, u2, FP.Core.pow_qmin64]; exact h
theorem own_ratio_ge {s s' t : Bool} {c d : Nat} {q r : Int} {V : FP.Core.Datum} (hx : FP.Core.fits FP.Core.b64 (.fin s c q)) (hy : FP.Core.fits FP.Core.b64 (.fin t d r)) (hd : 0 < d) (hV : FP.Core.fits FP.Core.b64 V)
    (h : FP.Core.zmag FP.Core.b64 V * FP.Core.inUnits d r FP.Core.b64.qmin ≤ FP.Core.inUnits c q FP.Core.b64.qmin * FP.Core.one64) : FP.Core.zmag FP.Core.b64 V ≤ FP.Core.zmag FP.Core.b64 (FP.Core.roundRatio FP.Core.b64 s' c d (q - r)) := by
  have hm : FP.Core.b64.qmin < 0 := by rw [FP.Core.qmin_b64]; decide
  obtain ⟨u1, u2⟩ := own_ratio_units (c := c) (d := d) hx.2.1 hy.2.1 hm
  have hqx := hx.2.1
  have hqy := hy.2.1
  refine FP.Core.zmag_roundRatio_ge FP.Core.good_b64 (e0 := FP.Core.b64.qmin + FP.Core.b64.qmin - r) hd hV (by omega) (by omega) ?_
  rw [u1, u2, FP.Core.pow_qmin64]; exact h
theorem own_quot {a b : UInt64} {y : Int} {s : Bool} {c : Nat} {q : Int} (ea : FP.Core.val64 a = .fin s c q) (hb : own_Fin b y) (hy : 0 < y) :
    ∃ d r, FP.Core.val64 b = .fin false d r ∧ 0 < d ∧ y = ((FP.Core.inUnits d r FP.Core.b64.qmin : Nat) : Int) ∧ FP.Core.val64 (FP.ddiv a b) = FP.Core.roundRatio FP.Core.b64 s c d (q - r) := by
  obtain ⟨t, d, r, eb⟩ := id hb.1
  have zb := hb.2
  rw [eb, own_zval_fin] at zb
  obtain ⟨k1, k2⟩ := FP.Core.signed_pos (s := t) (m := FP.Core.inUnits d r FP.Core.b64.qmin) (by rw [zb]; exact hy)
  have ht : t = false := by
    cases t with
    | false => rfl
    | true =>
      simp only [FP.Core.signed, if_true] at k1; omega
  subst ht
  have hd : 0 < d := by
    rcases Nat.eq_zero_or_pos d with h | h
    · subst h; unfold FP.Core.inUnits at k2; omega
    · exact h
  refine ⟨d, r, eb, hd, by rw [← zb, k1], ?_⟩
  have ev : FP.Core.val64 (FP.ddiv a b) = _ := FP.Core.val64_ddiv a b
  rw [ea, eb] at ev
  rw [ev]
  show (if d = 0 then _ else FP.Core.roundRatio FP.Core.b64 (s != false) c d (q - r)) = _
  rw [if_neg (Nat.pos_iff_ne_zero.mp hd)]
  cases s <;> rfl
theorem own_div_le {a b : UInt64} {x y hi : Int} (ha : own_Fin a x) (hb : own_Fin b y) (hy : 0 < y) (rh : own_Rep hi) (h2 : x * own_U ≤ hi * y) : FP.Core.zval FP.Core.b64 (FP.Core.val64 (FP.ddiv a b)) ≤ hi := by
  obtain ⟨s2, c2, q2, f2, e2⟩ := id rh
  obtain ⟨s, c, q, ea⟩ := id ha.1
  obtain ⟨d, r, eb, hd, ey, ev⟩ := own_quot ea hb hy
  have fa := FP.Core.val64_fits a
  have fb := FP.Core.val64_fits b
  have za := ha.2
  rw [ea] at fa za
  rw [eb] at fb
  have l1 := own_ratio_le (s' := s) fa fb hd f2 (fun q => nomatch q)
  have l2 := own_ratio_ge (s' := s) fa fb hd f2
  have hY : 0 < FP.Core.inUnits d r FP.Core.b64.qmin := by omega
  rw [ev, ← e2]
  unfold FP.Core.zval
  rw [FP.Core.sgn_roundRatio]
  rw [own_zval_fin] at za
  have e2' : FP.Core.signed s2 (FP.Core.zmag FP.Core.b64 (.fin s2 c2 q2)) = hi := e2
  show FP.Core.signed s _ ≤ FP.Core.signed s2 _
  rw [← e2', ← za, ey] at h2
  unfold own_U at h2
  rw [← FP.Core.signed_mul, ← FP.Core.signed_mul] at h2
  generalize FP.Core.zmag FP.Core.b64 (FP.Core.roundRatio FP.Core.b64 s c d (q - r)) = zR at *
  generalize FP.Core.zmag FP.Core.b64 (.fin s2 c2 q2) = v at *
  have hz : v * FP.Core.inUnits d r FP.Core.b64.qmin = 0 → v = 0 := fun h => (Nat.mul_eq_zero.mp h).resolve_right (by omega)
  generalize v * FP.Core.inUnits d r FP.Core.b64.qmin = B at *
  generalize FP.Core.inUnits c q FP.Core.b64.qmin * FP.Core.one64 = A at *
  cases s <;> cases s2 <;> simp only [FP.Core.signed, if_true, Bool.false_eq_true, if_false] at h2 ⊢
  · have := l1 (by omega); omega
  · have := l1 (by omega); have := hz (by omega); omega
  · omega
  · have := l2 (by omega); omega
theorem own_neg {a : UInt64} {x : Int} (ha : own_Fin a x) : own_Fin (FP.dneg a) (-x) := by
  have e : FP.Core.val64 (FP.dneg a) = _ := FP.val64_dneg a
  refine ⟨?_, ?_⟩
  · show ∃ s c q, _ = _
    rw [e]; exact own_fin_negate ha.1
  · rw [e, FP.Core.zval_negate, ha.2]
theorem own_div_ge {a b : UInt64} {x y lo : Int} (ha : own_Fin a x) (hb : own_Fin b y) (hy : 0 < y) (rl : own_Rep lo) (h1 : lo * y ≤ x * own_U) : lo ≤ FP.Core.zval FP.Core.b64 (FP.Core.val64 (FP.ddiv a b)) := by
  obtain ⟨s2, c2, q2, f2, e2⟩ := id rl
  obtain ⟨s, c, q, ea⟩ := id ha.1
  obtain ⟨d, r, eb, hd, ey, ev⟩ := own_quot ea hb hy
  have fa := FP.Core.val64_fits a
  have fb := FP.Core.val64_fits b
  have za := ha.2
  rw [ea] at fa za
  rw [eb] at fb
  have l1 := own_ratio_le (s' := s) fa fb hd f2 (fun q => nomatch q)
  have l2 := own_ratio_ge (s' := s) fa fb hd f2
  have hY : 0 < FP.Core.inUnits d r FP.Core.b64.qmin := by omega
  rw [ev, ← e2]
  unfold FP.Core.zval
  rw [FP.Core.sgn_roundRatio]
  rw [own_zval_fin] at za
  have e2' : FP.Core.signed s2 (FP.Core.zmag FP.Core.b64 (.fin s2 c2 q2)) = lo := e2
  show FP.Core.signed s2 _ ≤ FP.Core.signed s _
  rw [← e2', ← za, ey] at h1
  unfold own_U at h1
  rw [← FP.Core.signed_mul, ← FP.Core.signed_mul] at h1
  generalize FP.Core.zmag FP.Core.b64 (FP.Core.roundRatio FP.Core.b64 s c d (q - r)) = zR at *
  generalize FP.Core.zmag FP.Core.b64 (.fin s2 c2 q2) = v at *
  have hz : v * FP.Core.inUnits d r FP.Core.b64.qmin = 0 → v = 0 := fun h => (Nat.mul_eq_zero.mp h).resolve_right (by omega)
  generalize v * FP.Core.inUnits d r FP.Core.b64.qmin = B at *
  generalize FP.Core.inUnits c q FP.Core.b64.qmin * FP.Core.one64 = A at *
  cases s <;> cases s2 <;> simp only [FP.Core.signed, if_true, Bool.false_eq_true, if_false] at h1 ⊢
  · have := l2 (by omega); omega
  · omega
  · have := l1 (by omega); have := hz (by omega); omega
  · have := l1 (by omega); omega
theorem own_div {a b : UInt64} {x y lo hi : Int} (ha : own_Fin a x) (hb : own_Fin b y) (hy : 0 < y) (rl : own_Rep lo) (rh : own_Rep hi) (h1 : lo * y ≤ x * own_U) (h2 : x * own_U ≤ hi * y) : ∃ z, own_Fin (FP.ddiv a b) z ∧ lo ≤ z ∧ z ≤ hi := by
  refine own_fin_of ?_ rl rh (own_div_ge ha hb hy rl h1) (own_div_le ha hb hy rh h2)
  obtain ⟨s, c, q, ea⟩ := id ha.1
  obtain ⟨d, r, eb, hd, ey, ev⟩ := own_quot ea hb hy
  rw [ev]; exact FP.Core.roundRatio_ne_nan _ _ _ _ _
theorem own_div_e {a b : UInt64} {x y z : Int} (ha : own_Fin a x) (hb : own_Fin b y) (hy : 0 < y) (r : own_Rep z) (e : x * own_U = z * y) : own_Fin (FP.ddiv a b) z := by
  obtain ⟨w, h, h1, h2⟩ := own_div ha hb hy r r (Int.le_of_eq e.symm) (Int.le_of_eq e)
  exact h.cast (Int.le_antisymm h2 h1)
/-- quotients of one value are one double -/
theorem own_div_same {a b a' b' : UInt64} {x y x' y' : Int} (ha : own_Fin a x) (hb : own_Fin b y) (ha' : own_Fin a' x') (hb' : own_Fin b' y') (hx : 0 < x) (hx' : 0 < x') (hy : 0 < y) (hy' : 0 < y') (e : x * y' = x' * y) : FP.Core.val64 (FP.ddiv a b) = FP.Core.val64 (FP.ddiv a' b') := by
  obtain ⟨s, c, q, ea⟩ := id ha.1
  obtain ⟨d, r, eb, hd, ey, ev⟩ := own_quot ea hb hy
  obtain ⟨s', c', q', ea'⟩ := id ha'.1
  obtain ⟨d', r', eb', hd', ey', ev'⟩ := own_quot ea' hb' hy'
  have za := ha.2
  have za' := ha'.2
  have fa := FP.Core.val64_fits a
  have fb := FP.Core.val64_fits b
  have fa' := FP.Core.val64_fits a'
  have fb' := FP.Core.val64_fits b'
  rw [ea] at za fa
  rw [ea'] at za' fa'
  rw [eb] at fb
  rw [eb'] at fb'
  rw [own_zval_fin] at za za'
  obtain ⟨k1, k2⟩ := FP.Core.signed_pos (s := s) (m := FP.Core.inUnits c q FP.Core.b64.qmin) (by rw [za]; exact hx)
  obtain ⟨k1', k2'⟩ := FP.Core.signed_pos (s := s') (m := FP.Core.inUnits c' q' FP.Core.b64.qmin) (by rw [za']; exact hx')
  have hs : s = false := by
    cases s with
    | false => rfl
    | true => simp only [FP.Core.signed, if_true] at k1; omega
  have hs' : s' = false := by
    cases s' with
    | false => rfl
    | true => simp only [FP.Core.signed, if_true] at k1'; omega
  subst hs hs'
  rw [ev, ev']
  have E : FP.Core.inUnits c q FP.Core.b64.qmin * FP.Core.inUnits d' r' FP.Core.b64.qmin = FP.Core.inUnits c' q' FP.Core.b64.qmin * FP.Core.inUnits d r FP.Core.b64.qmin := by
    have h : ((FP.Core.inUnits c q FP.Core.b64.qmin * FP.Core.inUnits d' r' FP.Core.b64.qmin : Nat) : Int) = ((FP.Core.inUnits c' q' FP.Core.b64.qmin * FP.Core.inUnits d r FP.Core.b64.qmin : Nat) : Int) := by
      rw [Int.natCast_mul, Int.natCast_mul, ← k1, ← k1', za, za', ← ey, ← ey']; exact e
    exact Int.ofNat_inj.mp h
  have g1 := fa.2.1
  have g2 := fb.2.1
  have g3 := fa'.2.1
  have g4 := fb'.2.1
  generalize FP.Core.b64.qmin = m at *
  refine FP.Core.roundRatio_congr hd hd' ?_
  unfold FP.Core.inUnits at E
  generalize ha1 : (q - m).toNat = A1 at *
  generalize ha2 : (r - m).toNat = A2 at *
  generalize ha3 : (q' - m).toNat = A3 at *
  generalize ha4 : (r' - m).toNat = A4 at *
  have E' : c * d' * 2 ^ (A1 + A4) = c' * d * 2 ^ (A3 + A2) := by
    rw [Nat.pow_add, Nat.pow_add]
    calc c * d' * (2 ^ A1 * 2 ^ A4) = c * 2 ^ A1 * (d' * 2 ^ A4) := by simp only [Nat.mul_assoc, Nat.mul_left_comm, Nat.mul_comm]
      _ = c' * 2 ^ A3 * (d * 2 ^ A2) := E
      _ = c' * d * (2 ^ A3 * 2 ^ A2) := by simp only [Nat.mul_assoc, Nat.mul_left_comm, Nat.mul_comm]
  rcases Nat.le_total (A3 + A2) (A1 + A4) with h | h
  · rw [show (q - r - (q' - r')).toNat = (A1 + A4) - (A3 + A2) by omega, show (q' - r' - (q - r)).toNat = 0 by omega]
    have : 2 ^ (A1 + A4) = 2 ^ ((A1 + A4) - (A3 + A2)) * 2 ^ (A3 + A2) := by rw [← Nat.pow_add]; congr 1; omega
    rw [this, ← Nat.mul_assoc] at E'
    rw [Nat.pow_zero, Nat.mul_one]
    exact Nat.eq_of_mul_eq_mul_right (Nat.two_pow_pos _) E'
  · rw [show (q - r - (q' - r')).toNat = 0 by omega, show (q' - r' - (q - r)).toNat = (A3 + A2) - (A1 + A4) by omega]
    have : 2 ^ (A3 + A2) = 2 ^ ((A3 + A2) - (A1 + A4)) * 2 ^ (A1 + A4) := by rw [← Nat.pow_add]; congr 1; omega
    rw [this, ← Nat.mul_assoc] at E'
    rw [Nat.pow_zero, Nat.mul_one]
    exact Nat.eq_of_mul_eq_mul_right (Nat.two_pow_pos _) E'
theorem own_cmp {a b : UInt64} {x y : Int} (ha : own_Val a x) (hb : own_Val b y) (o : CmpOp) : cmpValue (FP.dcmp a b) o = if x < y then -1 else if x = y then 0 else 1 := by
  rw [show FP.dcmp a b = _ from FP.Core.dcmp_zval ha.1 hb.1, ha.2, hb.2, FP.Core.compare_ite]
  by_cases h1 : x < y
  · rw [if_pos h1, if_pos h1]; rfl
  · rw [if_neg h1, if_neg h1]
    by_cases h2 : x = y
    · rw [if_pos h2, if_pos h2]; rfl
    · rw [if_neg h2, if_neg h2]; rfl
theorem own_if {a b : UInt64} {x y : Int} (ha : own_Val a x) (hb : own_Val b y) (o : CmpOp) :
    (ifCond.holds .eq (cmpValue (FP.dcmp a b) o) = decide (x = y)) ∧ (ifCond.holds .ne (cmpValue (FP.dcmp a b) o) = decide (x ≠ y)) ∧ (ifCond.holds .lt (cmpValue (FP.dcmp a b) o) = decide (x < y)) ∧
    (ifCond.holds .ge (cmpValue (FP.dcmp a b) o) = decide (y ≤ x)) ∧ (ifCond.holds .gt (cmpValue (FP.dcmp a b) o) = decide (y < x)) ∧ (ifCond.holds .le (cmpValue (FP.dcmp a b) o) = decide (x ≤ y)) := by
  rw [own_cmp ha hb o]
  by_cases h1 : x < y
  · rw [if_pos h1]
    rw [decide_eq_false (show ¬ x = y by omega), decide_eq_true (show x ≠ y by omega), decide_eq_true h1, decide_eq_false (show ¬ y ≤ x by omega), decide_eq_false (show ¬ y < x by omega), decide_eq_true (show x ≤ y by omega)]
    decide
  · rw [if_neg h1]
    by_cases h2 : x = y
    · rw [if_pos h2]
      rw [decide_eq_true h2, decide_eq_false (show ¬ x ≠ y by omega), decide_eq_false h1, decide_eq_true (show y ≤ x by omega), decide_eq_false (show ¬ y < x by omega), decide_eq_true (show x ≤ y by omega)]
      decide
    · rw [if_neg h2]
      rw [decide_eq_false h2, decide_eq_true (show x ≠ y by omega), decide_eq_false h1, decide_eq_true (show y ≤ x by omega), decide_eq_true (show y < x by omega), decide_eq_false (show ¬ x ≤ y by omega)]
      decide
theorem own_of_dint {i : Int} {a : UInt64} (h : FP.Core.DInt i a) : own_Fin a (i * own_U) := by
  refine ⟨?_, FP.Core.DInt_zval h⟩
  have h' : FP.Core.Whole i (FP.Core.val64 a) := h
  cases hv : FP.Core.val64 a with
  | nan => rw [hv] at h'; exact h'.elim
  | inf s => rw [hv] at h'; exact h'.elim
  | fin s c q => exact ⟨s, c, q, hv⟩
theorem own_i2d (n : Int32) : own_Fin (FP.i2d n) (n.toInt * own_U) := own_of_dint (FP.Core.i2d_int n)
theorem own_l2d {n : Int64} (h : n.toInt.natAbs ≤ 9007199254740992) : own_Fin (FP.l2d n) (n.toInt * own_U) := own_of_dint (FP.Core.l2d_int h)
theorem own_signed_self (n : Int) : FP.Core.signed (decide (n < 0)) n.natAbs = n := by
  by_cases h : n < 0
  · rw [decide_eq_true h]; simp only [FP.Core.signed, if_true]; omega
  · rw [decide_eq_false h]; simp only [FP.Core.signed, Bool.false_eq_true, if_false]; omega
theorem own_rep (n : Int) (k : Nat) {P : Int} (hP : ((2 ^ k : Nat) : Int) = P) (hn : n.natAbs < 9007199254740992) (hk : k ≤ 2045) : own_Rep (n * P) := by
  have hmax : FP.Core.b64.qmax = 971 := by decide
  obtain ⟨c', q', h1, h2⟩ := FP.Core.round_exact FP.Core.good_b64 (decide (n < 0)) (c := n.natAbs) (q := (k : Int) - 1074) (show n.natAbs < 2 ^ 53 by omega) (by rw [FP.Core.qmin_b64]; omega) (by rw [hmax]; omega)
  refine ⟨decide (n < 0), c', q', ?_, ?_⟩
  · rw [← h1]; exact FP.Core.round_fits FP.Core.good_b64 _
  · rw [own_zval_fin, h2]
    unfold FP.Core.inUnits
    rw [show ((k : Int) - 1074 - FP.Core.b64.qmin).toNat = k by rw [FP.Core.qmin_b64]; omega, FP.Core.signed_mul, hP, own_signed_self]
theorem own_rep_U (n : Int) (hn : n.natAbs < 9007199254740992) : own_Rep (n * own_U) := own_rep n 1074 rfl hn (by decide)
/-! own text: ints, longs and branches in plain integers -/
theorem own_h_eq (x : Int32) : (ifCond.holds .eq x = true) ↔ x.toInt = 0 := by
  simp only [ifCond.holds, beq_iff_eq, ← Int32.toInt_inj, Int32.toInt_zero]
theorem own_h_ne (x : Int32) : (ifCond.holds .ne x = true) ↔ x.toInt ≠ 0 := by
  simp only [ifCond.holds, bne_iff_ne, ne_eq, ← Int32.toInt_inj, Int32.toInt_zero]
theorem own_h_lt (x : Int32) : (ifCond.holds .lt x = true) ↔ x.toInt < 0 := by
  simp only [ifCond.holds, decide_eq_true_eq, Int32.lt_iff_toInt_lt, Int32.toInt_zero]
theorem own_h_ge (x : Int32) : (ifCond.holds .ge x = true) ↔ 0 ≤ x.toInt := by
  simp only [ifCond.holds, decide_eq_true_eq, ge_iff_le, Int32.le_iff_toInt_le, Int32.toInt_zero]
theorem own_h_gt (x : Int32) : (ifCond.holds .gt x = true) ↔ 0 < x.toInt := by
  simp only [ifCond.holds, decide_eq_true_eq, gt_iff_lt, Int32.lt_iff_toInt_lt, Int32.toInt_zero]
theorem own_h_le (x : Int32) : (ifCond.holds .le x = true) ↔ x.toInt ≤ 0 := by
  simp only [ifCond.holds, decide_eq_true_eq, Int32.le_iff_toInt_le, Int32.toInt_zero]
theorem own_c_eq (x y : Int32) : (if_icmp.holds .eq x y = true) ↔ x.toInt = y.toInt := by
  simp only [if_icmp.holds, beq_iff_eq, ← Int32.toInt_inj]
theorem own_c_ne (x y : Int32) : (if_icmp.holds .ne x y = true) ↔ x.toInt ≠ y.toInt := by
  simp only [if_icmp.holds, bne_iff_ne, ne_eq, ← Int32.toInt_inj]
theorem own_c_lt (x y : Int32) : (if_icmp.holds .lt x y = true) ↔ x.toInt < y.toInt := by
  simp only [if_icmp.holds, decide_eq_true_eq, Int32.lt_iff_toInt_lt]
theorem own_c_ge (x y : Int32) : (if_icmp.holds .ge x y = true) ↔ y.toInt ≤ x.toInt := by
  simp only [if_icmp.holds, decide_eq_true_eq, ge_iff_le, Int32.le_iff_toInt_le]
theorem own_c_gt (x y : Int32) : (if_icmp.holds .gt x y = true) ↔ y.toInt < x.toInt := by
  simp only [if_icmp.holds, decide_eq_true_eq, gt_iff_lt, Int32.lt_iff_toInt_lt]
theorem own_c_le (x y : Int32) : (if_icmp.holds .le x y = true) ↔ x.toInt ≤ y.toInt := by
  simp only [if_icmp.holds, decide_eq_true_eq, Int32.le_iff_toInt_le]
theorem own_L (x y : Int64) : (XT.cmpL x y).toInt = if y.toInt < x.toInt then 1 else if x.toInt = y.toInt then 0 else -1 := by
  unfold XT.cmpL
  simp only [Int64.lt_iff_toInt_lt, ← Int64.toInt_inj]
  split
  · rfl
  · split <;> rfl
theorem own_f_of {b : Bool} {p : Prop} (h : (b = true) ↔ p) (hp : ¬ p) : b = false := Bool.eq_false_iff.mpr fun q => hp (h.mp q)
theorem own_irem (x y : Int32) : (x - x / y * y).toInt = x.toInt.tmod y.toInt := by
  have a := (x % y).toInt_lt; have b := (x % y).le_toInt
  rw [Int32.toInt_mod] at a b
  rw [Int32.toInt_sub, Int32.toInt_mul, Int32.toInt_div, Int.bmod_mul_bmod, Int.sub_bmod_bmod, Int.mul_comm, ← Int.tmod_def]
  exact Jvm.Kit.bmod32 b a
theorem own_irem_nn {x y : Int32} (hx : 0 ≤ x.toInt) : (x - x / y * y).toInt = x.toInt % y.toInt := by rw [own_irem, Int.tmod_eq_emod_of_nonneg hx]
theorem own_ne0 {y : Int32} (h : y.toInt ≠ 0) : y ≠ 0 := fun q => h (by rw [q]; rfl)
theorem own_ne0L {y : Int64} (h : y.toInt ≠ 0) : y ≠ 0 := fun q => h (by rw [q]; rfl)
theorem own_mask31 (x : Int32) : 0 ≤ (x &&& 2147483647).toInt ∧ (x &&& 2147483647).toInt < 2147483648 := by
  rw [Jvm.Kit.i32_mask x 2147483647 (k := 31) (by decide) (by decide)]
  omega
def pk0_s (i1 : Int32) : Int32 := ((i1 &&& (2147483647 : Int32)) - (i1 &&& (2147483647 : Int32)) / (3 : Int32) * (3 : Int32))
def pk1_s (i1 : Int32) : Int32 := ((i1 &&& (2147483647 : Int32)) - (i1 &&& (2147483647 : Int32)) / (3 : Int32) * (3 : Int32))
def pk2_s (i1 : Int32) : Int32 := ((i1 &&& (2147483647 : Int32)) - (i1 &&& (2147483647 : Int32)) / (3 : Int32) * (3 : Int32))
def ti_res (d1 : UInt64) (d2 : UInt64) : Int32 := (if (ifCond.holds .gt (cmpValue (FP.dcmp d1 (FP.dadd d2 (4472406533629990549 : UInt64))) .g)) = true then (0 : Int32) else (1 : Int32))
def la_w0 (p1 : Int32) (p2 : Int32) (p3 : Int32) (p4 : Int32) (p5 : Int32) : Int32 := (if (if_icmp.holds .gt p2 p3) = true then (0 : Int32) else (1 : Int32))
def la_low (p1 : Int32) (p2 : Int32) (p3 : Int32) (p4 : Int32) (p5 : Int32) : UInt64 := (FP.i2d ((p4 &&& (65535 : Int32)) - (32768 : Int32)))
def la_which (p1 : Int32) (p2 : Int32) (p3 : Int32) (p4 : Int32) (p5 : Int32) : Int32 := (p5 &&& (3 : Int32))
def la_off (p1 : Int32) (p2 : Int32) (p3 : Int32) (p4 : Int32) (p5 : Int32) : UInt64 := (if (ifCond.holds .ne (la_which p1 p2 p3 p4 p5)) = true then (if (if_icmp.holds .ne (la_which p1 p2 p3 p4 p5) (1 : Int32)) = true then (if (if_icmp.holds .ne (la_which p1 p2 p3 p4 p5) (2 : Int32)) = true then (4487126258331716666 : UInt64) else (13691274970857395861 : UInt64)) else (4476910133257361045 : UInt64)) else (4467902934002620053 : UInt64))
def la_exp (p1 : Int32) (p2 : Int32) (p3 : Int32) (p4 : Int32) (p5 : Int32) : Int32 := (if (ifCond.holds .ne (la_which p1 p2 p3 p4 p5)) = true then (if (if_icmp.holds .ne (la_which p1 p2 p3 p4 p5) (1 : Int32)) = true then (if (if_icmp.holds .ne (la_which p1 p2 p3 p4 p5) (2 : Int32)) = true then (0 : Int32) else (1 : Int32)) else (0 : Int32)) else (1 : Int32))
def la_rank (p1 : Int32) (p2 : Int32) (p3 : Int32) (p4 : Int32) (p5 : Int32) : UInt64 := (FP.dadd (la_low p1 p2 p3 p4 p5) (la_off p1 p2 p3 p4 p5))
def lb_w0 (p1 : Int32) (p2 : Int32) (p3 : Int32) (p4 : Int32) (p5 : Int32) : Int32 := (if (if_icmp.holds .gt p2 p3) = true then (0 : Int32) else (1 : Int32))
def lb_low (p1 : Int32) (p2 : Int32) (p3 : Int32) (p4 : Int32) (p5 : Int32) : UInt64 := (FP.i2d ((p4 &&& (65535 : Int32)) - (32768 : Int32)))
def lb_which (p1 : Int32) (p2 : Int32) (p3 : Int32) (p4 : Int32) (p5 : Int32) : Int32 := (p5 &&& (3 : Int32))
def lb_off (p1 : Int32) (p2 : Int32) (p3 : Int32) (p4 : Int32) (p5 : Int32) : UInt64 := (if (ifCond.holds .ne (lb_which p1 p2 p3 p4 p5)) = true then (if (if_icmp.holds .ne (lb_which p1 p2 p3 p4 p5) (1 : Int32)) = true then (if (if_icmp.holds .ne (lb_which p1 p2 p3 p4 p5) (2 : Int32)) = true then (4487126258331716666 : UInt64) else (13691274970857395861 : UInt64)) else (4476910133257361045 : UInt64)) else (4467902934002620053 : UInt64))
def lb_exp (p1 : Int32) (p2 : Int32) (p3 : Int32) (p4 : Int32) (p5 : Int32) : Int32 := (if (ifCond.holds .ne (lb_which p1 p2 p3 p4 p5)) = true then (if (if_icmp.holds .ne (lb_which p1 p2 p3 p4 p5) (1 : Int32)) = true then (if (if_icmp.holds .ne (lb_which p1 p2 p3 p4 p5) (2 : Int32)) = true then (0 : Int32) else (1 : Int32)) else (0 : Int32)) else (1 : Int32))
def lb_rank (p1 : Int32) (p2 : Int32) (p3 : Int32) (p4 : Int32) (p5 : Int32) : UInt64 := (FP.dadd (lb_low p1 p2 p3 p4 p5) (lb_off p1 p2 p3 p4 p5))
def lc_w0 (p1 : Int32) (p2 : Int32) (p3 : Int32) (p4 : Int32) (p5 : Int32) : Int32 := (if (if_icmp.holds .gt p2 p3) = true then (0 : Int32) else (1 : Int32))
def lc_low (p1 : Int32) (p2 : Int32) (p3 : Int32) (p4 : Int32) (p5 : Int32) : UInt64 := (FP.i2d ((p4 &&& (65535 : Int32)) - (32768 : Int32)))
def lc_which (p1 : Int32) (p2 : Int32) (p3 : Int32) (p4 : Int32) (p5 : Int32) : Int32 := (p5 &&& (3 : Int32))
def lc_off (p1 : Int32) (p2 : Int32) (p3 : Int32) (p4 : Int32) (p5 : Int32) : UInt64 := (if (ifCond.holds .ne (lc_which p1 p2 p3 p4 p5)) = true then (if (if_icmp.holds .ne (lc_which p1 p2 p3 p4 p5) (1 : Int32)) = true then (if (if_icmp.holds .ne (lc_which p1 p2 p3 p4 p5) (2 : Int32)) = true then (4487126258331716666 : UInt64) else (13691274970857395861 : UInt64)) else (4476910133257361045 : UInt64)) else (4467902934002620053 : UInt64))
def lc_exp (p1 : Int32) (p2 : Int32) (p3 : Int32) (p4 : Int32) (p5 : Int32) : Int32 := (if (ifCond.holds .ne (lc_which p1 p2 p3 p4 p5)) = true then (if (if_icmp.holds .ne (lc_which p1 p2 p3 p4 p5) (1 : Int32)) = true then (if (if_icmp.holds .ne (lc_which p1 p2 p3 p4 p5) (2 : Int32)) = true then (0 : Int32) else (1 : Int32)) else (0 : Int32)) else (1 : Int32))
def lc_rank (p1 : Int32) (p2 : Int32) (p3 : Int32) (p4 : Int32) (p5 : Int32) : UInt64 := (FP.dadd (lc_low p1 p2 p3 p4 p5) (lc_off p1 p2 p3 p4 p5))
theorem own_tol : own_Fin (4472406533629990549 : UInt64) (202402253307310630958429797338909007118654887438383018996238090107053349717187790937094580828928127346018317182181246190777753423606597805273214056713677846082549465271899866650152119518456946835629723997780272869151252344290666936652815470740718031602060880577856668406250649933206020350981569833682408148127711232) := ⟨(FP.Core.fin_bits _).mpr (by decide), by decide +kernel⟩
theorem own_o1 : own_Fin (4467902934002620053 : UInt64) (101201126653655315479214898669454503559327443719191509498119045053526674858593895468547290414464063673009158591090623095388876711803298902636607028356838923041274732635949933325076059759228473417814861998890136434575626172145333468326407735370359015801030440288928334203125324966603010175490784916841204074063855616) := ⟨(FP.Core.fin_bits _).mpr (by decide), by decide +kernel⟩
theorem own_o2 : own_Fin (4476910133257361045 : UInt64) (404804506614621261916859594677818014237309774876766037992476180214106699434375581874189161657856254692036634364362492381555506847213195610546428113427355692165098930543799733300304239036913893671259447995560545738302504688581333873305630941481436063204121761155713336812501299866412040701963139667364816296255422464) := ⟨(FP.Core.fin_bits _).mpr (by decide), by decide +kernel⟩
theorem own_o3 : own_Fin (13691274970857395861 : UInt64) (-101201126653655315479214898669454503559327443719191509498119045053526674858593895468547290414464063673009158591090623095388876711803298902636607028356838923041274732635949933325076059759228473417814861998890136434575626172145333468326407735370359015801030440288928334203125324966603010175490784916841204074063855616) := ⟨(FP.Core.fin_bits _).mpr (by decide), by decide +kernel⟩
theorem own_o4 : own_Fin (4487126258331716666 : UInt64) (2024022533073106225872688036961955622090841916571188739852629986575720415628878817937269939153646703679059826845573545689443712552226382334986415122424743804695982350386383010762710454370264894754151887928028182769995475372231083557294238555854308760039796727051512663975034017405949518662707638550696059315607830528) := ⟨(FP.Core.fin_bits _).mpr (by decide), by decide +kernel⟩

theorem own_up (n : Int32) : ∃ z, own_Fin (FP.dadd (FP.i2d n) (4472406533629990549 : UInt64)) z ∧ n.toInt * 202402253307310618352495346718917307049556649764142118356901358027430339567995346891960383701437124495187077864316811911389808737385793476867013399940738509921517424276566361364466907742093216341239767678472745068562007483424692698618103355649159556340810056512358769552333414615230502532186327508646006263307707741093494784 ≤ z ∧ z ≤ (2 * n.toInt + 1) * 101201126653655309176247673359458653524778324882071059178450679013715169783997673445980191850718562247593538932158405955694904368692896738433506699970369254960758712138283180682233453871046608170619883839236372534281003741712346349309051677824579778170405028256179384776166707307615251266093163754323003131653853870546747392 := by
  have a := n.toInt_lt
  have b := n.le_toInt
  have hq := own_i2d n
  rw [own_U_lit] at hq
  exact own_add hq own_tol (own_rep n.toInt 1074 (P := 202402253307310618352495346718917307049556649764142118356901358027430339567995346891960383701437124495187077864316811911389808737385793476867013399940738509921517424276566361364466907742093216341239767678472745068562007483424692698618103355649159556340810056512358769552333414615230502532186327508646006263307707741093494784) (by decide +kernel) (by omega) (by decide)) (own_rep (2 * n.toInt + 1) 1073 (P := 101201126653655309176247673359458653524778324882071059178450679013715169783997673445980191850718562247593538932158405955694904368692896738433506699970369254960758712138283180682233453871046608170619883839236372534281003741712346349309051677824579778170405028256179384776166707307615251266093163754323003131653853870546747392) (by decide +kernel) (by omega) (by decide)) (by omega) (by omega)
theorem own_upn (n : Int32) : Jvm.Free.Fl.NoNaN64 (FP.dadd (FP.i2d n) (4472406533629990549 : UInt64)) := by
  obtain ⟨z, h, -⟩ := own_up n; exact h.nn
theorem own_a1 (p1 p2 p3 p4 p5 : Int32) : if_icmp.holds .ne (ti_res (FP.i2d p2) (FP.i2d p3)) (la_w0 p1 p2 p3 p4 p5) = false := by
  obtain ⟨z, h, l, u⟩ := own_up p3
  have hq := own_i2d p2
  rw [own_U_lit] at hq
  refine own_f_of (own_c_ne _ _) (fun q => q ?_)
  unfold ti_res la_w0
  rw [(own_if hq.v h.v .g).2.2.2.2.1]
  simp only [decide_eq_true_eq, own_c_gt]
  repeat' split
  all_goals first | rfl | (exfalso; omega)
theorem own_Lb (p1 p2 p3 p4 p5 : Int32) : -32768 ≤ ((p4 &&& (65535 : Int32)) - (32768 : Int32)).toInt ∧ ((p4 &&& (65535 : Int32)) - (32768 : Int32)).toInt ≤ 32767 := by
  have h := Jvm.Kit.i32_mask p4 65535 (k := 16) (by decide) (by decide)
  have e : ((p4 &&& (65535 : Int32)) - (32768 : Int32)).toInt = (p4 &&& (65535 : Int32)).toInt - 32768 := Jvm.Kit.i32_sub (p := p4 &&& 65535) (q := 32768) (by rw [h]; show _ ≤ _ - (32768 : Int); omega) (by rw [h]; show _ - (32768 : Int) < _; omega)
  rw [e, h]; omega
theorem own_near (p1 p2 p3 p4 p5 : Int32) {o : UInt64} {zo : Int} (ho : own_Fin o zo) (m n : Int) (hm : -2000 ≤ m ∧ m ≤ 2000) (hn : -2000 ≤ n ∧ n ≤ 2000) (h1 : m * 1472670216079209191611846812294369061779846741149537544383939224844146080198663889983147846225162535085015972903906454385940805786127700971461406151798572026902674582936498055383467782973408003026559655543480367258322130389749455925034296201550456726842167383528130955181647838728025835969211239052281644132073472 ≤ zo) (h2 : zo ≤ n * 1472670216079209191611846812294369061779846741149537544383939224844146080198663889983147846225162535085015972903906454385940805786127700971461406151798572026902674582936498055383467782973408003026559655543480367258322130389749455925034296201550456726842167383528130955181647838728025835969211239052281644132073472) : ∃ z, own_Fin (FP.dadd (la_low p1 p2 p3 p4 p5) o) z ∧ (((p4 &&& (65535 : Int32)) - (32768 : Int32)).toInt * 137438953472 + m) * 1472670216079209191611846812294369061779846741149537544383939224844146080198663889983147846225162535085015972903906454385940805786127700971461406151798572026902674582936498055383467782973408003026559655543480367258322130389749455925034296201550456726842167383528130955181647838728025835969211239052281644132073472 ≤ z ∧ z ≤ (((p4 &&& (65535 : Int32)) - (32768 : Int32)).toInt * 137438953472 + n) * 1472670216079209191611846812294369061779846741149537544383939224844146080198663889983147846225162535085015972903906454385940805786127700971461406151798572026902674582936498055383467782973408003026559655543480367258322130389749455925034296201550456726842167383528130955181647838728025835969211239052281644132073472 := by
  have hl := own_Lb p1 p2 p3 p4 p5
  have hq : own_Fin (la_low p1 p2 p3 p4 p5) _ := own_i2d ((p4 &&& (65535 : Int32)) - (32768 : Int32))
  rw [own_U_lit] at hq
  exact own_add hq ho (own_rep _ 1037 (by decide +kernel) (by omega) (by decide)) (own_rep _ 1037 (by decide +kernel) (by omega) (by decide)) (by omega) (by omega)
theorem own_lowt (p1 p2 p3 p4 p5 : Int32) : ∃ z, own_Fin (FP.dadd (la_low p1 p2 p3 p4 p5) (4472406533629990549 : UInt64)) z ∧ (((p4 &&& (65535 : Int32)) - (32768 : Int32)).toInt * 137438953472 + 100) * 1472670216079209191611846812294369061779846741149537544383939224844146080198663889983147846225162535085015972903906454385940805786127700971461406151798572026902674582936498055383467782973408003026559655543480367258322130389749455925034296201550456726842167383528130955181647838728025835969211239052281644132073472 ≤ z ∧ z ≤ (((p4 &&& (65535 : Int32)) - (32768 : Int32)).toInt * 137438953472 + 200) * 1472670216079209191611846812294369061779846741149537544383939224844146080198663889983147846225162535085015972903906454385940805786127700971461406151798572026902674582936498055383467782973408003026559655543480367258322130389749455925034296201550456726842167383528130955181647838728025835969211239052281644132073472 := own_near p1 p2 p3 p4 p5 own_tol 100 200 (by decide) (by decide) (by decide +kernel) (by decide +kernel)
theorem own_tl (p1 p2 p3 p4 p5 : Int32) : Jvm.Free.Fl.NoNaN64 (FP.dadd (la_low p1 p2 p3 p4 p5) (4472406533629990549 : UInt64)) := by
  obtain ⟨z, h, -⟩ := own_lowt p1 p2 p3 p4 p5; exact h.nn
theorem own_band (p1 p2 p3 p4 p5 : Int32) : ∃ z, own_Fin (FP.dadd (la_low p1 p2 p3 p4 p5) (la_off p1 p2 p3 p4 p5)) z ∧ ((la_exp p1 p2 p3 p4 p5 = 1 ∧ z ≤ (((p4 &&& (65535 : Int32)) - (32768 : Int32)).toInt * 137438953472 + 100) * 1472670216079209191611846812294369061779846741149537544383939224844146080198663889983147846225162535085015972903906454385940805786127700971461406151798572026902674582936498055383467782973408003026559655543480367258322130389749455925034296201550456726842167383528130955181647838728025835969211239052281644132073472) ∨ (la_exp p1 p2 p3 p4 p5 = 0 ∧ (((p4 &&& (65535 : Int32)) - (32768 : Int32)).toInt * 137438953472 + 250) * 1472670216079209191611846812294369061779846741149537544383939224844146080198663889983147846225162535085015972903906454385940805786127700971461406151798572026902674582936498055383467782973408003026559655543480367258322130389749455925034296201550456726842167383528130955181647838728025835969211239052281644132073472 ≤ z)) := by
  have h1 := own_near p1 p2 p3 p4 p5 own_o1 0 100 (by decide) (by decide) (by decide +kernel) (by decide +kernel)
  have h2 := own_near p1 p2 p3 p4 p5 own_o2 250 300 (by decide) (by decide) (by decide +kernel) (by decide +kernel)
  have h3 := own_near p1 p2 p3 p4 p5 own_o3 (-100) 0 (by decide) (by decide) (by decide +kernel) (by decide +kernel)
  have h4 := own_near p1 p2 p3 p4 p5 own_o4 1300 1400 (by decide) (by decide) (by decide +kernel) (by decide +kernel)
  unfold la_off la_exp
  repeat' split
  all_goals first
    | (obtain ⟨z, h, l, u⟩ := h1; exact ⟨z, h, Or.inl ⟨rfl, by omega⟩⟩)
    | (obtain ⟨z, h, l, u⟩ := h2; exact ⟨z, h, Or.inr ⟨rfl, by omega⟩⟩)
    | (obtain ⟨z, h, l, u⟩ := h3; exact ⟨z, h, Or.inl ⟨rfl, by omega⟩⟩)
    | (obtain ⟨z, h, l, u⟩ := h4; exact ⟨z, h, Or.inr ⟨rfl, by omega⟩⟩)
theorem own_rk (p1 p2 p3 p4 p5 : Int32) : Jvm.Free.Fl.NoNaN64 (FP.dadd (la_low p1 p2 p3 p4 p5) (la_off p1 p2 p3 p4 p5)) := by
  obtain ⟨z, h, -⟩ := own_band p1 p2 p3 p4 p5; exact h.nn
theorem own_a2 (p1 p2 p3 p4 p5 : Int32) : if_icmp.holds .ne (ti_res (la_rank p1 p2 p3 p4 p5) (la_low p1 p2 p3 p4 p5)) (la_exp p1 p2 p3 p4 p5) = false := by
  obtain ⟨z, h, l, u⟩ := own_lowt p1 p2 p3 p4 p5
  obtain ⟨w, hw, hc⟩ := own_band p1 p2 p3 p4 p5
  have c := (own_if hw.v h.v .g).2.2.2.2.1
  refine own_f_of (own_c_ne _ _) (fun q => q ?_)
  unfold ti_res
  rw [show ifCond.holds .gt (cmpValue (FP.dcmp (la_rank p1 p2 p3 p4 p5) (FP.dadd (la_low p1 p2 p3 p4 p5) (4472406533629990549 : UInt64))) .g) = _ from c]
  rcases hc with ⟨e, hc⟩ | ⟨e, hc⟩
  · rw [e, if_neg (by rw [decide_eq_true_eq]; omega)]
  · rw [e, if_pos (by rw [decide_eq_true_eq]; omega)]
theorem d1_0 : decode method_2_code 0 = .ok (.iload_n 0, 1) := by decide +kernel
theorem d1_1 : decode method_2_code 1 = .ok (.ldc 7, 2) := by decide +kernel
theorem d1_3 : decode method_2_code 3 = .ok (.iand, 1) := by decide +kernel
theorem d1_4 : decode method_2_code 4 = .ok (.iconst 3, 1) := by decide +kernel
theorem d1_5 : decode method_2_code 5 = .ok (.irem, 1) := by decide +kernel
theorem d1_6 : decode method_2_code 6 = .ok (.istore_n 1, 1) := by decide +kernel
theorem d1_7 : decode method_2_code 7 = .ok (.iload_n 1, 1) := by decide +kernel
theorem d1_8 : decode method_2_code 8 = .ok (.ifCond .ne 7, 3) := by decide +kernel
theorem d1_11 : decode method_2_code 11 = .ok (.getstatic 8, 3) := by decide +kernel
theorem d1_14 : decode method_2_code 14 = .ok (.areturn, 1) := by decide +kernel
theorem d1_15 : decode method_2_code 15 = .ok (.iload_n 1, 1) := by decide +kernel
theorem d1_16 : decode method_2_code 16 = .ok (.iconst 1, 1) := by decide +kernel
theorem d1_17 : decode method_2_code 17 = .ok (.if_icmp .ne 7, 3) := by decide +kernel
theorem d1_20 : decode method_2_code 20 = .ok (.getstatic 14, 3) := by decide +kernel
theorem d1_23 : decode method_2_code 23 = .ok (.areturn, 1) := by decide +kernel
theorem d1_24 : decode method_2_code 24 = .ok (.getstatic 17, 3) := by decide +kernel
theorem d1_27 : decode method_2_code 27 = .ok (.areturn, 1) := by decide +kernel
theorem d2_0 : decode prog_17_method_9_code 0 = .ok (.dload_n 1, 1) := by decide +kernel
theorem d2_1 : decode prog_17_method_9_code 1 = .ok (.dload_n 3, 1) := by decide +kernel
theorem d2_2 : decode prog_17_method_9_code 2 = .ok (.ldc2_w 88, 3) := by decide +kernel
theorem d2_5 : decode prog_17_method_9_code 5 = .ok (.dadd, 1) := by decide +kernel
theorem d2_6 : decode prog_17_method_9_code 6 = .ok (.dcmp .g, 1) := by decide +kernel
theorem d2_7 : decode prog_17_method_9_code 7 = .ok (.ifCond .gt 7, 3) := by decide +kernel
theorem d2_10 : decode prog_17_method_9_code 10 = .ok (.iconst 1, 1) := by decide +kernel
theorem d2_11 : decode prog_17_method_9_code 11 = .ok (.goto 4, 3) := by decide +kernel
theorem d2_14 : decode prog_17_method_9_code 14 = .ok (.iconst 0, 1) := by decide +kernel
theorem d2_15 : decode prog_17_method_9_code 15 = .ok (.ireturn, 1) := by decide +kernel
theorem pn_0 : plainName "com/example/muster/muster/auction/MechanismTiesPinLaw" = true := by first | (simp [plainName, overriddenIn]; done) | decide +kernel
theorem pn_1 : plainName "com/example/muster/muster/auction/Mechanism" = true := by first | (simp [plainName, overriddenIn]; done) | decide +kernel
theorem pd_0 : parseMethodDescriptor "(I)Lcom/example/muster/muster/auction/Mechanism;" = some ⟨[.int], some (.object "com/example/muster/muster/auction/Mechanism")⟩ := by decide +kernel
theorem pd_1 : parseMethodDescriptor "(DD)Z" = some ⟨[.double, .double], some .boolean⟩ := by decide +kernel
theorem ef_pk0 (m : MethodId) (i1 : Int32) : entryFrame m #[(.int i1)] 2 = (mkF m 0 #[.val (.int i1), .unset] []) := by first | (simp [entryFrame, mkF, argsToLocals, Value.category]; done) | rfl
def Q_pk0 (Z : State) (i1 : Int32) (ax : Addr) (h0 : Heap) (n0 : Nat) (v : Option Value) (h : Heap) (L : List Loc) : Prop := v = some (.ref ax) ∧ Fr n0 L ∧ h = h0
set_option maxRecDepth 65536 in
set_option maxHeartbeats 40000000 in
theorem rm_pk0 (l : Launch) (Z : State) (a0 : Array Value) (hw : ∀ d ∈ tables_1, d.before a0 Z = true) (ws : List Jvm.Cond) (i1 : Int32) (ax : Addr) (h0 : Heap) (n0 : Nat) (Z0 : n0 ≤ h0.size)  (hS : Sta Z h0 "com/example/muster/muster/auction/Mechanism" "UNIT_COST" "Lcom/example/muster/muster/auction/Mechanism;" (.ref ax)) (c1 : ifCond.holds .ne (pk0_s i1) = false)  :
    MetFree l (⟨"com/example/muster/muster/auction/MechanismTiesPinLaw", "pick", "(I)Lcom/example/muster/muster/auction/Mechanism;"⟩ : MethodName) (head1 (Jvm.Cond.code (⟨"com/example/muster/muster/auction/MechanismTiesPinLaw", "pick", "(I)Lcom/example/muster/muster/auction/Mechanism;"⟩ : MethodName) method_2_code 2 (some (.object "com/example/muster/muster/auction/Mechanism")) :: ws) ({ frames := 0, cells := 0, slots := 0, locals := 0 } : Room)) (fun a U => a = #[(.int i1)] ∧ Z.Warmed39 U.vm ∧ U.heap = h0) (fun _ _ _ _ _ => True) (fun _ U o U' => ∃ v L, o = .returned v ∧ Q_pk0 Z i1 ax h0 n0 v U'.heap L ∧ FrameEnd U o U' L ({ frames := 0, cells := 0, slots := 0, locals := 0 } : Room).cells ({ frames := 0, cells := 0, slots := 0, locals := 0 } : Room).slots) := by
  refine MetFree.of_bodySF (plainFor_of_name pn_0) hisR ?_
  intro p e s m args below meth c s₁ Bd hml0 hP hK
  obtain ⟨rfl, hZ, hh⟩ := hP
  have hx := Bd.exec
  have hby := Bd.bytes
  have hml : c.maxLocals = 2 := hml0
  have hown : s.vm.findClass "com/example/muster/muster/auction/MechanismTiesPinLaw" = some m.cls := findClass_of_methodNamed Bd.named
  have hnm := (name_of_methodNamed Bd.named Bd.method).1
  have X0 : Stand p l e ({ frames := 0, cells := 0, slots := 0, locals := 0 } : Room) s m #[(.int i1)] below meth c s₁ [] 0 0 := Stand.of_body Bd
  have e0 : s₁.heap = h0 := by rw [← hh, Bd.state]; rfl
  have N0 := Fr.nil n0
  have pre0 : ∀ t, Steps p.tables e below (s₁.setTop (mkF m 0 #[.val (.int i1), .unset] [])) t → Steps p.tables e below (s₁.setTop (entryFrame m #[(.int i1)] 2)) t := fun t k => castTop (ef_pk0 m i1) k
  obtain ⟨T1, X1, e1, st1⟩ := getS X0 hx hZ (host := "") hown (hw _ (List.mem_of_getElem? (i := 5) rfl)) Via.refl e0 hS (g := (mkF m 11 #[.val (.int i1), .val (.int (pk0_s i1))] [])) rfl (hb hby d1_11)
  obtain ⟨fs, hr, hrun, hended, hW, hsame⟩ := X1.leave (v := some (.ref ax)) (fun h => by rw [Bd.returns] at h; cases h)
  refine ⟨_, _, pre0 _ ?_, hrun, hended, _, _, rfl, ?_, ⟨_, rfl⟩, hW, hsame.mono (Nat.le_of_ble_eq_true rfl) (Nat.le_of_ble_eq_true rfl)⟩
  · show Steps p.tables e below (s₁.setTop (mkF m 0 #[.val (.int i1), .unset] [])) _
    refine XS.iloadN X0.here hx rfl (hb hby d1_0) rfl ?_
    show Steps p.tables e below (s₁.setTop (mkF m 1 #[.val (.int i1), .unset] [(.int i1)])) _
    refine X0.ldcI hx hown (mvT hZ (hw _ (List.mem_of_getElem? (i := 4) rfl))) (g := (mkF m 1 #[.val (.int i1), .unset] [(.int i1)])) rfl (hb hby d1_1) ?_
    show Steps p.tables e below (s₁.setTop (mkF m 3 #[.val (.int i1), .unset] [(.int (2147483647 : Int32)), (.int i1)])) _
    refine XS.iand X0.here hx rfl (hb hby d1_3) rfl ?_
    show Steps p.tables e below (s₁.setTop (mkF m 4 #[.val (.int i1), .unset] [(.int (i1 &&& (2147483647 : Int32)))])) _
    refine XS.iconst X0.here hx rfl (hb hby d1_4) ?_
    show Steps p.tables e below (s₁.setTop (mkF m 5 #[.val (.int i1), .unset] [(.int (3 : Int32)), (.int (i1 &&& (2147483647 : Int32)))])) _
    refine XS.irem X0.here hx rfl (hb hby d1_5) rfl (by decide) ?_
    show Steps p.tables e below (s₁.setTop (mkF m 6 #[.val (.int i1), .unset] [(.int ((i1 &&& (2147483647 : Int32)) - (i1 &&& (2147483647 : Int32)) / (3 : Int32) * (3 : Int32)))])) _
    refine XS.istoreN X0.here hx rfl (hb hby d1_6) rfl (l' := #[.val (.int i1), .val (.int (pk0_s i1))]) rfl ?_
    show Steps p.tables e below (s₁.setTop (mkF m 7 #[.val (.int i1), .val (.int (pk0_s i1))] [])) _
    refine XS.iloadN X0.here hx rfl (hb hby d1_7) rfl ?_
    show Steps p.tables e below (s₁.setTop (mkF m 8 #[.val (.int i1), .val (.int (pk0_s i1))] [(.int (pk0_s i1))])) _
    refine XS.ifNo X0.here hx rfl (hb hby d1_8) rfl c1 ?_
    show Steps p.tables e below (s₁.setTop (mkF m 11 #[.val (.int i1), .val (.int (pk0_s i1))] [])) _
    refine st1 _ ?_
    show Steps p.tables e below (T1.setTop (mkF m 14 #[.val (.int i1), .val (.int (pk0_s i1))] [(.ref ax)])) _
    exact retOut X1 hx Bd.returns rfl (Or.inr (Or.inr (Or.inr (Or.inr ⟨rfl, rfl, rfl⟩)))) (hb hby d1_14) hr
  · show Q_pk0 Z i1 ax h0 n0 _ T1.heap _
    exact ⟨rfl, N0, e1⟩
theorem ef_pk1 (m : MethodId) (i1 : Int32) : entryFrame m #[(.int i1)] 2 = (mkF m 0 #[.val (.int i1), .unset] []) := by first | (simp [entryFrame, mkF, argsToLocals, Value.category]; done) | rfl
def Q_pk1 (Z : State) (i1 : Int32) (ax : Addr) (h0 : Heap) (n0 : Nat) (v : Option Value) (h : Heap) (L : List Loc) : Prop := v = some (.ref ax) ∧ Fr n0 L ∧ h = h0
set_option maxRecDepth 65536 in
set_option maxHeartbeats 40000000 in
theorem rm_pk1 (l : Launch) (Z : State) (a0 : Array Value) (hw : ∀ d ∈ tables_1, d.before a0 Z = true) (ws : List Jvm.Cond) (i1 : Int32) (ax : Addr) (h0 : Heap) (n0 : Nat) (Z0 : n0 ≤ h0.size)  (hS : Sta Z h0 "com/example/muster/muster/auction/Mechanism" "COST_MIN" "Lcom/example/muster/muster/auction/Mechanism;" (.ref ax)) (c1 : ifCond.holds .ne (pk1_s i1) = true) (c2 : if_icmp.holds .ne (pk1_s i1) (1 : Int32) = false)  :
    MetFree l (⟨"com/example/muster/muster/auction/MechanismTiesPinLaw", "pick", "(I)Lcom/example/muster/muster/auction/Mechanism;"⟩ : MethodName) (head1 (Jvm.Cond.code (⟨"com/example/muster/muster/auction/MechanismTiesPinLaw", "pick", "(I)Lcom/example/muster/muster/auction/Mechanism;"⟩ : MethodName) method_2_code 2 (some (.object "com/example/muster/muster/auction/Mechanism")) :: ws) ({ frames := 0, cells := 0, slots := 0, locals := 0 } : Room)) (fun a U => a = #[(.int i1)] ∧ Z.Warmed39 U.vm ∧ U.heap = h0) (fun _ _ _ _ _ => True) (fun _ U o U' => ∃ v L, o = .returned v ∧ Q_pk1 Z i1 ax h0 n0 v U'.heap L ∧ FrameEnd U o U' L ({ frames := 0, cells := 0, slots := 0, locals := 0 } : Room).cells ({ frames := 0, cells := 0, slots := 0, locals := 0 } : Room).slots) := by
  refine MetFree.of_bodySF (plainFor_of_name pn_0) hisR ?_
  intro p e s m args below meth c s₁ Bd hml0 hP hK
  obtain ⟨rfl, hZ, hh⟩ := hP
  have hx := Bd.exec
  have hby := Bd.bytes
  have hml : c.maxLocals = 2 := hml0
  have hown : s.vm.findClass "com/example/muster/muster/auction/MechanismTiesPinLaw" = some m.cls := findClass_of_methodNamed Bd.named
  have hnm := (name_of_methodNamed Bd.named Bd.method).1
  have X0 : Stand p l e ({ frames := 0, cells := 0, slots := 0, locals := 0 } : Room) s m #[(.int i1)] below meth c s₁ [] 0 0 := Stand.of_body Bd
  have e0 : s₁.heap = h0 := by rw [← hh, Bd.state]; rfl
  have N0 := Fr.nil n0
  have pre0 : ∀ t, Steps p.tables e below (s₁.setTop (mkF m 0 #[.val (.int i1), .unset] [])) t → Steps p.tables e below (s₁.setTop (entryFrame m #[(.int i1)] 2)) t := fun t k => castTop (ef_pk1 m i1) k
  obtain ⟨T1, X1, e1, st1⟩ := getS X0 hx hZ (host := "") hown (hw _ (List.mem_of_getElem? (i := 22) rfl)) Via.refl e0 hS (g := (mkF m 20 #[.val (.int i1), .val (.int (pk1_s i1))] [])) rfl (hb hby d1_20)
  obtain ⟨fs, hr, hrun, hended, hW, hsame⟩ := X1.leave (v := some (.ref ax)) (fun h => by rw [Bd.returns] at h; cases h)
  refine ⟨_, _, pre0 _ ?_, hrun, hended, _, _, rfl, ?_, ⟨_, rfl⟩, hW, hsame.mono (Nat.le_of_ble_eq_true rfl) (Nat.le_of_ble_eq_true rfl)⟩
  · show Steps p.tables e below (s₁.setTop (mkF m 0 #[.val (.int i1), .unset] [])) _
    refine XS.iloadN X0.here hx rfl (hb hby d1_0) rfl ?_
    show Steps p.tables e below (s₁.setTop (mkF m 1 #[.val (.int i1), .unset] [(.int i1)])) _
    refine X0.ldcI hx hown (mvT hZ (hw _ (List.mem_of_getElem? (i := 4) rfl))) (g := (mkF m 1 #[.val (.int i1), .unset] [(.int i1)])) rfl (hb hby d1_1) ?_
    show Steps p.tables e below (s₁.setTop (mkF m 3 #[.val (.int i1), .unset] [(.int (2147483647 : Int32)), (.int i1)])) _
    refine XS.iand X0.here hx rfl (hb hby d1_3) rfl ?_
    show Steps p.tables e below (s₁.setTop (mkF m 4 #[.val (.int i1), .unset] [(.int (i1 &&& (2147483647 : Int32)))])) _
    refine XS.iconst X0.here hx rfl (hb hby d1_4) ?_
    show Steps p.tables e below (s₁.setTop (mkF m 5 #[.val (.int i1), .unset] [(.int (3 : Int32)), (.int (i1 &&& (2147483647 : Int32)))])) _
    refine XS.irem X0.here hx rfl (hb hby d1_5) rfl (by decide) ?_
    show Steps p.tables e below (s₁.setTop (mkF m 6 #[.val (.int i1), .unset] [(.int ((i1 &&& (2147483647 : Int32)) - (i1 &&& (2147483647 : Int32)) / (3 : Int32) * (3 : Int32)))])) _
    refine XS.istoreN X0.here hx rfl (hb hby d1_6) rfl (l' := #[.val (.int i1), .val (.int (pk1_s i1))]) rfl ?_
    show Steps p.tables e below (s₁.setTop (mkF m 7 #[.val (.int i1), .val (.int (pk1_s i1))] [])) _
    refine XS.iloadN X0.here hx rfl (hb hby d1_7) rfl ?_
    show Steps p.tables e below (s₁.setTop (mkF m 8 #[.val (.int i1), .val (.int (pk1_s i1))] [(.int (pk1_s i1))])) _
    refine XS.ifYes X0.here hx rfl (pc0 := 8) (pc' := 15) rfl (hb hby d1_8) rfl c1 (by decide) (by decide) ?_
    show Steps p.tables e below (s₁.setTop (mkF m 15 #[.val (.int i1), .val (.int (pk1_s i1))] [])) _
    refine XS.iloadN X0.here hx rfl (hb hby d1_15) rfl ?_
    show Steps p.tables e below (s₁.setTop (mkF m 16 #[.val (.int i1), .val (.int (pk1_s i1))] [(.int (pk1_s i1))])) _
    refine XS.iconst X0.here hx rfl (hb hby d1_16) ?_
    show Steps p.tables e below (s₁.setTop (mkF m 17 #[.val (.int i1), .val (.int (pk1_s i1))] [(.int (1 : Int32)), (.int (pk1_s i1))])) _
    refine XS.icmpNo X0.here hx rfl (hb hby d1_17) rfl c2 ?_
    show Steps p.tables e below (s₁.setTop (mkF m 20 #[.val (.int i1), .val (.int (pk1_s i1))] [])) _
    refine st1 _ ?_
    show Steps p.tables e below (T1.setTop (mkF m 23 #[.val (.int i1), .val (.int (pk1_s i1))] [(.ref ax)])) _
    exact retOut X1 hx Bd.returns rfl (Or.inr (Or.inr (Or.inr (Or.inr ⟨rfl, rfl, rfl⟩)))) (hb hby d1_23) hr
  · show Q_pk1 Z i1 ax h0 n0 _ T1.heap _
    exact ⟨rfl, N0, e1⟩
theorem ef_pk2 (m : MethodId) (i1 : Int32) : entryFrame m #[(.int i1)] 2 = (mkF m 0 #[.val (.int i1), .unset] []) := by first | (simp [entryFrame, mkF, argsToLocals, Value.category]; done) | rfl
def Q_pk2 (Z : State) (i1 : Int32) (ax : Addr) (h0 : Heap) (n0 : Nat) (v : Option Value) (h : Heap) (L : List Loc) : Prop := v = some (.ref ax) ∧ Fr n0 L ∧ h = h0
set_option maxRecDepth 65536 in
set_option maxHeartbeats 40000000 in
theorem rm_pk2 (l : Launch) (Z : State) (a0 : Array Value) (hw : ∀ d ∈ tables_1, d.before a0 Z = true) (ws : List Jvm.Cond) (i1 : Int32) (ax : Addr) (h0 : Heap) (n0 : Nat) (Z0 : n0 ≤ h0.size)  (hS : Sta Z h0 "com/example/muster/muster/auction/Mechanism" "ABILITY_MAX" "Lcom/example/muster/muster/auction/Mechanism;" (.ref ax)) (c1 : ifCond.holds .ne (pk2_s i1) = true) (c2 : if_icmp.holds .ne (pk2_s i1) (1 : Int32) = true)  :
    MetFree l (⟨"com/example/muster/muster/auction/MechanismTiesPinLaw", "pick", "(I)Lcom/example/muster/muster/auction/Mechanism;"⟩ : MethodName) (head1 (Jvm.Cond.code (⟨"com/example/muster/muster/auction/MechanismTiesPinLaw", "pick", "(I)Lcom/example/muster/muster/auction/Mechanism;"⟩ : MethodName) method_2_code 2 (some (.object "com/example/muster/muster/auction/Mechanism")) :: ws) ({ frames := 0, cells := 0, slots := 0, locals := 0 } : Room)) (fun a U => a = #[(.int i1)] ∧ Z.Warmed39 U.vm ∧ U.heap = h0) (fun _ _ _ _ _ => True) (fun _ U o U' => ∃ v L, o = .returned v ∧ Q_pk2 Z i1 ax h0 n0 v U'.heap L ∧ FrameEnd U o U' L ({ frames := 0, cells := 0, slots := 0, locals := 0 } : Room).cells ({ frames := 0, cells := 0, slots := 0, locals := 0 } : Room).slots) := by
  refine MetFree.of_bodySF (plainFor_of_name pn_0) hisR ?_
  intro p e s m args below meth c s₁ Bd hml0 hP hK
  obtain ⟨rfl, hZ, hh⟩ := hP
  have hx := Bd.exec
  have hby := Bd.bytes
  have hml : c.maxLocals = 2 := hml0
  have hown : s.vm.findClass "com/example/muster/muster/auction/MechanismTiesPinLaw" = some m.cls := findClass_of_methodNamed Bd.named
  have hnm := (name_of_methodNamed Bd.named Bd.method).1
  have X0 : Stand p l e ({ frames := 0, cells := 0, slots := 0, locals := 0 } : Room) s m #[(.int i1)] below meth c s₁ [] 0 0 := Stand.of_body Bd
  have e0 : s₁.heap = h0 := by rw [← hh, Bd.state]; rfl
  have N0 := Fr.nil n0
  have pre0 : ∀ t, Steps p.tables e below (s₁.setTop (mkF m 0 #[.val (.int i1), .unset] [])) t → Steps p.tables e below (s₁.setTop (entryFrame m #[(.int i1)] 2)) t := fun t k => castTop (ef_pk2 m i1) k
  obtain ⟨T1, X1, e1, st1⟩ := getS X0 hx hZ (host := "") hown (hw _ (List.mem_of_getElem? (i := 18) rfl)) Via.refl e0 hS (g := (mkF m 24 #[.val (.int i1), .val (.int (pk2_s i1))] [])) rfl (hb hby d1_24)
  obtain ⟨fs, hr, hrun, hended, hW, hsame⟩ := X1.leave (v := some (.ref ax)) (fun h => by rw [Bd.returns] at h; cases h)
  refine ⟨_, _, pre0 _ ?_, hrun, hended, _, _, rfl, ?_, ⟨_, rfl⟩, hW, hsame.mono (Nat.le_of_ble_eq_true rfl) (Nat.le_of_ble_eq_true rfl)⟩
  · show Steps p.tables e below (s₁.setTop (mkF m 0 #[.val (.int i1), .unset] [])) _
    refine XS.iloadN X0.here hx rfl (hb hby d1_0) rfl ?_
    show Steps p.tables e below (s₁.setTop (mkF m 1 #[.val (.int i1), .unset] [(.int i1)])) _
    refine X0.ldcI hx hown (mvT hZ (hw _ (List.mem_of_getElem? (i := 4) rfl))) (g := (mkF m 1 #[.val (.int i1), .unset] [(.int i1)])) rfl (hb hby d1_1) ?_
    show Steps p.tables e below (s₁.setTop (mkF m 3 #[.val (.int i1), .unset] [(.int (2147483647 : Int32)), (.int i1)])) _
    refine XS.iand X0.here hx rfl (hb hby d1_3) rfl ?_
    show Steps p.tables e below (s₁.setTop (mkF m 4 #[.val (.int i1), .unset] [(.int (i1 &&& (2147483647 : Int32)))])) _
    refine XS.iconst X0.here hx rfl (hb hby d1_4) ?_
    show Steps p.tables e below (s₁.setTop (mkF m 5 #[.val (.int i1), .unset] [(.int (3 : Int32)), (.int (i1 &&& (2147483647 : Int32)))])) _
    refine XS.irem X0.here hx rfl (hb hby d1_5) rfl (by decide) ?_
    show Steps p.tables e below (s₁.setTop (mkF m 6 #[.val (.int i1), .unset] [(.int ((i1 &&& (2147483647 : Int32)) - (i1 &&& (2147483647 : Int32)) / (3 : Int32) * (3 : Int32)))])) _
    refine XS.istoreN X0.here hx rfl (hb hby d1_6) rfl (l' := #[.val (.int i1), .val (.int (pk2_s i1))]) rfl ?_
    show Steps p.tables e below (s₁.setTop (mkF m 7 #[.val (.int i1), .val (.int (pk2_s i1))] [])) _
    refine XS.iloadN X0.here hx rfl (hb hby d1_7) rfl ?_
    show Steps p.tables e below (s₁.setTop (mkF m 8 #[.val (.int i1), .val (.int (pk2_s i1))] [(.int (pk2_s i1))])) _
    refine XS.ifYes X0.here hx rfl (pc0 := 8) (pc' := 15) rfl (hb hby d1_8) rfl c1 (by decide) (by decide) ?_
    show Steps p.tables e below (s₁.setTop (mkF m 15 #[.val (.int i1), .val (.int (pk2_s i1))] [])) _
    refine XS.iloadN X0.here hx rfl (hb hby d1_15) rfl ?_
    show Steps p.tables e below (s₁.setTop (mkF m 16 #[.val (.int i1), .val (.int (pk2_s i1))] [(.int (pk2_s i1))])) _
    refine XS.iconst X0.here hx rfl (hb hby d1_16) ?_
    show Steps p.tables e below (s₁.setTop (mkF m 17 #[.val (.int i1), .val (.int (pk2_s i1))] [(.int (1 : Int32)), (.int (pk2_s i1))])) _
    refine XS.icmpYes X0.here hx rfl (pc0 := 17) (pc' := 24) rfl (hb hby d1_17) rfl c2 (by decide) (by decide) ?_
    show Steps p.tables e below (s₁.setTop (mkF m 24 #[.val (.int i1), .val (.int (pk2_s i1))] [])) _
    refine st1 _ ?_
    show Steps p.tables e below (T1.setTop (mkF m 27 #[.val (.int i1), .val (.int (pk2_s i1))] [(.ref ax)])) _
    exact retOut X1 hx Bd.returns rfl (Or.inr (Or.inr (Or.inr (Or.inr ⟨rfl, rfl, rfl⟩)))) (hb hby d1_27) hr
  · show Q_pk2 Z i1 ax h0 n0 _ T1.heap _
    exact ⟨rfl, N0, e1⟩
theorem ef_ti (m : MethodId) (a1 : Addr) (d1 : UInt64) (d2 : UInt64) : entryFrame m #[(.ref a1), (.double d1), (.double d2)] 5 = (mkF m 0 #[.val (.ref a1), .val (.double d1), .second, .val (.double d2), .second] []) := by first | (simp [entryFrame, mkF, argsToLocals, Value.category]; done) | rfl
def Q_ti (Z : State) (a1 : Addr) (d1 : UInt64) (d2 : UInt64)  (h0 : Heap) (n0 : Nat) (v : Option Value) (h : Heap) (L : List Loc) : Prop := v = some (.int (ti_res d1 d2)) ∧ Fr n0 L ∧ h = h0
set_option maxRecDepth 65536 in
set_option maxHeartbeats 40000000 in
theorem rm_ti (l : Launch) (Z : State) (a0 : Array Value) (hw : ∀ d ∈ tables_1, d.before a0 Z = true) (ws : List Jvm.Cond) (a1 : Addr) (d1 : UInt64) (d2 : UInt64)  (h0 : Heap) (n0 : Nat) (Z0 : n0 ≤ h0.size)   (nn5 : Jvm.Free.Fl.NoNaN64 (FP.dadd d2 (4472406533629990549 : UInt64))) :
    MetFree l (⟨"com/example/muster/muster/auction/Mechanism", "ties", "(DD)Z"⟩ : MethodName) (head1 (Jvm.Cond.code (⟨"com/example/muster/muster/auction/Mechanism", "ties", "(DD)Z"⟩ : MethodName) prog_17_method_9_code 5 (some .boolean) :: ws) ({ frames := 0, cells := 0, slots := 0, locals := 0 } : Room)) (fun a U => a = #[(.ref a1), (.double d1), (.double d2)] ∧ Z.Warmed39 U.vm ∧ U.heap = h0) (fun _ _ _ _ _ => True) (fun _ U o U' => ∃ v L, o = .returned v ∧ Q_ti Z a1 d1 d2  h0 n0 v U'.heap L ∧ FrameEnd U o U' L ({ frames := 0, cells := 0, slots := 0, locals := 0 } : Room).cells ({ frames := 0, cells := 0, slots := 0, locals := 0 } : Room).slots) := by
  refine MetFree.of_bodySF (plainFor_of_name pn_1) hisR ?_
  intro p e s m args below meth c s₁ Bd hml0 hP hK
  obtain ⟨rfl, hZ, hh⟩ := hP
  have hx := Bd.exec
  have hby := Bd.bytes
  have hml : c.maxLocals = 5 := hml0
  have hown : s.vm.findClass "com/example/muster/muster/auction/Mechanism" = some m.cls := findClass_of_methodNamed Bd.named
  have hnm := (name_of_methodNamed Bd.named Bd.method).1
  have X0 : Stand p l e ({ frames := 0, cells := 0, slots := 0, locals := 0 } : Room) s m #[(.ref a1), (.double d1), (.double d2)] below meth c s₁ [] 0 0 := Stand.of_body Bd
  have e0 : s₁.heap = h0 := by rw [← hh, Bd.state]; rfl
  have N0 := Fr.nil n0
  have pre0 : ∀ t, Steps p.tables e below (s₁.setTop (mkF m 0 #[.val (.ref a1), .val (.double d1), .second, .val (.double d2), .second] [])) t → Steps p.tables e below (s₁.setTop (entryFrame m #[(.ref a1), (.double d1), (.double d2)] 5)) t := fun t k => castTop (ef_ti m a1 d1 d2) k
  obtain ⟨fs, hr, hrun, hended, hW, hsame⟩ := X0.leave (v := some (.int (ti_res d1 d2))) (fun h => by rw [Bd.returns] at h; cases h)
  refine ⟨_, _, pre0 _ ?_, hrun, hended, _, _, rfl, ?_, ⟨_, rfl⟩, hW, hsame.mono (Nat.le_of_ble_eq_true rfl) (Nat.le_of_ble_eq_true rfl)⟩
  · show Steps p.tables e below (s₁.setTop (mkF m 0 #[.val (.ref a1), .val (.double d1), .second, .val (.double d2), .second] [])) _
    refine XS.dloadN X0.here hx rfl (hb hby d2_0) rfl ?_
    show Steps p.tables e below (s₁.setTop (mkF m 1 #[.val (.ref a1), .val (.double d1), .second, .val (.double d2), .second] [(.double d1)])) _
    refine XS.dloadN X0.here hx rfl (hb hby d2_1) rfl ?_
    show Steps p.tables e below (s₁.setTop (mkF m 2 #[.val (.ref a1), .val (.double d1), .second, .val (.double d2), .second] [(.double d2), (.double d1)])) _
    refine X0.ldc2DoubleC hx hown (mvT hZ (hw _ (List.mem_of_getElem? (i := 13) rfl))) (g := (mkF m 2 #[.val (.ref a1), .val (.double d1), .second, .val (.double d2), .second] [(.double d2), (.double d1)])) rfl (hb hby d2_2) _ ?_
    show Steps p.tables e below (s₁.setTop (mkF m 5 #[.val (.ref a1), .val (.double d1), .second, .val (.double d2), .second] [(.double (4472406533629990549 : UInt64)), (.double d2), (.double d1)])) _
    refine XS.daddS X0.here hx rfl (hb hby d2_5) rfl nn5 rfl ?_
    show Steps p.tables e below (s₁.setTop (mkF m 6 #[.val (.ref a1), .val (.double d1), .second, .val (.double d2), .second] [(.double (FP.dadd d2 (4472406533629990549 : UInt64))), (.double d1)])) _
    refine XS.dcmpS X0.here hx rfl (hb hby d2_6) rfl rfl ?_
    show Steps p.tables e below (s₁.setTop (mkF m 7 #[.val (.ref a1), .val (.double d1), .second, .val (.double d2), .second] [(.int (cmpValue (FP.dcmp d1 (FP.dadd d2 (4472406533629990549 : UInt64))) .g))])) _
    by_cases c1 : (ifCond.holds .gt (cmpValue (FP.dcmp d1 (FP.dadd d2 (4472406533629990549 : UInt64))) .g)) = true
    · refine XS.ifYes X0.here hx rfl (pc0 := 7) (pc' := 14) rfl (hb hby d2_7) rfl c1 (by decide) (by decide) ?_
      show Steps p.tables e below (s₁.setTop (mkF m 14 #[.val (.ref a1), .val (.double d1), .second, .val (.double d2), .second] [])) _
      refine XS.iconst X0.here hx rfl (hb hby d2_14) ?_
      show Steps p.tables e below (s₁.setTop (mkF m 15 #[.val (.ref a1), .val (.double d1), .second, .val (.double d2), .second] [(.int (0 : Int32))])) _
      have q : (ti_res d1 d2) = (0 : Int32) := by simp only [ti_res, c1, if_true, if_false, Bool.false_eq_true]; try rfl
      rw [q] at hr
      exact retN X0 hx (t := .boolean) Bd.returns (by simp) (hb hby d2_15) hr
    · refine XS.ifNo X0.here hx rfl (hb hby d2_7) rfl (Bool.eq_false_iff.mpr c1) ?_
      show Steps p.tables e below (s₁.setTop (mkF m 10 #[.val (.ref a1), .val (.double d1), .second, .val (.double d2), .second] [])) _
      refine XS.iconst X0.here hx rfl (hb hby d2_10) ?_
      show Steps p.tables e below (s₁.setTop (mkF m 11 #[.val (.ref a1), .val (.double d1), .second, .val (.double d2), .second] [(.int (1 : Int32))])) _
      refine XS.goto X0.here hx rfl (pc0 := 11) (pc' := 15) rfl (hb hby d2_11) (by decide) (by decide) ?_
      show Steps p.tables e below (s₁.setTop (mkF m 15 #[.val (.ref a1), .val (.double d1), .second, .val (.double d2), .second] [(.int (1 : Int32))])) _
      have q : (ti_res d1 d2) = (1 : Int32) := by simp only [ti_res, c1, if_true, if_false, Bool.false_eq_true]; try rfl
      rw [q] at hr
      exact retN X0 hx (t := .boolean) Bd.returns (by simp) (hb hby d2_15) hr
  · show Q_ti Z a1 d1 d2  h0 n0 _ s₁.heap _
    exact ⟨rfl, N0, e0⟩
theorem ef_la (m : MethodId) (p1 : Int32) (p2 : Int32) (p3 : Int32) (p4 : Int32) (p5 : Int32) : entryFrame m #[(.int p1), (.int p2), (.int p3), (.int p4), (.int p5)] maxLocals = (mkF m 0 #[.val (.int p1), .val (.int p2), .val (.int p3), .val (.int p4), .val (.int p5), .unset, .unset, .unset, .unset, .unset, .unset, .unset, .unset, .unset, .unset, .unset] []) := by first | (simp [entryFrame, mkF, argsToLocals, Value.category, maxLocals]; done) | rfl
def Q_la (Z : State) (p1 : Int32) (p2 : Int32) (p3 : Int32) (p4 : Int32) (p5 : Int32) (ax : Addr) (h0 : Heap) (n0 : Nat) (v : Option Value) (h : Heap) (L : List Loc) : Prop := v = some (.int 1) ∧ Fr n0 L
set_option maxRecDepth 65536 in
set_option maxHeartbeats 40000000 in
theorem rm_la (l : Launch) (Z : State) (a0 : Array Value) (hw : ∀ d ∈ tables_1, d.before a0 Z = true) (ws : List Jvm.Cond) (p1 : Int32) (p2 : Int32) (p3 : Int32) (p4 : Int32) (p5 : Int32) (ax : Addr) (h0 : Heap) (n0 : Nat) (Z0 : n0 ≤ h0.size) (k0_ : Exa Z h0 ax "com/example/muster/muster/auction/Mechanism$1") (hS : Sta Z h0 "com/example/muster/muster/auction/Mechanism" "UNIT_COST" "Lcom/example/muster/muster/auction/Mechanism;" (.ref ax)) (c1 : ifCond.holds .ne (pk0_s p1) = false)  :
    MetFree l x (head1 (Jvm.Cond.code x code maxLocals ret :: ws) room_1) (fun a U => a = #[(.int p1), (.int p2), (.int p3), (.int p4), (.int p5)] ∧ Z.Warmed39 U.vm ∧ U.heap = h0) (fun _ _ _ _ _ => True) (fun _ U o U' => ∃ v L, o = .returned v ∧ Q_la Z p1 p2 p3 p4 p5 ax h0 n0 v U'.heap L ∧ FrameEnd U o U' L 0 0) := by
  refine MetFree.of_bodySF (plainFor_of_name pn_0) hisR ?_
  intro p e s m args below meth c s₁ Bd hml0 hP hK
  obtain ⟨rfl, hZ, hh⟩ := hP
  have hx := Bd.exec
  have hby := Bd.bytes
  have hml : c.maxLocals = 16 := hml0
  have hown : s.vm.findClass "com/example/muster/muster/auction/MechanismTiesPinLaw" = some m.cls := findClass_of_methodNamed Bd.named
  have hnm := (name_of_methodNamed Bd.named Bd.method).1
  have X0 : Stand p l e room_1 s m #[(.int p1), (.int p2), (.int p3), (.int p4), (.int p5)] below meth c s₁ [] 0 0 := Stand.of_body Bd
  have e0 : s₁.heap = h0 := by rw [← hh, Bd.state]; rfl
  have N0 := Fr.nil n0
  have pre0 : ∀ t, Steps p.tables e below (s₁.setTop (mkF m 0 #[.val (.int p1), .val (.int p2), .val (.int p3), .val (.int p4), .val (.int p5), .unset, .unset, .unset, .unset, .unset, .unset, .unset, .unset, .unset, .unset, .unset] [])) t → Steps p.tables e below (s₁.setTop (entryFrame m #[(.int p1), (.int p2), (.int p3), (.int p4), (.int p5)] maxLocals)) t := fun t k => castTop (ef_la m p1 p2 p3 p4 p5) k
  obtain ⟨_, _, ⟨T1, L1, k1, n1⟩, -, X1, ⟨Lc1, hQ1, l1, y1, z1⟩, st1⟩ := Jvm.LawKit.callS X0 hx (y := (⟨"com/example/muster/muster/auction/MechanismTiesPinLaw", "pick", "(I)Lcom/example/muster/muster/auction/Mechanism;"⟩ : MethodName)) hown (mvT hZ (hw _ (List.mem_of_getElem? (i := 0) rfl))) (mvT hZ (hw _ (List.mem_of_getElem? (i := 1) rfl))) (mvT hZ (hw _ (List.mem_of_getElem? (i := 2) rfl))) (mvT hZ (hw _ (List.mem_of_getElem? (i := 3) rfl))) (by decide) (backOf (W := 0) (rm_pk0 l Z a0 hw [] p1 ax (h0) n0 Z0  hS c1) hZ (hw _ (List.mem_of_getElem? (i := 3) rfl)) (hw _ (List.mem_of_getElem? (i := 2) rfl)) (by decide) (by decide)) (g := (mkF m 1 #[.val (.int p1), .val (.int p2), .val (.int p3), .val (.int p4), .val (.int p5), .unset, .unset, .unset, .unset, .unset, .unset, .unset, .unset, .unset, .unset, .unset] [(.int p1)])) rfl (by rw [hml]; rfl) (argsL := [(.int p1)]) (rest := []) (lenOf pd_0 rfl) rfl (by show 2 * 0 + _ ≤ _; exact Nat.le_of_eq rfl) (hb hby at_1) (fun _ _ => ⟨rfl, e0, (by decide : 0 + 0 ≤ _), (by decide : 0 + 0 ≤ _)⟩)
  dsimp only [Pt.U, Pt.locs, Pt.cells, Pt.slots] at X1 l1 y1 z1 st1 hQ1
  subst l1 y1 z1
  obtain ⟨rfl, N1, e1⟩ := hQ1
  have Nn1 := Fr.app N0 N1
  obtain ⟨cq2, kq2, qa2, qb2, qc2⟩ := isOf hZ e1 k0_
  obtain ⟨_, _, ⟨T2, L2, k2, n2⟩, -, X2, ⟨Lc2, hQ2, l2, y2, z2⟩, st2⟩ := X1.virtualBack hx (y := (⟨"com/example/muster/muster/auction/Mechanism", "ties", "(DD)Z"⟩ : MethodName)) (z := (⟨"com/example/muster/muster/auction/Mechanism", "ties", "(DD)Z"⟩ : MethodName)) hown (mvT hZ (hw _ (List.mem_of_getElem? (i := 8) rfl))) (mvT hZ (hw _ (List.mem_of_getElem? (i := 9) rfl))) (notFace_of_selects (args := #[]) (mvT hZ (hw _ (List.mem_of_getElem? (i := 11) rfl)))) (mvT hZ (hw _ (List.mem_of_getElem? (i := 11) rfl))) (mvT hZ (hw _ (List.mem_of_getElem? (i := 10) rfl))) (by decide) (backOf (W := 0) (rm_ti l Z a0 hw [] ax (FP.i2d p2) (FP.i2d p3)  (h0) n0 Z0  (own_upn p3)) hZ (hw _ (List.mem_of_getElem? (i := 12) rfl)) (hw _ (List.mem_of_getElem? (i := 6) rfl)) (by decide) (by decide)) qa2 qc2 (g := (mkF m 12 #[.val (.int p1), .val (.int p2), .val (.int p3), .val (.int p4), .val (.int p5), .val (.ref ax), .unset, .unset, .unset, .unset, .unset, .unset, .unset, .unset, .unset, .unset] [(.double (FP.i2d p3)), (.double (FP.i2d p2)), (.ref ax)])) rfl (by rw [hml]; rfl) (Steps.refl _) (argsL := [(.double (FP.i2d p2)), (.double (FP.i2d p3))]) (rest := []) (lenOf pd_1 rfl) rfl (by show 2 * 0 + _ ≤ _; exact Nat.le_of_eq rfl) (hb hby at_12) (fun _ _ => ⟨rfl, e1, (by decide : 0 + 0 ≤ _), (by decide : 0 + 0 ≤ _)⟩)
  dsimp only [Pt.U, Pt.locs, Pt.cells, Pt.slots] at X2 l2 y2 z2 st2 hQ2
  subst l2 y2 z2
  obtain ⟨rfl, N2, e2⟩ := hQ2
  have Nn2 := Fr.app Nn1 N2
  obtain ⟨cq9, kq9, qa9, qb9, qc9⟩ := isOf hZ e2 k0_
  obtain ⟨_, _, ⟨T9, L9, k9, n9⟩, -, X9, ⟨Lc9, hQ9, l9, y9, z9⟩, st9⟩ := X2.virtualBack hx (y := (⟨"com/example/muster/muster/auction/Mechanism", "ties", "(DD)Z"⟩ : MethodName)) (z := (⟨"com/example/muster/muster/auction/Mechanism", "ties", "(DD)Z"⟩ : MethodName)) hown (mvT hZ (hw _ (List.mem_of_getElem? (i := 8) rfl))) (mvT hZ (hw _ (List.mem_of_getElem? (i := 9) rfl))) (notFace_of_selects (args := #[]) (mvT hZ (hw _ (List.mem_of_getElem? (i := 11) rfl)))) (mvT hZ (hw _ (List.mem_of_getElem? (i := 11) rfl))) (mvT hZ (hw _ (List.mem_of_getElem? (i := 10) rfl))) (by decide) (backOf (W := 0) (rm_ti l Z a0 hw [] ax (la_rank p1 p2 p3 p4 p5) (la_low p1 p2 p3 p4 p5)  (h0) n0 Z0  (own_tl p1 p2 p3 p4 p5)) hZ (hw _ (List.mem_of_getElem? (i := 12) rfl)) (hw _ (List.mem_of_getElem? (i := 6) rfl)) (by decide) (by decide)) qa9 qc9 (g := (mkF m 122 #[.val (.int p1), .val (.int p2), .val (.int p3), .val (.int p4), .val (.int p5), .val (.ref ax), .val (.int (1 : Int32)), .val (.double (la_low p1 p2 p3 p4 p5)), .second, .val (.int (la_which p1 p2 p3 p4 p5)), .val (.double (la_off p1 p2 p3 p4 p5)), .second, .val (.int (la_exp p1 p2 p3 p4 p5)), .val (.double (la_rank p1 p2 p3 p4 p5)), .second, .unset] [(.double (la_low p1 p2 p3 p4 p5)), (.double (la_rank p1 p2 p3 p4 p5)), (.ref ax)])) rfl (by rw [hml]; rfl) (Steps.refl _) (argsL := [(.double (la_rank p1 p2 p3 p4 p5)), (.double (la_low p1 p2 p3 p4 p5))]) (rest := []) (lenOf pd_1 rfl) rfl (by show 2 * 0 + _ ≤ _; exact Nat.le_of_eq rfl) (hb hby at_122) (fun _ _ => ⟨rfl, e2, (by decide : 0 + 0 ≤ _), (by decide : 0 + 0 ≤ _)⟩)
  dsimp only [Pt.U, Pt.locs, Pt.cells, Pt.slots] at X9 l9 y9 z9 st9 hQ9
  subst l9 y9 z9
  obtain ⟨rfl, N9, e9⟩ := hQ9
  have Nn9 := Fr.app Nn2 N9
  obtain ⟨fs, hr, hrun, hended, hW, hsame⟩ := X9.leave (v := some (.int (1 : Int32))) (fun h => by rw [Bd.returns] at h; cases h)
  refine ⟨_, _, pre0 _ ?_, hrun, hended, _, _, rfl, ?_, ⟨_, rfl⟩, hW, hsame.mono (Nat.le_of_ble_eq_true rfl) (Nat.le_of_ble_eq_true rfl)⟩
  · show Steps p.tables e below (s₁.setTop (mkF m 0 #[.val (.int p1), .val (.int p2), .val (.int p3), .val (.int p4), .val (.int p5), .unset, .unset, .unset, .unset, .unset, .unset, .unset, .unset, .unset, .unset, .unset] [])) _
    refine XS.iloadN X0.here hx rfl (hb hby at_0) rfl ?_
    show Steps p.tables e below (s₁.setTop (mkF m 1 #[.val (.int p1), .val (.int p2), .val (.int p3), .val (.int p4), .val (.int p5), .unset, .unset, .unset, .unset, .unset, .unset, .unset, .unset, .unset, .unset, .unset] [(.int p1)])) _
    refine st1 _ ?_
    show Steps p.tables e below (T1.setTop (mkF m 4 #[.val (.int p1), .val (.int p2), .val (.int p3), .val (.int p4), .val (.int p5), .unset, .unset, .unset, .unset, .unset, .unset, .unset, .unset, .unset, .unset, .unset] [(.ref ax)])) _
    refine XS.astore X1.here hx rfl (hb hby at_4) rfl rfl (l' := #[.val (.int p1), .val (.int p2), .val (.int p3), .val (.int p4), .val (.int p5), .val (.ref ax), .unset, .unset, .unset, .unset, .unset, .unset, .unset, .unset, .unset, .unset]) rfl ?_
    show Steps p.tables e below (T1.setTop (mkF m 6 #[.val (.int p1), .val (.int p2), .val (.int p3), .val (.int p4), .val (.int p5), .val (.ref ax), .unset, .unset, .unset, .unset, .unset, .unset, .unset, .unset, .unset, .unset] [])) _
    refine XS.aload X1.here hx rfl (hb hby at_6) rfl rfl ?_
    show Steps p.tables e below (T1.setTop (mkF m 8 #[.val (.int p1), .val (.int p2), .val (.int p3), .val (.int p4), .val (.int p5), .val (.ref ax), .unset, .unset, .unset, .unset, .unset, .unset, .unset, .unset, .unset, .unset] [(.ref ax)])) _
    refine XS.iloadN X1.here hx rfl (hb hby at_8) rfl ?_
    show Steps p.tables e below (T1.setTop (mkF m 9 #[.val (.int p1), .val (.int p2), .val (.int p3), .val (.int p4), .val (.int p5), .val (.ref ax), .unset, .unset, .unset, .unset, .unset, .unset, .unset, .unset, .unset, .unset] [(.int p2), (.ref ax)])) _
    refine XS.i2dS X1.here hx rfl (hb hby at_9) rfl rfl ?_
    show Steps p.tables e below (T1.setTop (mkF m 10 #[.val (.int p1), .val (.int p2), .val (.int p3), .val (.int p4), .val (.int p5), .val (.ref ax), .unset, .unset, .unset, .unset, .unset, .unset, .unset, .unset, .unset, .unset] [(.double (FP.i2d p2)), (.ref ax)])) _
    refine XS.iloadN X1.here hx rfl (hb hby at_10) rfl ?_
    show Steps p.tables e below (T1.setTop (mkF m 11 #[.val (.int p1), .val (.int p2), .val (.int p3), .val (.int p4), .val (.int p5), .val (.ref ax), .unset, .unset, .unset, .unset, .unset, .unset, .unset, .unset, .unset, .unset] [(.int p3), (.double (FP.i2d p2)), (.ref ax)])) _
    refine XS.i2dS X1.here hx rfl (hb hby at_11) rfl rfl ?_
    show Steps p.tables e below (T1.setTop (mkF m 12 #[.val (.int p1), .val (.int p2), .val (.int p3), .val (.int p4), .val (.int p5), .val (.ref ax), .unset, .unset, .unset, .unset, .unset, .unset, .unset, .unset, .unset, .unset] [(.double (FP.i2d p3)), (.double (FP.i2d p2)), (.ref ax)])) _
    refine st2.trans ?_
    show Steps p.tables e below (T2.setTop (mkF m 15 #[.val (.int p1), .val (.int p2), .val (.int p3), .val (.int p4), .val (.int p5), .val (.ref ax), .unset, .unset, .unset, .unset, .unset, .unset, .unset, .unset, .unset, .unset] [(.int (ti_res (FP.i2d p2) (FP.i2d p3)))])) _
    refine XS.iloadN X2.here hx rfl (hb hby at_15) rfl ?_
    show Steps p.tables e below (T2.setTop (mkF m 16 #[.val (.int p1), .val (.int p2), .val (.int p3), .val (.int p4), .val (.int p5), .val (.ref ax), .unset, .unset, .unset, .unset, .unset, .unset, .unset, .unset, .unset, .unset] [(.int p2), (.int (ti_res (FP.i2d p2) (FP.i2d p3)))])) _
    refine XS.iloadN X2.here hx rfl (hb hby at_16) rfl ?_
    show Steps p.tables e below (T2.setTop (mkF m 17 #[.val (.int p1), .val (.int p2), .val (.int p3), .val (.int p4), .val (.int p5), .val (.ref ax), .unset, .unset, .unset, .unset, .unset, .unset, .unset, .unset, .unset, .unset] [(.int p3), (.int p2), (.int (ti_res (FP.i2d p2) (FP.i2d p3)))])) _
    have sg3 : ∀ t, Steps p.tables e below (T2.setTop (mkF m 25 #[.val (.int p1), .val (.int p2), .val (.int p3), .val (.int p4), .val (.int p5), .val (.ref ax), .unset, .unset, .unset, .unset, .unset, .unset, .unset, .unset, .unset, .unset] [(.int (la_w0 p1 p2 p3 p4 p5)), (.int (ti_res (FP.i2d p2) (FP.i2d p3)))])) t → Steps p.tables e below (T2.setTop (mkF m 17 #[.val (.int p1), .val (.int p2), .val (.int p3), .val (.int p4), .val (.int p5), .val (.ref ax), .unset, .unset, .unset, .unset, .unset, .unset, .unset, .unset, .unset, .unset] [(.int p3), (.int p2), (.int (ti_res (FP.i2d p2) (FP.i2d p3)))])) t := by
      intro t k
      by_cases c4 : (if_icmp.holds .gt p2 p3) = true
      · refine XS.icmpYes X2.here hx rfl (pc0 := 17) (pc' := 24) rfl (hb hby at_17) rfl c4 (by decide) (by decide) ?_
        show Steps p.tables e below (T2.setTop (mkF m 24 #[.val (.int p1), .val (.int p2), .val (.int p3), .val (.int p4), .val (.int p5), .val (.ref ax), .unset, .unset, .unset, .unset, .unset, .unset, .unset, .unset, .unset, .unset] [(.int (ti_res (FP.i2d p2) (FP.i2d p3)))])) t
        refine XS.iconst X2.here hx rfl (hb hby at_24) ?_
        show Steps p.tables e below (T2.setTop (mkF m 25 #[.val (.int p1), .val (.int p2), .val (.int p3), .val (.int p4), .val (.int p5), .val (.ref ax), .unset, .unset, .unset, .unset, .unset, .unset, .unset, .unset, .unset, .unset] [(.int (0 : Int32)), (.int (ti_res (FP.i2d p2) (FP.i2d p3)))])) t
        have q : (la_w0 p1 p2 p3 p4 p5) = (0 : Int32) := by simp only [la_w0, c4, if_true, if_false, Bool.false_eq_true]; try rfl
        rw [q] at k
        clear q
        exact k
      · refine XS.icmpNo X2.here hx rfl (hb hby at_17) rfl (Bool.eq_false_iff.mpr c4) ?_
        show Steps p.tables e below (T2.setTop (mkF m 20 #[.val (.int p1), .val (.int p2), .val (.int p3), .val (.int p4), .val (.int p5), .val (.ref ax), .unset, .unset, .unset, .unset, .unset, .unset, .unset, .unset, .unset, .unset] [(.int (ti_res (FP.i2d p2) (FP.i2d p3)))])) t
        refine XS.iconst X2.here hx rfl (hb hby at_20) ?_
        show Steps p.tables e below (T2.setTop (mkF m 21 #[.val (.int p1), .val (.int p2), .val (.int p3), .val (.int p4), .val (.int p5), .val (.ref ax), .unset, .unset, .unset, .unset, .unset, .unset, .unset, .unset, .unset, .unset] [(.int (1 : Int32)), (.int (ti_res (FP.i2d p2) (FP.i2d p3)))])) t
        refine XS.goto X2.here hx rfl (pc0 := 21) (pc' := 25) rfl (hb hby at_21) (by decide) (by decide) ?_
        show Steps p.tables e below (T2.setTop (mkF m 25 #[.val (.int p1), .val (.int p2), .val (.int p3), .val (.int p4), .val (.int p5), .val (.ref ax), .unset, .unset, .unset, .unset, .unset, .unset, .unset, .unset, .unset, .unset] [(.int (1 : Int32)), (.int (ti_res (FP.i2d p2) (FP.i2d p3)))])) t
        have q : (la_w0 p1 p2 p3 p4 p5) = (1 : Int32) := by simp only [la_w0, c4, if_true, if_false, Bool.false_eq_true]; try rfl
        rw [q] at k
        clear q
        exact k
    refine sg3 _ ?_
    show Steps p.tables e below (T2.setTop (mkF m 25 #[.val (.int p1), .val (.int p2), .val (.int p3), .val (.int p4), .val (.int p5), .val (.ref ax), .unset, .unset, .unset, .unset, .unset, .unset, .unset, .unset, .unset, .unset] [(.int (la_w0 p1 p2 p3 p4 p5)), (.int (ti_res (FP.i2d p2) (FP.i2d p3)))])) _
    refine XS.icmpNo X2.here hx rfl (hb hby at_25) rfl (own_a1 p1 p2 p3 p4 p5) ?_
    show Steps p.tables e below (T2.setTop (mkF m 28 #[.val (.int p1), .val (.int p2), .val (.int p3), .val (.int p4), .val (.int p5), .val (.ref ax), .unset, .unset, .unset, .unset, .unset, .unset, .unset, .unset, .unset, .unset] [])) _
    refine XS.iconst X2.here hx rfl (hb hby at_28) ?_
    show Steps p.tables e below (T2.setTop (mkF m 29 #[.val (.int p1), .val (.int p2), .val (.int p3), .val (.int p4), .val (.int p5), .val (.ref ax), .unset, .unset, .unset, .unset, .unset, .unset, .unset, .unset, .unset, .unset] [(.int (1 : Int32))])) _
    refine XS.goto X2.here hx rfl (pc0 := 29) (pc' := 33) rfl (hb hby at_29) (by decide) (by decide) ?_
    show Steps p.tables e below (T2.setTop (mkF m 33 #[.val (.int p1), .val (.int p2), .val (.int p3), .val (.int p4), .val (.int p5), .val (.ref ax), .unset, .unset, .unset, .unset, .unset, .unset, .unset, .unset, .unset, .unset] [(.int (1 : Int32))])) _
    refine XS.istore X2.here hx rfl (hb hby at_33) rfl (l' := #[.val (.int p1), .val (.int p2), .val (.int p3), .val (.int p4), .val (.int p5), .val (.ref ax), .val (.int (1 : Int32)), .unset, .unset, .unset, .unset, .unset, .unset, .unset, .unset, .unset]) rfl ?_
    show Steps p.tables e below (T2.setTop (mkF m 35 #[.val (.int p1), .val (.int p2), .val (.int p3), .val (.int p4), .val (.int p5), .val (.ref ax), .val (.int (1 : Int32)), .unset, .unset, .unset, .unset, .unset, .unset, .unset, .unset, .unset] [])) _
    refine XS.iloadN X2.here hx rfl (hb hby at_35) rfl ?_
    show Steps p.tables e below (T2.setTop (mkF m 36 #[.val (.int p1), .val (.int p2), .val (.int p3), .val (.int p4), .val (.int p5), .val (.ref ax), .val (.int (1 : Int32)), .unset, .unset, .unset, .unset, .unset, .unset, .unset, .unset, .unset] [(.int p4)])) _
    refine X2.ldcI hx hown (mvT hZ (hw _ (List.mem_of_getElem? (i := 14) rfl))) (g := (mkF m 36 #[.val (.int p1), .val (.int p2), .val (.int p3), .val (.int p4), .val (.int p5), .val (.ref ax), .val (.int (1 : Int32)), .unset, .unset, .unset, .unset, .unset, .unset, .unset, .unset, .unset] [(.int p4)])) rfl (hb hby at_36) ?_
    show Steps p.tables e below (T2.setTop (mkF m 38 #[.val (.int p1), .val (.int p2), .val (.int p3), .val (.int p4), .val (.int p5), .val (.ref ax), .val (.int (1 : Int32)), .unset, .unset, .unset, .unset, .unset, .unset, .unset, .unset, .unset] [(.int (65535 : Int32)), (.int p4)])) _
    refine XS.iand X2.here hx rfl (hb hby at_38) rfl ?_
    show Steps p.tables e below (T2.setTop (mkF m 39 #[.val (.int p1), .val (.int p2), .val (.int p3), .val (.int p4), .val (.int p5), .val (.ref ax), .val (.int (1 : Int32)), .unset, .unset, .unset, .unset, .unset, .unset, .unset, .unset, .unset] [(.int (p4 &&& (65535 : Int32)))])) _
    refine X2.ldcI hx hown (mvT hZ (hw _ (List.mem_of_getElem? (i := 15) rfl))) (g := (mkF m 39 #[.val (.int p1), .val (.int p2), .val (.int p3), .val (.int p4), .val (.int p5), .val (.ref ax), .val (.int (1 : Int32)), .unset, .unset, .unset, .unset, .unset, .unset, .unset, .unset, .unset] [(.int (p4 &&& (65535 : Int32)))])) rfl (hb hby at_39) ?_
    show Steps p.tables e below (T2.setTop (mkF m 41 #[.val (.int p1), .val (.int p2), .val (.int p3), .val (.int p4), .val (.int p5), .val (.ref ax), .val (.int (1 : Int32)), .unset, .unset, .unset, .unset, .unset, .unset, .unset, .unset, .unset] [(.int (32768 : Int32)), (.int (p4 &&& (65535 : Int32)))])) _
    refine XS.isub X2.here hx rfl (hb hby at_41) rfl ?_
    show Steps p.tables e below (T2.setTop (mkF m 42 #[.val (.int p1), .val (.int p2), .val (.int p3), .val (.int p4), .val (.int p5), .val (.ref ax), .val (.int (1 : Int32)), .unset, .unset, .unset, .unset, .unset, .unset, .unset, .unset, .unset] [(.int ((p4 &&& (65535 : Int32)) - (32768 : Int32)))])) _
    refine XS.i2dS X2.here hx rfl (hb hby at_42) rfl rfl ?_
    show Steps p.tables e below (T2.setTop (mkF m 43 #[.val (.int p1), .val (.int p2), .val (.int p3), .val (.int p4), .val (.int p5), .val (.ref ax), .val (.int (1 : Int32)), .unset, .unset, .unset, .unset, .unset, .unset, .unset, .unset, .unset] [(.double (FP.i2d ((p4 &&& (65535 : Int32)) - (32768 : Int32))))])) _
    refine XS.dstore X2.here hx rfl (hb hby at_43) rfl (l' := #[.val (.int p1), .val (.int p2), .val (.int p3), .val (.int p4), .val (.int p5), .val (.ref ax), .val (.int (1 : Int32)), .val (.double (la_low p1 p2 p3 p4 p5)), .second, .unset, .unset, .unset, .unset, .unset, .unset, .unset]) rfl ?_
    show Steps p.tables e below (T2.setTop (mkF m 45 #[.val (.int p1), .val (.int p2), .val (.int p3), .val (.int p4), .val (.int p5), .val (.ref ax), .val (.int (1 : Int32)), .val (.double (la_low p1 p2 p3 p4 p5)), .second, .unset, .unset, .unset, .unset, .unset, .unset, .unset] [])) _
    refine XS.iload X2.here hx rfl (hb hby at_45) rfl ?_
    show Steps p.tables e below (T2.setTop (mkF m 47 #[.val (.int p1), .val (.int p2), .val (.int p3), .val (.int p4), .val (.int p5), .val (.ref ax), .val (.int (1 : Int32)), .val (.double (la_low p1 p2 p3 p4 p5)), .second, .unset, .unset, .unset, .unset, .unset, .unset, .unset] [(.int p5)])) _
    refine XS.iconst X2.here hx rfl (hb hby at_47) ?_
    show Steps p.tables e below (T2.setTop (mkF m 48 #[.val (.int p1), .val (.int p2), .val (.int p3), .val (.int p4), .val (.int p5), .val (.ref ax), .val (.int (1 : Int32)), .val (.double (la_low p1 p2 p3 p4 p5)), .second, .unset, .unset, .unset, .unset, .unset, .unset, .unset] [(.int (3 : Int32)), (.int p5)])) _
    refine XS.iand X2.here hx rfl (hb hby at_48) rfl ?_
    show Steps p.tables e below (T2.setTop (mkF m 49 #[.val (.int p1), .val (.int p2), .val (.int p3), .val (.int p4), .val (.int p5), .val (.ref ax), .val (.int (1 : Int32)), .val (.double (la_low p1 p2 p3 p4 p5)), .second, .unset, .unset, .unset, .unset, .unset, .unset, .unset] [(.int (p5 &&& (3 : Int32)))])) _
    refine XS.istore X2.here hx rfl (hb hby at_49) rfl (l' := #[.val (.int p1), .val (.int p2), .val (.int p3), .val (.int p4), .val (.int p5), .val (.ref ax), .val (.int (1 : Int32)), .val (.double (la_low p1 p2 p3 p4 p5)), .second, .val (.int (la_which p1 p2 p3 p4 p5)), .unset, .unset, .unset, .unset, .unset, .unset]) rfl ?_
    show Steps p.tables e below (T2.setTop (mkF m 51 #[.val (.int p1), .val (.int p2), .val (.int p3), .val (.int p4), .val (.int p5), .val (.ref ax), .val (.int (1 : Int32)), .val (.double (la_low p1 p2 p3 p4 p5)), .second, .val (.int (la_which p1 p2 p3 p4 p5)), .unset, .unset, .unset, .unset, .unset, .unset] [])) _
    refine XS.iload X2.here hx rfl (hb hby at_51) rfl ?_
    show Steps p.tables e below (T2.setTop (mkF m 53 #[.val (.int p1), .val (.int p2), .val (.int p3), .val (.int p4), .val (.int p5), .val (.ref ax), .val (.int (1 : Int32)), .val (.double (la_low p1 p2 p3 p4 p5)), .second, .val (.int (la_which p1 p2 p3 p4 p5)), .unset, .unset, .unset, .unset, .unset, .unset] [(.int (la_which p1 p2 p3 p4 p5))])) _
    have sg5 : ∀ t, Steps p.tables e below (T2.setTop (mkF m 109 #[.val (.int p1), .val (.int p2), .val (.int p3), .val (.int p4), .val (.int p5), .val (.ref ax), .val (.int (1 : Int32)), .val (.double (la_low p1 p2 p3 p4 p5)), .second, .val (.int (la_which p1 p2 p3 p4 p5)), .val (.double (la_off p1 p2 p3 p4 p5)), .second, .val (.int (la_exp p1 p2 p3 p4 p5)), .unset, .unset, .unset] [])) t → Steps p.tables e below (T2.setTop (mkF m 53 #[.val (.int p1), .val (.int p2), .val (.int p3), .val (.int p4), .val (.int p5), .val (.ref ax), .val (.int (1 : Int32)), .val (.double (la_low p1 p2 p3 p4 p5)), .second, .val (.int (la_which p1 p2 p3 p4 p5)), .unset, .unset, .unset, .unset, .unset, .unset] [(.int (la_which p1 p2 p3 p4 p5))])) t := by
      intro t k
      by_cases c6 : (ifCond.holds .ne (la_which p1 p2 p3 p4 p5)) = true
      · refine XS.ifYes X2.here hx rfl (pc0 := 53) (pc' := 67) rfl (hb hby at_53) rfl c6 (by decide) (by decide) ?_
        show Steps p.tables e below (T2.setTop (mkF m 67 #[.val (.int p1), .val (.int p2), .val (.int p3), .val (.int p4), .val (.int p5), .val (.ref ax), .val (.int (1 : Int32)), .val (.double (la_low p1 p2 p3 p4 p5)), .second, .val (.int (la_which p1 p2 p3 p4 p5)), .unset, .unset, .unset, .unset, .unset, .unset] [])) t
        refine XS.iload X2.here hx rfl (hb hby at_67) rfl ?_
        show Steps p.tables e below (T2.setTop (mkF m 69 #[.val (.int p1), .val (.int p2), .val (.int p3), .val (.int p4), .val (.int p5), .val (.ref ax), .val (.int (1 : Int32)), .val (.double (la_low p1 p2 p3 p4 p5)), .second, .val (.int (la_which p1 p2 p3 p4 p5)), .unset, .unset, .unset, .unset, .unset, .unset] [(.int (la_which p1 p2 p3 p4 p5))])) t
        refine XS.iconst X2.here hx rfl (hb hby at_69) ?_
        show Steps p.tables e below (T2.setTop (mkF m 70 #[.val (.int p1), .val (.int p2), .val (.int p3), .val (.int p4), .val (.int p5), .val (.ref ax), .val (.int (1 : Int32)), .val (.double (la_low p1 p2 p3 p4 p5)), .second, .val (.int (la_which p1 p2 p3 p4 p5)), .unset, .unset, .unset, .unset, .unset, .unset] [(.int (1 : Int32)), (.int (la_which p1 p2 p3 p4 p5))])) t
        by_cases c7 : (if_icmp.holds .ne (la_which p1 p2 p3 p4 p5) (1 : Int32)) = true
        · refine XS.icmpYes X2.here hx rfl (pc0 := 70) (pc' := 84) rfl (hb hby at_70) rfl c7 (by decide) (by decide) ?_
          show Steps p.tables e below (T2.setTop (mkF m 84 #[.val (.int p1), .val (.int p2), .val (.int p3), .val (.int p4), .val (.int p5), .val (.ref ax), .val (.int (1 : Int32)), .val (.double (la_low p1 p2 p3 p4 p5)), .second, .val (.int (la_which p1 p2 p3 p4 p5)), .unset, .unset, .unset, .unset, .unset, .unset] [])) t
          refine XS.iload X2.here hx rfl (hb hby at_84) rfl ?_
          show Steps p.tables e below (T2.setTop (mkF m 86 #[.val (.int p1), .val (.int p2), .val (.int p3), .val (.int p4), .val (.int p5), .val (.ref ax), .val (.int (1 : Int32)), .val (.double (la_low p1 p2 p3 p4 p5)), .second, .val (.int (la_which p1 p2 p3 p4 p5)), .unset, .unset, .unset, .unset, .unset, .unset] [(.int (la_which p1 p2 p3 p4 p5))])) t
          refine XS.iconst X2.here hx rfl (hb hby at_86) ?_
          show Steps p.tables e below (T2.setTop (mkF m 87 #[.val (.int p1), .val (.int p2), .val (.int p3), .val (.int p4), .val (.int p5), .val (.ref ax), .val (.int (1 : Int32)), .val (.double (la_low p1 p2 p3 p4 p5)), .second, .val (.int (la_which p1 p2 p3 p4 p5)), .unset, .unset, .unset, .unset, .unset, .unset] [(.int (2 : Int32)), (.int (la_which p1 p2 p3 p4 p5))])) t
          by_cases c8 : (if_icmp.holds .ne (la_which p1 p2 p3 p4 p5) (2 : Int32)) = true
          · refine XS.icmpYes X2.here hx rfl (pc0 := 87) (pc' := 101) rfl (hb hby at_87) rfl c8 (by decide) (by decide) ?_
            show Steps p.tables e below (T2.setTop (mkF m 101 #[.val (.int p1), .val (.int p2), .val (.int p3), .val (.int p4), .val (.int p5), .val (.ref ax), .val (.int (1 : Int32)), .val (.double (la_low p1 p2 p3 p4 p5)), .second, .val (.int (la_which p1 p2 p3 p4 p5)), .unset, .unset, .unset, .unset, .unset, .unset] [])) t
            refine X2.ldc2DoubleC hx hown (mvT hZ (hw _ (List.mem_of_getElem? (i := 17) rfl))) (g := (mkF m 101 #[.val (.int p1), .val (.int p2), .val (.int p3), .val (.int p4), .val (.int p5), .val (.ref ax), .val (.int (1 : Int32)), .val (.double (la_low p1 p2 p3 p4 p5)), .second, .val (.int (la_which p1 p2 p3 p4 p5)), .unset, .unset, .unset, .unset, .unset, .unset] [])) rfl (hb hby at_101) _ ?_
            show Steps p.tables e below (T2.setTop (mkF m 104 #[.val (.int p1), .val (.int p2), .val (.int p3), .val (.int p4), .val (.int p5), .val (.ref ax), .val (.int (1 : Int32)), .val (.double (la_low p1 p2 p3 p4 p5)), .second, .val (.int (la_which p1 p2 p3 p4 p5)), .unset, .unset, .unset, .unset, .unset, .unset] [(.double (4487126258331716666 : UInt64))])) t
            refine XS.dstore X2.here hx rfl (hb hby at_104) rfl (l' := #[.val (.int p1), .val (.int p2), .val (.int p3), .val (.int p4), .val (.int p5), .val (.ref ax), .val (.int (1 : Int32)), .val (.double (la_low p1 p2 p3 p4 p5)), .second, .val (.int (la_which p1 p2 p3 p4 p5)), .val (.double (4487126258331716666 : UInt64)), .second, .unset, .unset, .unset, .unset]) rfl ?_
            show Steps p.tables e below (T2.setTop (mkF m 106 #[.val (.int p1), .val (.int p2), .val (.int p3), .val (.int p4), .val (.int p5), .val (.ref ax), .val (.int (1 : Int32)), .val (.double (la_low p1 p2 p3 p4 p5)), .second, .val (.int (la_which p1 p2 p3 p4 p5)), .val (.double (4487126258331716666 : UInt64)), .second, .unset, .unset, .unset, .unset] [])) t
            refine XS.iconst X2.here hx rfl (hb hby at_106) ?_
            show Steps p.tables e below (T2.setTop (mkF m 107 #[.val (.int p1), .val (.int p2), .val (.int p3), .val (.int p4), .val (.int p5), .val (.ref ax), .val (.int (1 : Int32)), .val (.double (la_low p1 p2 p3 p4 p5)), .second, .val (.int (la_which p1 p2 p3 p4 p5)), .val (.double (4487126258331716666 : UInt64)), .second, .unset, .unset, .unset, .unset] [(.int (0 : Int32))])) t
            refine XS.istore X2.here hx rfl (hb hby at_107) rfl (l' := #[.val (.int p1), .val (.int p2), .val (.int p3), .val (.int p4), .val (.int p5), .val (.ref ax), .val (.int (1 : Int32)), .val (.double (la_low p1 p2 p3 p4 p5)), .second, .val (.int (la_which p1 p2 p3 p4 p5)), .val (.double (4487126258331716666 : UInt64)), .second, .val (.int (0 : Int32)), .unset, .unset, .unset]) rfl ?_
            show Steps p.tables e below (T2.setTop (mkF m 109 #[.val (.int p1), .val (.int p2), .val (.int p3), .val (.int p4), .val (.int p5), .val (.ref ax), .val (.int (1 : Int32)), .val (.double (la_low p1 p2 p3 p4 p5)), .second, .val (.int (la_which p1 p2 p3 p4 p5)), .val (.double (4487126258331716666 : UInt64)), .second, .val (.int (0 : Int32)), .unset, .unset, .unset] [])) t
            have q : (la_off p1 p2 p3 p4 p5) = (4487126258331716666 : UInt64) := by simp only [la_off, c6, c7, c8, if_true, if_false, Bool.false_eq_true]; try rfl
            rw [q] at k
            clear q
            have q : (la_exp p1 p2 p3 p4 p5) = (0 : Int32) := by simp only [la_exp, c6, c7, c8, if_true, if_false, Bool.false_eq_true]; try rfl
            rw [q] at k
            clear q
            exact k
          · refine XS.icmpNo X2.here hx rfl (hb hby at_87) rfl (Bool.eq_false_iff.mpr c8) ?_
            show Steps p.tables e below (T2.setTop (mkF m 90 #[.val (.int p1), .val (.int p2), .val (.int p3), .val (.int p4), .val (.int p5), .val (.ref ax), .val (.int (1 : Int32)), .val (.double (la_low p1 p2 p3 p4 p5)), .second, .val (.int (la_which p1 p2 p3 p4 p5)), .unset, .unset, .unset, .unset, .unset, .unset] [])) t
            refine X2.ldc2DoubleC hx hown (mvT hZ (hw _ (List.mem_of_getElem? (i := 25) rfl))) (g := (mkF m 90 #[.val (.int p1), .val (.int p2), .val (.int p3), .val (.int p4), .val (.int p5), .val (.ref ax), .val (.int (1 : Int32)), .val (.double (la_low p1 p2 p3 p4 p5)), .second, .val (.int (la_which p1 p2 p3 p4 p5)), .unset, .unset, .unset, .unset, .unset, .unset] [])) rfl (hb hby at_90) _ ?_
            show Steps p.tables e below (T2.setTop (mkF m 93 #[.val (.int p1), .val (.int p2), .val (.int p3), .val (.int p4), .val (.int p5), .val (.ref ax), .val (.int (1 : Int32)), .val (.double (la_low p1 p2 p3 p4 p5)), .second, .val (.int (la_which p1 p2 p3 p4 p5)), .unset, .unset, .unset, .unset, .unset, .unset] [(.double (13691274970857395861 : UInt64))])) t
            refine XS.dstore X2.here hx rfl (hb hby at_93) rfl (l' := #[.val (.int p1), .val (.int p2), .val (.int p3), .val (.int p4), .val (.int p5), .val (.ref ax), .val (.int (1 : Int32)), .val (.double (la_low p1 p2 p3 p4 p5)), .second, .val (.int (la_which p1 p2 p3 p4 p5)), .val (.double (13691274970857395861 : UInt64)), .second, .unset, .unset, .unset, .unset]) rfl ?_
            show Steps p.tables e below (T2.setTop (mkF m 95 #[.val (.int p1), .val (.int p2), .val (.int p3), .val (.int p4), .val (.int p5), .val (.ref ax), .val (.int (1 : Int32)), .val (.double (la_low p1 p2 p3 p4 p5)), .second, .val (.int (la_which p1 p2 p3 p4 p5)), .val (.double (13691274970857395861 : UInt64)), .second, .unset, .unset, .unset, .unset] [])) t
            refine XS.iconst X2.here hx rfl (hb hby at_95) ?_
            show Steps p.tables e below (T2.setTop (mkF m 96 #[.val (.int p1), .val (.int p2), .val (.int p3), .val (.int p4), .val (.int p5), .val (.ref ax), .val (.int (1 : Int32)), .val (.double (la_low p1 p2 p3 p4 p5)), .second, .val (.int (la_which p1 p2 p3 p4 p5)), .val (.double (13691274970857395861 : UInt64)), .second, .unset, .unset, .unset, .unset] [(.int (1 : Int32))])) t
            refine XS.istore X2.here hx rfl (hb hby at_96) rfl (l' := #[.val (.int p1), .val (.int p2), .val (.int p3), .val (.int p4), .val (.int p5), .val (.ref ax), .val (.int (1 : Int32)), .val (.double (la_low p1 p2 p3 p4 p5)), .second, .val (.int (la_which p1 p2 p3 p4 p5)), .val (.double (13691274970857395861 : UInt64)), .second, .val (.int (1 : Int32)), .unset, .unset, .unset]) rfl ?_
            show Steps p.tables e below (T2.setTop (mkF m 98 #[.val (.int p1), .val (.int p2), .val (.int p3), .val (.int p4), .val (.int p5), .val (.ref ax), .val (.int (1 : Int32)), .val (.double (la_low p1 p2 p3 p4 p5)), .second, .val (.int (la_which p1 p2 p3 p4 p5)), .val (.double (13691274970857395861 : UInt64)), .second, .val (.int (1 : Int32)), .unset, .unset, .unset] [])) t
            refine XS.goto X2.here hx rfl (pc0 := 98) (pc' := 109) rfl (hb hby at_98) (by decide) (by decide) ?_
            show Steps p.tables e below (T2.setTop (mkF m 109 #[.val (.int p1), .val (.int p2), .val (.int p3), .val (.int p4), .val (.int p5), .val (.ref ax), .val (.int (1 : Int32)), .val (.double (la_low p1 p2 p3 p4 p5)), .second, .val (.int (la_which p1 p2 p3 p4 p5)), .val (.double (13691274970857395861 : UInt64)), .second, .val (.int (1 : Int32)), .unset, .unset, .unset] [])) t
            have q : (la_off p1 p2 p3 p4 p5) = (13691274970857395861 : UInt64) := by simp only [la_off, c6, c7, c8, if_true, if_false, Bool.false_eq_true]; try rfl
            rw [q] at k
            clear q
            have q : (la_exp p1 p2 p3 p4 p5) = (1 : Int32) := by simp only [la_exp, c6, c7, c8, if_true, if_false, Bool.false_eq_true]; try rfl
            rw [q] at k
            clear q
            exact k
        · refine XS.icmpNo X2.here hx rfl (hb hby at_70) rfl (Bool.eq_false_iff.mpr c7) ?_
          show Steps p.tables e below (T2.setTop (mkF m 73 #[.val (.int p1), .val (.int p2), .val (.int p3), .val (.int p4), .val (.int p5), .val (.ref ax), .val (.int (1 : Int32)), .val (.double (la_low p1 p2 p3 p4 p5)), .second, .val (.int (la_which p1 p2 p3 p4 p5)), .unset, .unset, .unset, .unset, .unset, .unset] [])) t
          refine X2.ldc2DoubleC hx hown (mvT hZ (hw _ (List.mem_of_getElem? (i := 21) rfl))) (g := (mkF m 73 #[.val (.int p1), .val (.int p2), .val (.int p3), .val (.int p4), .val (.int p5), .val (.ref ax), .val (.int (1 : Int32)), .val (.double (la_low p1 p2 p3 p4 p5)), .second, .val (.int (la_which p1 p2 p3 p4 p5)), .unset, .unset, .unset, .unset, .unset, .unset] [])) rfl (hb hby at_73) _ ?_
          show Steps p.tables e below (T2.setTop (mkF m 76 #[.val (.int p1), .val (.int p2), .val (.int p3), .val (.int p4), .val (.int p5), .val (.ref ax), .val (.int (1 : Int32)), .val (.double (la_low p1 p2 p3 p4 p5)), .second, .val (.int (la_which p1 p2 p3 p4 p5)), .unset, .unset, .unset, .unset, .unset, .unset] [(.double (4476910133257361045 : UInt64))])) t
          refine XS.dstore X2.here hx rfl (hb hby at_76) rfl (l' := #[.val (.int p1), .val (.int p2), .val (.int p3), .val (.int p4), .val (.int p5), .val (.ref ax), .val (.int (1 : Int32)), .val (.double (la_low p1 p2 p3 p4 p5)), .second, .val (.int (la_which p1 p2 p3 p4 p5)), .val (.double (4476910133257361045 : UInt64)), .second, .unset, .unset, .unset, .unset]) rfl ?_
          show Steps p.tables e below (T2.setTop (mkF m 78 #[.val (.int p1), .val (.int p2), .val (.int p3), .val (.int p4), .val (.int p5), .val (.ref ax), .val (.int (1 : Int32)), .val (.double (la_low p1 p2 p3 p4 p5)), .second, .val (.int (la_which p1 p2 p3 p4 p5)), .val (.double (4476910133257361045 : UInt64)), .second, .unset, .unset, .unset, .unset] [])) t
          refine XS.iconst X2.here hx rfl (hb hby at_78) ?_
          show Steps p.tables e below (T2.setTop (mkF m 79 #[.val (.int p1), .val (.int p2), .val (.int p3), .val (.int p4), .val (.int p5), .val (.ref ax), .val (.int (1 : Int32)), .val (.double (la_low p1 p2 p3 p4 p5)), .second, .val (.int (la_which p1 p2 p3 p4 p5)), .val (.double (4476910133257361045 : UInt64)), .second, .unset, .unset, .unset, .unset] [(.int (0 : Int32))])) t
          refine XS.istore X2.here hx rfl (hb hby at_79) rfl (l' := #[.val (.int p1), .val (.int p2), .val (.int p3), .val (.int p4), .val (.int p5), .val (.ref ax), .val (.int (1 : Int32)), .val (.double (la_low p1 p2 p3 p4 p5)), .second, .val (.int (la_which p1 p2 p3 p4 p5)), .val (.double (4476910133257361045 : UInt64)), .second, .val (.int (0 : Int32)), .unset, .unset, .unset]) rfl ?_
          show Steps p.tables e below (T2.setTop (mkF m 81 #[.val (.int p1), .val (.int p2), .val (.int p3), .val (.int p4), .val (.int p5), .val (.ref ax), .val (.int (1 : Int32)), .val (.double (la_low p1 p2 p3 p4 p5)), .second, .val (.int (la_which p1 p2 p3 p4 p5)), .val (.double (4476910133257361045 : UInt64)), .second, .val (.int (0 : Int32)), .unset, .unset, .unset] [])) t
          refine XS.goto X2.here hx rfl (pc0 := 81) (pc' := 109) rfl (hb hby at_81) (by decide) (by decide) ?_
          show Steps p.tables e below (T2.setTop (mkF m 109 #[.val (.int p1), .val (.int p2), .val (.int p3), .val (.int p4), .val (.int p5), .val (.ref ax), .val (.int (1 : Int32)), .val (.double (la_low p1 p2 p3 p4 p5)), .second, .val (.int (la_which p1 p2 p3 p4 p5)), .val (.double (4476910133257361045 : UInt64)), .second, .val (.int (0 : Int32)), .unset, .unset, .unset] [])) t
          have q : (la_off p1 p2 p3 p4 p5) = (4476910133257361045 : UInt64) := by simp only [la_off, c6, c7, if_true, if_false, Bool.false_eq_true]; try rfl
          rw [q] at k
          clear q
          have q : (la_exp p1 p2 p3 p4 p5) = (0 : Int32) := by simp only [la_exp, c6, c7, if_true, if_false, Bool.false_eq_true]; try rfl
          rw [q] at k
          clear q
          exact k
      · refine XS.ifNo X2.here hx rfl (hb hby at_53) rfl (Bool.eq_false_iff.mpr c6) ?_
        show Steps p.tables e below (T2.setTop (mkF m 56 #[.val (.int p1), .val (.int p2), .val (.int p3), .val (.int p4), .val (.int p5), .val (.ref ax), .val (.int (1 : Int32)), .val (.double (la_low p1 p2 p3 p4 p5)), .second, .val (.int (la_which p1 p2 p3 p4 p5)), .unset, .unset, .unset, .unset, .unset, .unset] [])) t
        refine X2.ldc2DoubleC hx hown (mvT hZ (hw _ (List.mem_of_getElem? (i := 16) rfl))) (g := (mkF m 56 #[.val (.int p1), .val (.int p2), .val (.int p3), .val (.int p4), .val (.int p5), .val (.ref ax), .val (.int (1 : Int32)), .val (.double (la_low p1 p2 p3 p4 p5)), .second, .val (.int (la_which p1 p2 p3 p4 p5)), .unset, .unset, .unset, .unset, .unset, .unset] [])) rfl (hb hby at_56) _ ?_
        show Steps p.tables e below (T2.setTop (mkF m 59 #[.val (.int p1), .val (.int p2), .val (.int p3), .val (.int p4), .val (.int p5), .val (.ref ax), .val (.int (1 : Int32)), .val (.double (la_low p1 p2 p3 p4 p5)), .second, .val (.int (la_which p1 p2 p3 p4 p5)), .unset, .unset, .unset, .unset, .unset, .unset] [(.double (4467902934002620053 : UInt64))])) t
        refine XS.dstore X2.here hx rfl (hb hby at_59) rfl (l' := #[.val (.int p1), .val (.int p2), .val (.int p3), .val (.int p4), .val (.int p5), .val (.ref ax), .val (.int (1 : Int32)), .val (.double (la_low p1 p2 p3 p4 p5)), .second, .val (.int (la_which p1 p2 p3 p4 p5)), .val (.double (4467902934002620053 : UInt64)), .second, .unset, .unset, .unset, .unset]) rfl ?_
        show Steps p.tables e below (T2.setTop (mkF m 61 #[.val (.int p1), .val (.int p2), .val (.int p3), .val (.int p4), .val (.int p5), .val (.ref ax), .val (.int (1 : Int32)), .val (.double (la_low p1 p2 p3 p4 p5)), .second, .val (.int (la_which p1 p2 p3 p4 p5)), .val (.double (4467902934002620053 : UInt64)), .second, .unset, .unset, .unset, .unset] [])) t
        refine XS.iconst X2.here hx rfl (hb hby at_61) ?_
        show Steps p.tables e below (T2.setTop (mkF m 62 #[.val (.int p1), .val (.int p2), .val (.int p3), .val (.int p4), .val (.int p5), .val (.ref ax), .val (.int (1 : Int32)), .val (.double (la_low p1 p2 p3 p4 p5)), .second, .val (.int (la_which p1 p2 p3 p4 p5)), .val (.double (4467902934002620053 : UInt64)), .second, .unset, .unset, .unset, .unset] [(.int (1 : Int32))])) t
        refine XS.istore X2.here hx rfl (hb hby at_62) rfl (l' := #[.val (.int p1), .val (.int p2), .val (.int p3), .val (.int p4), .val (.int p5), .val (.ref ax), .val (.int (1 : Int32)), .val (.double (la_low p1 p2 p3 p4 p5)), .second, .val (.int (la_which p1 p2 p3 p4 p5)), .val (.double (4467902934002620053 : UInt64)), .second, .val (.int (1 : Int32)), .unset, .unset, .unset]) rfl ?_
        show Steps p.tables e below (T2.setTop (mkF m 64 #[.val (.int p1), .val (.int p2), .val (.int p3), .val (.int p4), .val (.int p5), .val (.ref ax), .val (.int (1 : Int32)), .val (.double (la_low p1 p2 p3 p4 p5)), .second, .val (.int (la_which p1 p2 p3 p4 p5)), .val (.double (4467902934002620053 : UInt64)), .second, .val (.int (1 : Int32)), .unset, .unset, .unset] [])) t
        refine XS.goto X2.here hx rfl (pc0 := 64) (pc' := 109) rfl (hb hby at_64) (by decide) (by decide) ?_
        show Steps p.tables e below (T2.setTop (mkF m 109 #[.val (.int p1), .val (.int p2), .val (.int p3), .val (.int p4), .val (.int p5), .val (.ref ax), .val (.int (1 : Int32)), .val (.double (la_low p1 p2 p3 p4 p5)), .second, .val (.int (la_which p1 p2 p3 p4 p5)), .val (.double (4467902934002620053 : UInt64)), .second, .val (.int (1 : Int32)), .unset, .unset, .unset] [])) t
        have q : (la_off p1 p2 p3 p4 p5) = (4467902934002620053 : UInt64) := by simp only [la_off, c6, if_true, if_false, Bool.false_eq_true]; try rfl
        rw [q] at k
        clear q
        have q : (la_exp p1 p2 p3 p4 p5) = (1 : Int32) := by simp only [la_exp, c6, if_true, if_false, Bool.false_eq_true]; try rfl
        rw [q] at k
        clear q
        exact k
    refine sg5 _ ?_
    show Steps p.tables e below (T2.setTop (mkF m 109 #[.val (.int p1), .val (.int p2), .val (.int p3), .val (.int p4), .val (.int p5), .val (.ref ax), .val (.int (1 : Int32)), .val (.double (la_low p1 p2 p3 p4 p5)), .second, .val (.int (la_which p1 p2 p3 p4 p5)), .val (.double (la_off p1 p2 p3 p4 p5)), .second, .val (.int (la_exp p1 p2 p3 p4 p5)), .unset, .unset, .unset] [])) _
    refine XS.dload X2.here hx rfl (hb hby at_109) rfl ?_
    show Steps p.tables e below (T2.setTop (mkF m 111 #[.val (.int p1), .val (.int p2), .val (.int p3), .val (.int p4), .val (.int p5), .val (.ref ax), .val (.int (1 : Int32)), .val (.double (la_low p1 p2 p3 p4 p5)), .second, .val (.int (la_which p1 p2 p3 p4 p5)), .val (.double (la_off p1 p2 p3 p4 p5)), .second, .val (.int (la_exp p1 p2 p3 p4 p5)), .unset, .unset, .unset] [(.double (la_low p1 p2 p3 p4 p5))])) _
    refine XS.dload X2.here hx rfl (hb hby at_111) rfl ?_
    show Steps p.tables e below (T2.setTop (mkF m 113 #[.val (.int p1), .val (.int p2), .val (.int p3), .val (.int p4), .val (.int p5), .val (.ref ax), .val (.int (1 : Int32)), .val (.double (la_low p1 p2 p3 p4 p5)), .second, .val (.int (la_which p1 p2 p3 p4 p5)), .val (.double (la_off p1 p2 p3 p4 p5)), .second, .val (.int (la_exp p1 p2 p3 p4 p5)), .unset, .unset, .unset] [(.double (la_off p1 p2 p3 p4 p5)), (.double (la_low p1 p2 p3 p4 p5))])) _
    refine XS.daddS X2.here hx rfl (hb hby at_113) rfl (own_rk p1 p2 p3 p4 p5) rfl ?_
    show Steps p.tables e below (T2.setTop (mkF m 114 #[.val (.int p1), .val (.int p2), .val (.int p3), .val (.int p4), .val (.int p5), .val (.ref ax), .val (.int (1 : Int32)), .val (.double (la_low p1 p2 p3 p4 p5)), .second, .val (.int (la_which p1 p2 p3 p4 p5)), .val (.double (la_off p1 p2 p3 p4 p5)), .second, .val (.int (la_exp p1 p2 p3 p4 p5)), .unset, .unset, .unset] [(.double (FP.dadd (la_low p1 p2 p3 p4 p5) (la_off p1 p2 p3 p4 p5)))])) _
    refine XS.dstore X2.here hx rfl (hb hby at_114) rfl (l' := #[.val (.int p1), .val (.int p2), .val (.int p3), .val (.int p4), .val (.int p5), .val (.ref ax), .val (.int (1 : Int32)), .val (.double (la_low p1 p2 p3 p4 p5)), .second, .val (.int (la_which p1 p2 p3 p4 p5)), .val (.double (la_off p1 p2 p3 p4 p5)), .second, .val (.int (la_exp p1 p2 p3 p4 p5)), .val (.double (la_rank p1 p2 p3 p4 p5)), .second, .unset]) rfl ?_
    show Steps p.tables e below (T2.setTop (mkF m 116 #[.val (.int p1), .val (.int p2), .val (.int p3), .val (.int p4), .val (.int p5), .val (.ref ax), .val (.int (1 : Int32)), .val (.double (la_low p1 p2 p3 p4 p5)), .second, .val (.int (la_which p1 p2 p3 p4 p5)), .val (.double (la_off p1 p2 p3 p4 p5)), .second, .val (.int (la_exp p1 p2 p3 p4 p5)), .val (.double (la_rank p1 p2 p3 p4 p5)), .second, .unset] [])) _
    refine XS.aload X2.here hx rfl (hb hby at_116) rfl rfl ?_
    show Steps p.tables e below (T2.setTop (mkF m 118 #[.val (.int p1), .val (.int p2), .val (.int p3), .val (.int p4), .val (.int p5), .val (.ref ax), .val (.int (1 : Int32)), .val (.double (la_low p1 p2 p3 p4 p5)), .second, .val (.int (la_which p1 p2 p3 p4 p5)), .val (.double (la_off p1 p2 p3 p4 p5)), .second, .val (.int (la_exp p1 p2 p3 p4 p5)), .val (.double (la_rank p1 p2 p3 p4 p5)), .second, .unset] [(.ref ax)])) _
    refine XS.dload X2.here hx rfl (hb hby at_118) rfl ?_
    show Steps p.tables e below (T2.setTop (mkF m 120 #[.val (.int p1), .val (.int p2), .val (.int p3), .val (.int p4), .val (.int p5), .val (.ref ax), .val (.int (1 : Int32)), .val (.double (la_low p1 p2 p3 p4 p5)), .second, .val (.int (la_which p1 p2 p3 p4 p5)), .val (.double (la_off p1 p2 p3 p4 p5)), .second, .val (.int (la_exp p1 p2 p3 p4 p5)), .val (.double (la_rank p1 p2 p3 p4 p5)), .second, .unset] [(.double (la_rank p1 p2 p3 p4 p5)), (.ref ax)])) _
    refine XS.dload X2.here hx rfl (hb hby at_120) rfl ?_
    show Steps p.tables e below (T2.setTop (mkF m 122 #[.val (.int p1), .val (.int p2), .val (.int p3), .val (.int p4), .val (.int p5), .val (.ref ax), .val (.int (1 : Int32)), .val (.double (la_low p1 p2 p3 p4 p5)), .second, .val (.int (la_which p1 p2 p3 p4 p5)), .val (.double (la_off p1 p2 p3 p4 p5)), .second, .val (.int (la_exp p1 p2 p3 p4 p5)), .val (.double (la_rank p1 p2 p3 p4 p5)), .second, .unset] [(.double (la_low p1 p2 p3 p4 p5)), (.double (la_rank p1 p2 p3 p4 p5)), (.ref ax)])) _
    refine st9.trans ?_
    show Steps p.tables e below (T9.setTop (mkF m 125 #[.val (.int p1), .val (.int p2), .val (.int p3), .val (.int p4), .val (.int p5), .val (.ref ax), .val (.int (1 : Int32)), .val (.double (la_low p1 p2 p3 p4 p5)), .second, .val (.int (la_which p1 p2 p3 p4 p5)), .val (.double (la_off p1 p2 p3 p4 p5)), .second, .val (.int (la_exp p1 p2 p3 p4 p5)), .val (.double (la_rank p1 p2 p3 p4 p5)), .second, .unset] [(.int (ti_res (la_rank p1 p2 p3 p4 p5) (la_low p1 p2 p3 p4 p5)))])) _
    refine XS.iload X9.here hx rfl (hb hby at_125) rfl ?_
    show Steps p.tables e below (T9.setTop (mkF m 127 #[.val (.int p1), .val (.int p2), .val (.int p3), .val (.int p4), .val (.int p5), .val (.ref ax), .val (.int (1 : Int32)), .val (.double (la_low p1 p2 p3 p4 p5)), .second, .val (.int (la_which p1 p2 p3 p4 p5)), .val (.double (la_off p1 p2 p3 p4 p5)), .second, .val (.int (la_exp p1 p2 p3 p4 p5)), .val (.double (la_rank p1 p2 p3 p4 p5)), .second, .unset] [(.int (la_exp p1 p2 p3 p4 p5)), (.int (ti_res (la_rank p1 p2 p3 p4 p5) (la_low p1 p2 p3 p4 p5)))])) _
    refine XS.icmpNo X9.here hx rfl (hb hby at_127) rfl (own_a2 p1 p2 p3 p4 p5) ?_
    show Steps p.tables e below (T9.setTop (mkF m 130 #[.val (.int p1), .val (.int p2), .val (.int p3), .val (.int p4), .val (.int p5), .val (.ref ax), .val (.int (1 : Int32)), .val (.double (la_low p1 p2 p3 p4 p5)), .second, .val (.int (la_which p1 p2 p3 p4 p5)), .val (.double (la_off p1 p2 p3 p4 p5)), .second, .val (.int (la_exp p1 p2 p3 p4 p5)), .val (.double (la_rank p1 p2 p3 p4 p5)), .second, .unset] [])) _
    refine XS.iconst X9.here hx rfl (hb hby at_130) ?_
    show Steps p.tables e below (T9.setTop (mkF m 131 #[.val (.int p1), .val (.int p2), .val (.int p3), .val (.int p4), .val (.int p5), .val (.ref ax), .val (.int (1 : Int32)), .val (.double (la_low p1 p2 p3 p4 p5)), .second, .val (.int (la_which p1 p2 p3 p4 p5)), .val (.double (la_off p1 p2 p3 p4 p5)), .second, .val (.int (la_exp p1 p2 p3 p4 p5)), .val (.double (la_rank p1 p2 p3 p4 p5)), .second, .unset] [(.int (1 : Int32))])) _
    refine XS.goto X9.here hx rfl (pc0 := 131) (pc' := 135) rfl (hb hby at_131) (by decide) (by decide) ?_
    show Steps p.tables e below (T9.setTop (mkF m 135 #[.val (.int p1), .val (.int p2), .val (.int p3), .val (.int p4), .val (.int p5), .val (.ref ax), .val (.int (1 : Int32)), .val (.double (la_low p1 p2 p3 p4 p5)), .second, .val (.int (la_which p1 p2 p3 p4 p5)), .val (.double (la_off p1 p2 p3 p4 p5)), .second, .val (.int (la_exp p1 p2 p3 p4 p5)), .val (.double (la_rank p1 p2 p3 p4 p5)), .second, .unset] [(.int (1 : Int32))])) _
    refine XS.istore X9.here hx rfl (hb hby at_135) rfl (l' := #[.val (.int p1), .val (.int p2), .val (.int p3), .val (.int p4), .val (.int p5), .val (.ref ax), .val (.int (1 : Int32)), .val (.double (la_low p1 p2 p3 p4 p5)), .second, .val (.int (la_which p1 p2 p3 p4 p5)), .val (.double (la_off p1 p2 p3 p4 p5)), .second, .val (.int (la_exp p1 p2 p3 p4 p5)), .val (.double (la_rank p1 p2 p3 p4 p5)), .second, .val (.int (1 : Int32))]) rfl ?_
    show Steps p.tables e below (T9.setTop (mkF m 137 #[.val (.int p1), .val (.int p2), .val (.int p3), .val (.int p4), .val (.int p5), .val (.ref ax), .val (.int (1 : Int32)), .val (.double (la_low p1 p2 p3 p4 p5)), .second, .val (.int (la_which p1 p2 p3 p4 p5)), .val (.double (la_off p1 p2 p3 p4 p5)), .second, .val (.int (la_exp p1 p2 p3 p4 p5)), .val (.double (la_rank p1 p2 p3 p4 p5)), .second, .val (.int (1 : Int32))] [])) _
    refine XS.iload X9.here hx rfl (hb hby at_137) rfl ?_
    show Steps p.tables e below (T9.setTop (mkF m 139 #[.val (.int p1), .val (.int p2), .val (.int p3), .val (.int p4), .val (.int p5), .val (.ref ax), .val (.int (1 : Int32)), .val (.double (la_low p1 p2 p3 p4 p5)), .second, .val (.int (la_which p1 p2 p3 p4 p5)), .val (.double (la_off p1 p2 p3 p4 p5)), .second, .val (.int (la_exp p1 p2 p3 p4 p5)), .val (.double (la_rank p1 p2 p3 p4 p5)), .second, .val (.int (1 : Int32))] [(.int (1 : Int32))])) _
    refine XS.ifNo X9.here hx rfl (hb hby at_139) rfl (by decide) ?_
    show Steps p.tables e below (T9.setTop (mkF m 142 #[.val (.int p1), .val (.int p2), .val (.int p3), .val (.int p4), .val (.int p5), .val (.ref ax), .val (.int (1 : Int32)), .val (.double (la_low p1 p2 p3 p4 p5)), .second, .val (.int (la_which p1 p2 p3 p4 p5)), .val (.double (la_off p1 p2 p3 p4 p5)), .second, .val (.int (la_exp p1 p2 p3 p4 p5)), .val (.double (la_rank p1 p2 p3 p4 p5)), .second, .val (.int (1 : Int32))] [])) _
    refine XS.iload X9.here hx rfl (hb hby at_142) rfl ?_
    show Steps p.tables e below (T9.setTop (mkF m 144 #[.val (.int p1), .val (.int p2), .val (.int p3), .val (.int p4), .val (.int p5), .val (.ref ax), .val (.int (1 : Int32)), .val (.double (la_low p1 p2 p3 p4 p5)), .second, .val (.int (la_which p1 p2 p3 p4 p5)), .val (.double (la_off p1 p2 p3 p4 p5)), .second, .val (.int (la_exp p1 p2 p3 p4 p5)), .val (.double (la_rank p1 p2 p3 p4 p5)), .second, .val (.int (1 : Int32))] [(.int (1 : Int32))])) _
    refine XS.ifNo X9.here hx rfl (hb hby at_144) rfl (by decide) ?_
    show Steps p.tables e below (T9.setTop (mkF m 147 #[.val (.int p1), .val (.int p2), .val (.int p3), .val (.int p4), .val (.int p5), .val (.ref ax), .val (.int (1 : Int32)), .val (.double (la_low p1 p2 p3 p4 p5)), .second, .val (.int (la_which p1 p2 p3 p4 p5)), .val (.double (la_off p1 p2 p3 p4 p5)), .second, .val (.int (la_exp p1 p2 p3 p4 p5)), .val (.double (la_rank p1 p2 p3 p4 p5)), .second, .val (.int (1 : Int32))] [])) _
    refine XS.iconst X9.here hx rfl (hb hby at_147) ?_
    show Steps p.tables e below (T9.setTop (mkF m 148 #[.val (.int p1), .val (.int p2), .val (.int p3), .val (.int p4), .val (.int p5), .val (.ref ax), .val (.int (1 : Int32)), .val (.double (la_low p1 p2 p3 p4 p5)), .second, .val (.int (la_which p1 p2 p3 p4 p5)), .val (.double (la_off p1 p2 p3 p4 p5)), .second, .val (.int (la_exp p1 p2 p3 p4 p5)), .val (.double (la_rank p1 p2 p3 p4 p5)), .second, .val (.int (1 : Int32))] [(.int (1 : Int32))])) _
    refine XS.goto X9.here hx rfl (pc0 := 148) (pc' := 152) rfl (hb hby at_148) (by decide) (by decide) ?_
    show Steps p.tables e below (T9.setTop (mkF m 152 #[.val (.int p1), .val (.int p2), .val (.int p3), .val (.int p4), .val (.int p5), .val (.ref ax), .val (.int (1 : Int32)), .val (.double (la_low p1 p2 p3 p4 p5)), .second, .val (.int (la_which p1 p2 p3 p4 p5)), .val (.double (la_off p1 p2 p3 p4 p5)), .second, .val (.int (la_exp p1 p2 p3 p4 p5)), .val (.double (la_rank p1 p2 p3 p4 p5)), .second, .val (.int (1 : Int32))] [(.int (1 : Int32))])) _
    exact retN X9 hx (t := .boolean) Bd.returns (by simp) (hb hby at_152) hr
  · show Q_la Z p1 p2 p3 p4 p5 ax h0 n0 _ T9.heap _
    exact ⟨rfl, Nn9⟩
theorem ef_lb (m : MethodId) (p1 : Int32) (p2 : Int32) (p3 : Int32) (p4 : Int32) (p5 : Int32) : entryFrame m #[(.int p1), (.int p2), (.int p3), (.int p4), (.int p5)] maxLocals = (mkF m 0 #[.val (.int p1), .val (.int p2), .val (.int p3), .val (.int p4), .val (.int p5), .unset, .unset, .unset, .unset, .unset, .unset, .unset, .unset, .unset, .unset, .unset] []) := by first | (simp [entryFrame, mkF, argsToLocals, Value.category, maxLocals]; done) | rfl
def Q_lb (Z : State) (p1 : Int32) (p2 : Int32) (p3 : Int32) (p4 : Int32) (p5 : Int32) (ax : Addr) (h0 : Heap) (n0 : Nat) (v : Option Value) (h : Heap) (L : List Loc) : Prop := v = some (.int 1) ∧ Fr n0 L
set_option maxRecDepth 65536 in
set_option maxHeartbeats 40000000 in
theorem rm_lb (l : Launch) (Z : State) (a0 : Array Value) (hw : ∀ d ∈ tables_1, d.before a0 Z = true) (ws : List Jvm.Cond) (p1 : Int32) (p2 : Int32) (p3 : Int32) (p4 : Int32) (p5 : Int32) (ax : Addr) (h0 : Heap) (n0 : Nat) (Z0 : n0 ≤ h0.size) (k0_ : Exa Z h0 ax "com/example/muster/muster/auction/Mechanism$2") (hS : Sta Z h0 "com/example/muster/muster/auction/Mechanism" "COST_MIN" "Lcom/example/muster/muster/auction/Mechanism;" (.ref ax)) (c1 : ifCond.holds .ne (pk1_s p1) = true) (c2 : if_icmp.holds .ne (pk1_s p1) (1 : Int32) = false)  :
    MetFree l x (head1 (Jvm.Cond.code x code maxLocals ret :: ws) room_1) (fun a U => a = #[(.int p1), (.int p2), (.int p3), (.int p4), (.int p5)] ∧ Z.Warmed39 U.vm ∧ U.heap = h0) (fun _ _ _ _ _ => True) (fun _ U o U' => ∃ v L, o = .returned v ∧ Q_lb Z p1 p2 p3 p4 p5 ax h0 n0 v U'.heap L ∧ FrameEnd U o U' L 0 0) := by
  refine MetFree.of_bodySF (plainFor_of_name pn_0) hisR ?_
  intro p e s m args below meth c s₁ Bd hml0 hP hK
  obtain ⟨rfl, hZ, hh⟩ := hP
  have hx := Bd.exec
  have hby := Bd.bytes
  have hml : c.maxLocals = 16 := hml0
  have hown : s.vm.findClass "com/example/muster/muster/auction/MechanismTiesPinLaw" = some m.cls := findClass_of_methodNamed Bd.named
  have hnm := (name_of_methodNamed Bd.named Bd.method).1
  have X0 : Stand p l e room_1 s m #[(.int p1), (.int p2), (.int p3), (.int p4), (.int p5)] below meth c s₁ [] 0 0 := Stand.of_body Bd
  have e0 : s₁.heap = h0 := by rw [← hh, Bd.state]; rfl
  have N0 := Fr.nil n0
  have pre0 : ∀ t, Steps p.tables e below (s₁.setTop (mkF m 0 #[.val (.int p1), .val (.int p2), .val (.int p3), .val (.int p4), .val (.int p5), .unset, .unset, .unset, .unset, .unset, .unset, .unset, .unset, .unset, .unset, .unset] [])) t → Steps p.tables e below (s₁.setTop (entryFrame m #[(.int p1), (.int p2), (.int p3), (.int p4), (.int p5)] maxLocals)) t := fun t k => castTop (ef_lb m p1 p2 p3 p4 p5) k
  obtain ⟨_, _, ⟨T1, L1, k1, n1⟩, -, X1, ⟨Lc1, hQ1, l1, y1, z1⟩, st1⟩ := Jvm.LawKit.callS X0 hx (y := (⟨"com/example/muster/muster/auction/MechanismTiesPinLaw", "pick", "(I)Lcom/example/muster/muster/auction/Mechanism;"⟩ : MethodName)) hown (mvT hZ (hw _ (List.mem_of_getElem? (i := 0) rfl))) (mvT hZ (hw _ (List.mem_of_getElem? (i := 1) rfl))) (mvT hZ (hw _ (List.mem_of_getElem? (i := 2) rfl))) (mvT hZ (hw _ (List.mem_of_getElem? (i := 3) rfl))) (by decide) (backOf (W := 0) (rm_pk1 l Z a0 hw [] p1 ax (h0) n0 Z0  hS c1 c2) hZ (hw _ (List.mem_of_getElem? (i := 3) rfl)) (hw _ (List.mem_of_getElem? (i := 2) rfl)) (by decide) (by decide)) (g := (mkF m 1 #[.val (.int p1), .val (.int p2), .val (.int p3), .val (.int p4), .val (.int p5), .unset, .unset, .unset, .unset, .unset, .unset, .unset, .unset, .unset, .unset, .unset] [(.int p1)])) rfl (by rw [hml]; rfl) (argsL := [(.int p1)]) (rest := []) (lenOf pd_0 rfl) rfl (by show 2 * 0 + _ ≤ _; exact Nat.le_of_eq rfl) (hb hby at_1) (fun _ _ => ⟨rfl, e0, (by decide : 0 + 0 ≤ _), (by decide : 0 + 0 ≤ _)⟩)
  dsimp only [Pt.U, Pt.locs, Pt.cells, Pt.slots] at X1 l1 y1 z1 st1 hQ1
  subst l1 y1 z1
  obtain ⟨rfl, N1, e1⟩ := hQ1
  have Nn1 := Fr.app N0 N1
  obtain ⟨cq2, kq2, qa2, qb2, qc2⟩ := isOf hZ e1 k0_
  obtain ⟨_, _, ⟨T2, L2, k2, n2⟩, -, X2, ⟨Lc2, hQ2, l2, y2, z2⟩, st2⟩ := X1.virtualBack hx (y := (⟨"com/example/muster/muster/auction/Mechanism", "ties", "(DD)Z"⟩ : MethodName)) (z := (⟨"com/example/muster/muster/auction/Mechanism", "ties", "(DD)Z"⟩ : MethodName)) hown (mvT hZ (hw _ (List.mem_of_getElem? (i := 8) rfl))) (mvT hZ (hw _ (List.mem_of_getElem? (i := 9) rfl))) (notFace_of_selects (args := #[]) (mvT hZ (hw _ (List.mem_of_getElem? (i := 24) rfl)))) (mvT hZ (hw _ (List.mem_of_getElem? (i := 24) rfl))) (mvT hZ (hw _ (List.mem_of_getElem? (i := 10) rfl))) (by decide) (backOf (W := 0) (rm_ti l Z a0 hw [] ax (FP.i2d p2) (FP.i2d p3)  (h0) n0 Z0  (own_upn p3)) hZ (hw _ (List.mem_of_getElem? (i := 12) rfl)) (hw _ (List.mem_of_getElem? (i := 6) rfl)) (by decide) (by decide)) qa2 qc2 (g := (mkF m 12 #[.val (.int p1), .val (.int p2), .val (.int p3), .val (.int p4), .val (.int p5), .val (.ref ax), .unset, .unset, .unset, .unset, .unset, .unset, .unset, .unset, .unset, .unset] [(.double (FP.i2d p3)), (.double (FP.i2d p2)), (.ref ax)])) rfl (by rw [hml]; rfl) (Steps.refl _) (argsL := [(.double (FP.i2d p2)), (.double (FP.i2d p3))]) (rest := []) (lenOf pd_1 rfl) rfl (by show 2 * 0 + _ ≤ _; exact Nat.le_of_eq rfl) (hb hby at_12) (fun _ _ => ⟨rfl, e1, (by decide : 0 + 0 ≤ _), (by decide : 0 + 0 ≤ _)⟩)
  dsimp only [Pt.U, Pt.locs, Pt.cells, Pt.slots] at X2 l2 y2 z2 st2 hQ2
  subst l2 y2 z2
  obtain ⟨rfl, N2, e2⟩ := hQ2
  have Nn2 := Fr.app Nn1 N2
  obtain ⟨cq9, kq9, qa9, qb9, qc9⟩ := isOf hZ e2 k0_
  obtain ⟨_, _, ⟨T9, L9, k9, n9⟩, -, X9, ⟨Lc9, hQ9, l9, y9, z9⟩, st9⟩ := X2.virtualBack hx (y := (⟨"com/example/muster/muster/auction/Mechanism", "ties", "(DD)Z"⟩ : MethodName)) (z := (⟨"com/example/muster/muster/auction/Mechanism", "ties", "(DD)Z"⟩ : MethodName)) hown (mvT hZ (hw _ (List.mem_of_getElem? (i := 8) rfl))) (mvT hZ (hw _ (List.mem_of_getElem? (i := 9) rfl))) (notFace_of_selects (args := #[]) (mvT hZ (hw _ (List.mem_of_getElem? (i := 24) rfl)))) (mvT hZ (hw _ (List.mem_of_getElem? (i := 24) rfl))) (mvT hZ (hw _ (List.mem_of_getElem? (i := 10) rfl))) (by decide) (backOf (W := 0) (rm_ti l Z a0 hw [] ax (lb_rank p1 p2 p3 p4 p5) (lb_low p1 p2 p3 p4 p5)  (h0) n0 Z0  (own_tl p1 p2 p3 p4 p5)) hZ (hw _ (List.mem_of_getElem? (i := 12) rfl)) (hw _ (List.mem_of_getElem? (i := 6) rfl)) (by decide) (by decide)) qa9 qc9 (g := (mkF m 122 #[.val (.int p1), .val (.int p2), .val (.int p3), .val (.int p4), .val (.int p5), .val (.ref ax), .val (.int (1 : Int32)), .val (.double (lb_low p1 p2 p3 p4 p5)), .second, .val (.int (lb_which p1 p2 p3 p4 p5)), .val (.double (lb_off p1 p2 p3 p4 p5)), .second, .val (.int (lb_exp p1 p2 p3 p4 p5)), .val (.double (lb_rank p1 p2 p3 p4 p5)), .second, .unset] [(.double (lb_low p1 p2 p3 p4 p5)), (.double (lb_rank p1 p2 p3 p4 p5)), (.ref ax)])) rfl (by rw [hml]; rfl) (Steps.refl _) (argsL := [(.double (lb_rank p1 p2 p3 p4 p5)), (.double (lb_low p1 p2 p3 p4 p5))]) (rest := []) (lenOf pd_1 rfl) rfl (by show 2 * 0 + _ ≤ _; exact Nat.le_of_eq rfl) (hb hby at_122) (fun _ _ => ⟨rfl, e2, (by decide : 0 + 0 ≤ _), (by decide : 0 + 0 ≤ _)⟩)
  dsimp only [Pt.U, Pt.locs, Pt.cells, Pt.slots] at X9 l9 y9 z9 st9 hQ9
  subst l9 y9 z9
  obtain ⟨rfl, N9, e9⟩ := hQ9
  have Nn9 := Fr.app Nn2 N9
  obtain ⟨fs, hr, hrun, hended, hW, hsame⟩ := X9.leave (v := some (.int (1 : Int32))) (fun h => by rw [Bd.returns] at h; cases h)
  refine ⟨_, _, pre0 _ ?_, hrun, hended, _, _, rfl, ?_, ⟨_, rfl⟩, hW, hsame.mono (Nat.le_of_ble_eq_true rfl) (Nat.le_of_ble_eq_true rfl)⟩
  · show Steps p.tables e below (s₁.setTop (mkF m 0 #[.val (.int p1), .val (.int p2), .val (.int p3), .val (.int p4), .val (.int p5), .unset, .unset, .unset, .unset, .unset, .unset, .unset, .unset, .unset, .unset, .unset] [])) _
    refine XS.iloadN X0.here hx rfl (hb hby at_0) rfl ?_
    show Steps p.tables e below (s₁.setTop (mkF m 1 #[.val (.int p1), .val (.int p2), .val (.int p3), .val (.int p4), .val (.int p5), .unset, .unset, .unset, .unset, .unset, .unset, .unset, .unset, .unset, .unset, .unset] [(.int p1)])) _
    refine st1 _ ?_
    show Steps p.tables e below (T1.setTop (mkF m 4 #[.val (.int p1), .val (.int p2), .val (.int p3), .val (.int p4), .val (.int p5), .unset, .unset, .unset, .unset, .unset, .unset, .unset, .unset, .unset, .unset, .unset] [(.ref ax)])) _
    refine XS.astore X1.here hx rfl (hb hby at_4) rfl rfl (l' := #[.val (.int p1), .val (.int p2), .val (.int p3), .val (.int p4), .val (.int p5), .val (.ref ax), .unset, .unset, .unset, .unset, .unset, .unset, .unset, .unset, .unset, .unset]) rfl ?_
    show Steps p.tables e below (T1.setTop (mkF m 6 #[.val (.int p1), .val (.int p2), .val (.int p3), .val (.int p4), .val (.int p5), .val (.ref ax), .unset, .unset, .unset, .unset, .unset, .unset, .unset, .unset, .unset, .unset] [])) _
    refine XS.aload X1.here hx rfl (hb hby at_6) rfl rfl ?_
    show Steps p.tables e below (T1.setTop (mkF m 8 #[.val (.int p1), .val (.int p2), .val (.int p3), .val (.int p4), .val (.int p5), .val (.ref ax), .unset, .unset, .unset, .unset, .unset, .unset, .unset, .unset, .unset, .unset] [(.ref ax)])) _
    refine XS.iloadN X1.here hx rfl (hb hby at_8) rfl ?_
    show Steps p.tables e below (T1.setTop (mkF m 9 #[.val (.int p1), .val (.int p2), .val (.int p3), .val (.int p4), .val (.int p5), .val (.ref ax), .unset, .unset, .unset, .unset, .unset, .unset, .unset, .unset, .unset, .unset] [(.int p2), (.ref ax)])) _
    refine XS.i2dS X1.here hx rfl (hb hby at_9) rfl rfl ?_
    show Steps p.tables e below (T1.setTop (mkF m 10 #[.val (.int p1), .val (.int p2), .val (.int p3), .val (.int p4), .val (.int p5), .val (.ref ax), .unset, .unset, .unset, .unset, .unset, .unset, .unset, .unset, .unset, .unset] [(.double (FP.i2d p2)), (.ref ax)])) _
    refine XS.iloadN X1.here hx rfl (hb hby at_10) rfl ?_
    show Steps p.tables e below (T1.setTop (mkF m 11 #[.val (.int p1), .val (.int p2), .val (.int p3), .val (.int p4), .val (.int p5), .val (.ref ax), .unset, .unset, .unset, .unset, .unset, .unset, .unset, .unset, .unset, .unset] [(.int p3), (.double (FP.i2d p2)), (.ref ax)])) _
    refine XS.i2dS X1.here hx rfl (hb hby at_11) rfl rfl ?_
    show Steps p.tables e below (T1.setTop (mkF m 12 #[.val (.int p1), .val (.int p2), .val (.int p3), .val (.int p4), .val (.int p5), .val (.ref ax), .unset, .unset, .unset, .unset, .unset, .unset, .unset, .unset, .unset, .unset] [(.double (FP.i2d p3)), (.double (FP.i2d p2)), (.ref ax)])) _
    refine st2.trans ?_
    show Steps p.tables e below (T2.setTop (mkF m 15 #[.val (.int p1), .val (.int p2), .val (.int p3), .val (.int p4), .val (.int p5), .val (.ref ax), .unset, .unset, .unset, .unset, .unset, .unset, .unset, .unset, .unset, .unset] [(.int (ti_res (FP.i2d p2) (FP.i2d p3)))])) _
    refine XS.iloadN X2.here hx rfl (hb hby at_15) rfl ?_
    show Steps p.tables e below (T2.setTop (mkF m 16 #[.val (.int p1), .val (.int p2), .val (.int p3), .val (.int p4), .val (.int p5), .val (.ref ax), .unset, .unset, .unset, .unset, .unset, .unset, .unset, .unset, .unset, .unset] [(.int p2), (.int (ti_res (FP.i2d p2) (FP.i2d p3)))])) _
    refine XS.iloadN X2.here hx rfl (hb hby at_16) rfl ?_
    show Steps p.tables e below (T2.setTop (mkF m 17 #[.val (.int p1), .val (.int p2), .val (.int p3), .val (.int p4), .val (.int p5), .val (.ref ax), .unset, .unset, .unset, .unset, .unset, .unset, .unset, .unset, .unset, .unset] [(.int p3), (.int p2), (.int (ti_res (FP.i2d p2) (FP.i2d p3)))])) _
    have sg3 : ∀ t, Steps p.tables e below (T2.setTop (mkF m 25 #[.val (.int p1), .val (.int p2), .val (.int p3), .val (.int p4), .val (.int p5), .val (.ref ax), .unset, .unset, .unset, .unset, .unset, .unset, .unset, .unset, .unset, .unset] [(.int (lb_w0 p1 p2 p3 p4 p5)), (.int (ti_res (FP.i2d p2) (FP.i2d p3)))])) t → Steps p.tables e below (T2.setTop (mkF m 17 #[.val (.int p1), .val (.int p2), .val (.int p3), .val (.int p4), .val (.int p5), .val (.ref ax), .unset, .unset, .unset, .unset, .unset, .unset, .unset, .unset, .unset, .unset] [(.int p3), (.int p2), (.int (ti_res (FP.i2d p2) (FP.i2d p3)))])) t := by
      intro t k
      by_cases c4 : (if_icmp.holds .gt p2 p3) = true
      · refine XS.icmpYes X2.here hx rfl (pc0 := 17) (pc' := 24) rfl (hb hby at_17) rfl c4 (by decide) (by decide) ?_
        show Steps p.tables e below (T2.setTop (mkF m 24 #[.val (.int p1), .val (.int p2), .val (.int p3), .val (.int p4), .val (.int p5), .val (.ref ax), .unset, .unset, .unset, .unset, .unset, .unset, .unset, .unset, .unset, .unset] [(.int (ti_res (FP.i2d p2) (FP.i2d p3)))])) t
        refine XS.iconst X2.here hx rfl (hb hby at_24) ?_
        show Steps p.tables e below (T2.setTop (mkF m 25 #[.val (.int p1), .val (.int p2), .val (.int p3), .val (.int p4), .val (.int p5), .val (.ref ax), .unset, .unset, .unset, .unset, .unset, .unset, .unset, .unset, .unset, .unset] [(.int (0 : Int32)), (.int (ti_res (FP.i2d p2) (FP.i2d p3)))])) t
        have q : (lb_w0 p1 p2 p3 p4 p5) = (0 : Int32) := by simp only [lb_w0, c4, if_true, if_false, Bool.false_eq_true]; try rfl
        rw [q] at k
        clear q
        exact k
      · refine XS.icmpNo X2.here hx rfl (hb hby at_17) rfl (Bool.eq_false_iff.mpr c4) ?_
        show Steps p.tables e below (T2.setTop (mkF m 20 #[.val (.int p1), .val (.int p2), .val (.int p3), .val (.int p4), .val (.int p5), .val (.ref ax), .unset, .unset, .unset, .unset, .unset, .unset, .unset, .unset, .unset, .unset] [(.int (ti_res (FP.i2d p2) (FP.i2d p3)))])) t
        refine XS.iconst X2.here hx rfl (hb hby at_20) ?_
        show Steps p.tables e below (T2.setTop (mkF m 21 #[.val (.int p1), .val (.int p2), .val (.int p3), .val (.int p4), .val (.int p5), .val (.ref ax), .unset, .unset, .unset, .unset, .unset, .unset, .unset, .unset, .unset, .unset] [(.int (1 : Int32)), (.int (ti_res (FP.i2d p2) (FP.i2d p3)))])) t
        refine XS.goto X2.here hx rfl (pc0 := 21) (pc' := 25) rfl (hb hby at_21) (by decide) (by decide) ?_
        show Steps p.tables e below (T2.setTop (mkF m 25 #[.val (.int p1), .val (.int p2), .val (.int p3), .val (.int p4), .val (.int p5), .val (.ref ax), .unset, .unset, .unset, .unset, .unset, .unset, .unset, .unset, .unset, .unset] [(.int (1 : Int32)), (.int (ti_res (FP.i2d p2) (FP.i2d p3)))])) t
        have q : (lb_w0 p1 p2 p3 p4 p5) = (1 : Int32) := by simp only [lb_w0, c4, if_true, if_false, Bool.false_eq_true]; try rfl
        rw [q] at k
        clear q
        exact k
    refine sg3 _ ?_
    show Steps p.tables e below (T2.setTop (mkF m 25 #[.val (.int p1), .val (.int p2), .val (.int p3), .val (.int p4), .val (.int p5), .val (.ref ax), .unset, .unset, .unset, .unset, .unset, .unset, .unset, .unset, .unset, .unset] [(.int (lb_w0 p1 p2 p3 p4 p5)), (.int (ti_res (FP.i2d p2) (FP.i2d p3)))])) _
    refine XS.icmpNo X2.here hx rfl (hb hby at_25) rfl (own_a1 p1 p2 p3 p4 p5) ?_
    show Steps p.tables e below (T2.setTop (mkF m 28 #[.val (.int p1), .val (.int p2), .val (.int p3), .val (.int p4), .val (.int p5), .val (.ref ax), .unset, .unset, .unset, .unset, .unset, .unset, .unset, .unset, .unset, .unset] [])) _
    refine XS.iconst X2.here hx rfl (hb hby at_28) ?_
    show Steps p.tables e below (T2.setTop (mkF m 29 #[.val (.int p1), .val (.int p2), .val (.int p3), .val (.int p4), .val (.int p5), .val (.ref ax), .unset, .unset, .unset, .unset, .unset, .unset, .unset, .unset, .unset, .unset] [(.int (1 : Int32))])) _
    refine XS.goto X2.here hx rfl (pc0 := 29) (pc' := 33) rfl (hb hby at_29) (by decide) (by decide) ?_
    show Steps p.tables e below (T2.setTop (mkF m 33 #[.val (.int p1), .val (.int p2), .val (.int p3), .val (.int p4), .val (.int p5), .val (.ref ax), .unset, .unset, .unset, .unset, .unset, .unset, .unset, .unset, .unset, .unset] [(.int (1 : Int32))])) _
    refine XS.istore X2.here hx rfl (hb hby at_33) rfl (l' := #[.val (.int p1), .val (.int p2), .val (.int p3), .val (.int p4), .val (.int p5), .val (.ref ax), .val (.int (1 : Int32)), .unset, .unset, .unset, .unset, .unset, .unset, .unset, .unset, .unset]) rfl ?_
    show Steps p.tables e below (T2.setTop (mkF m 35 #[.val (.int p1), .val (.int p2), .val (.int p3), .val (.int p4), .val (.int p5), .val (.ref ax), .val (.int (1 : Int32)), .unset, .unset, .unset, .unset, .unset, .unset, .unset, .unset, .unset] [])) _
    refine XS.iloadN X2.here hx rfl (hb hby at_35) rfl ?_
    show Steps p.tables e below (T2.setTop (mkF m 36 #[.val (.int p1), .val (.int p2), .val (.int p3), .val (.int p4), .val (.int p5), .val (.ref ax), .val (.int (1 : Int32)), .unset, .unset, .unset, .unset, .unset, .unset, .unset, .unset, .unset] [(.int p4)])) _
    refine X2.ldcI hx hown (mvT hZ (hw _ (List.mem_of_getElem? (i := 14) rfl))) (g := (mkF m 36 #[.val (.int p1), .val (.int p2), .val (.int p3), .val (.int p4), .val (.int p5), .val (.ref ax), .val (.int (1 : Int32)), .unset, .unset, .unset, .unset, .unset, .unset, .unset, .unset, .unset] [(.int p4)])) rfl (hb hby at_36) ?_
    show Steps p.tables e below (T2.setTop (mkF m 38 #[.val (.int p1), .val (.int p2), .val (.int p3), .val (.int p4), .val (.int p5), .val (.ref ax), .val (.int (1 : Int32)), .unset, .unset, .unset, .unset, .unset, .unset, .unset, .unset, .unset] [(.int (65535 : Int32)), (.int p4)])) _
    refine XS.iand X2.here hx rfl (hb hby at_38) rfl ?_
    show Steps p.tables e below (T2.setTop (mkF m 39 #[.val (.int p1), .val (.int p2), .val (.int p3), .val (.int p4), .val (.int p5), .val (.ref ax), .val (.int (1 : Int32)), .unset, .unset, .unset, .unset, .unset, .unset, .unset, .unset, .unset] [(.int (p4 &&& (65535 : Int32)))])) _
    refine X2.ldcI hx hown (mvT hZ (hw _ (List.mem_of_getElem? (i := 15) rfl))) (g := (mkF m 39 #[.val (.int p1), .val (.int p2), .val (.int p3), .val (.int p4), .val (.int p5), .val (.ref ax), .val (.int (1 : Int32)), .unset, .unset, .unset, .unset, .unset, .unset, .unset, .unset, .unset] [(.int (p4 &&& (65535 : Int32)))])) rfl (hb hby at_39) ?_
    show Steps p.tables e below (T2.setTop (mkF m 41 #[.val (.int p1), .val (.int p2), .val (.int p3), .val (.int p4), .val (.int p5), .val (.ref ax), .val (.int (1 : Int32)), .unset, .unset, .unset, .unset, .unset, .unset, .unset, .unset, .unset] [(.int (32768 : Int32)), (.int (p4 &&& (65535 : Int32)))])) _
    refine XS.isub X2.here hx rfl (hb hby at_41) rfl ?_
    show Steps p.tables e below (T2.setTop (mkF m 42 #[.val (.int p1), .val (.int p2), .val (.int p3), .val (.int p4), .val (.int p5), .val (.ref ax), .val (.int (1 : Int32)), .unset, .unset, .unset, .unset, .unset, .unset, .unset, .unset, .unset] [(.int ((p4 &&& (65535 : Int32)) - (32768 : Int32)))])) _
    refine XS.i2dS X2.here hx rfl (hb hby at_42) rfl rfl ?_
    show Steps p.tables e below (T2.setTop (mkF m 43 #[.val (.int p1), .val (.int p2), .val (.int p3), .val (.int p4), .val (.int p5), .val (.ref ax), .val (.int (1 : Int32)), .unset, .unset, .unset, .unset, .unset, .unset, .unset, .unset, .unset] [(.double (FP.i2d ((p4 &&& (65535 : Int32)) - (32768 : Int32))))])) _
    refine XS.dstore X2.here hx rfl (hb hby at_43) rfl (l' := #[.val (.int p1), .val (.int p2), .val (.int p3), .val (.int p4), .val (.int p5), .val (.ref ax), .val (.int (1 : Int32)), .val (.double (lb_low p1 p2 p3 p4 p5)), .second, .unset, .unset, .unset, .unset, .unset, .unset, .unset]) rfl ?_
    show Steps p.tables e below (T2.setTop (mkF m 45 #[.val (.int p1), .val (.int p2), .val (.int p3), .val (.int p4), .val (.int p5), .val (.ref ax), .val (.int (1 : Int32)), .val (.double (lb_low p1 p2 p3 p4 p5)), .second, .unset, .unset, .unset, .unset, .unset, .unset, .unset] [])) _
    refine XS.iload X2.here hx rfl (hb hby at_45) rfl ?_
    show Steps p.tables e below (T2.setTop (mkF m 47 #[.val (.int p1), .val (.int p2), .val (.int p3), .val (.int p4), .val (.int p5), .val (.ref ax), .val (.int (1 : Int32)), .val (.double (lb_low p1 p2 p3 p4 p5)), .second, .unset, .unset, .unset, .unset, .unset, .unset, .unset] [(.int p5)])) _
    refine XS.iconst X2.here hx rfl (hb hby at_47) ?_
    show Steps p.tables e below (T2.setTop (mkF m 48 #[.val (.int p1), .val (.int p2), .val (.int p3), .val (.int p4), .val (.int p5), .val (.ref ax), .val (.int (1 : Int32)), .val (.double (lb_low p1 p2 p3 p4 p5)), .second, .unset, .unset, .unset, .unset, .unset, .unset, .unset] [(.int (3 : Int32)), (.int p5)])) _
    refine XS.iand X2.here hx rfl (hb hby at_48) rfl ?_
    show Steps p.tables e below (T2.setTop (mkF m 49 #[.val (.int p1), .val (.int p2), .val (.int p3), .val (.int p4), .val (.int p5), .val (.ref ax), .val (.int (1 : Int32)), .val (.double (lb_low p1 p2 p3 p4 p5)), .second, .unset, .unset, .unset, .unset, .unset, .unset, .unset] [(.int (p5 &&& (3 : Int32)))])) _
    refine XS.istore X2.here hx rfl (hb hby at_49) rfl (l' := #[.val (.int p1), .val (.int p2), .val (.int p3), .val (.int p4), .val (.int p5), .val (.ref ax), .val (.int (1 : Int32)), .val (.double (lb_low p1 p2 p3 p4 p5)), .second, .val (.int (lb_which p1 p2 p3 p4 p5)), .unset, .unset, .unset, .unset, .unset, .unset]) rfl ?_
    show Steps p.tables e below (T2.setTop (mkF m 51 #[.val (.int p1), .val (.int p2), .val (.int p3), .val (.int p4), .val (.int p5), .val (.ref ax), .val (.int (1 : Int32)), .val (.double (lb_low p1 p2 p3 p4 p5)), .second, .val (.int (lb_which p1 p2 p3 p4 p5)), .unset, .unset, .unset, .unset, .unset, .unset] [])) _
    refine XS.iload X2.here hx rfl (hb hby at_51) rfl ?_
    show Steps p.tables e below (T2.setTop (mkF m 53 #[.val (.int p1), .val (.int p2), .val (.int p3), .val (.int p4), .val (.int p5), .val (.ref ax), .val (.int (1 : Int32)), .val (.double (lb_low p1 p2 p3 p4 p5)), .second, .val (.int (lb_which p1 p2 p3 p4 p5)), .unset, .unset, .unset, .unset, .unset, .unset] [(.int (lb_which p1 p2 p3 p4 p5))])) _
    have sg5 : ∀ t, Steps p.tables e below (T2.setTop (mkF m 109 #[.val (.int p1), .val (.int p2), .val (.int p3), .val (.int p4), .val (.int p5), .val (.ref ax), .val (.int (1 : Int32)), .val (.double (lb_low p1 p2 p3 p4 p5)), .second, .val (.int (lb_which p1 p2 p3 p4 p5)), .val (.double (lb_off p1 p2 p3 p4 p5)), .second, .val (.int (lb_exp p1 p2 p3 p4 p5)), .unset, .unset, .unset] [])) t → Steps p.tables e below (T2.setTop (mkF m 53 #[.val (.int p1), .val (.int p2), .val (.int p3), .val (.int p4), .val (.int p5), .val (.ref ax), .val (.int (1 : Int32)), .val (.double (lb_low p1 p2 p3 p4 p5)), .second, .val (.int (lb_which p1 p2 p3 p4 p5)), .unset, .unset, .unset, .unset, .unset, .unset] [(.int (lb_which p1 p2 p3 p4 p5))])) t := by
      intro t k
      by_cases c6 : (ifCond.holds .ne (lb_which p1 p2 p3 p4 p5)) = true
      · refine XS.ifYes X2.here hx rfl (pc0 := 53) (pc' := 67) rfl (hb hby at_53) rfl c6 (by decide) (by decide) ?_
        show Steps p.tables e below (T2.setTop (mkF m 67 #[.val (.int p1), .val (.int p2), .val (.int p3), .val (.int p4), .val (.int p5), .val (.ref ax), .val (.int (1 : Int32)), .val (.double (lb_low p1 p2 p3 p4 p5)), .second, .val (.int (lb_which p1 p2 p3 p4 p5)), .unset, .unset, .unset, .unset, .unset, .unset] [])) t
        refine XS.iload X2.here hx rfl (hb hby at_67) rfl ?_
        show Steps p.tables e below (T2.setTop (mkF m 69 #[.val (.int p1), .val (.int p2), .val (.int p3), .val (.int p4), .val (.int p5), .val (.ref ax), .val (.int (1 : Int32)), .val (.double (lb_low p1 p2 p3 p4 p5)), .second, .val (.int (lb_which p1 p2 p3 p4 p5)), .unset, .unset, .unset, .unset, .unset, .unset] [(.int (lb_which p1 p2 p3 p4 p5))])) t
        refine XS.iconst X2.here hx rfl (hb hby at_69) ?_
        show Steps p.tables e below (T2.setTop (mkF m 70 #[.val (.int p1), .val (.int p2), .val (.int p3), .val (.int p4), .val (.int p5), .val (.ref ax), .val (.int (1 : Int32)), .val (.double (lb_low p1 p2 p3 p4 p5)), .second, .val (.int (lb_which p1 p2 p3 p4 p5)), .unset, .unset, .unset, .unset, .unset, .unset] [(.int (1 : Int32)), (.int (lb_which p1 p2 p3 p4 p5))])) t
        by_cases c7 : (if_icmp.holds .ne (lb_which p1 p2 p3 p4 p5) (1 : Int32)) = true
        · refine XS.icmpYes X2.here hx rfl (pc0 := 70) (pc' := 84) rfl (hb hby at_70) rfl c7 (by decide) (by decide) ?_
          show Steps p.tables e below (T2.setTop (mkF m 84 #[.val (.int p1), .val (.int p2), .val (.int p3), .val (.int p4), .val (.int p5), .val (.ref ax), .val (.int (1 : Int32)), .val (.double (lb_low p1 p2 p3 p4 p5)), .second, .val (.int (lb_which p1 p2 p3 p4 p5)), .unset, .unset, .unset, .unset, .unset, .unset] [])) t
          refine XS.iload X2.here hx rfl (hb hby at_84) rfl ?_
          show Steps p.tables e below (T2.setTop (mkF m 86 #[.val (.int p1), .val (.int p2), .val (.int p3), .val (.int p4), .val (.int p5), .val (.ref ax), .val (.int (1 : Int32)), .val (.double (lb_low p1 p2 p3 p4 p5)), .second, .val (.int (lb_which p1 p2 p3 p4 p5)), .unset, .unset, .unset, .unset, .unset, .unset] [(.int (lb_which p1 p2 p3 p4 p5))])) t
          refine XS.iconst X2.here hx rfl (hb hby at_86) ?_
          show Steps p.tables e below (T2.setTop (mkF m 87 #[.val (.int p1), .val (.int p2), .val (.int p3), .val (.int p4), .val (.int p5), .val (.ref ax), .val (.int (1 : Int32)), .val (.double (lb_low p1 p2 p3 p4 p5)), .second, .val (.int (lb_which p1 p2 p3 p4 p5)), .unset, .unset, .unset, .unset, .unset, .unset] [(.int (2 : Int32)), (.int (lb_which p1 p2 p3 p4 p5))])) t
          by_cases c8 : (if_icmp.holds .ne (lb_which p1 p2 p3 p4 p5) (2 : Int32)) = true
          · refine XS.icmpYes X2.here hx rfl (pc0 := 87) (pc' := 101) rfl (hb hby at_87) rfl c8 (by decide) (by decide) ?_
            show Steps p.tables e below (T2.setTop (mkF m 101 #[.val (.int p1), .val (.int p2), .val (.int p3), .val (.int p4), .val (.int p5), .val (.ref ax), .val (.int (1 : Int32)), .val (.double (lb_low p1 p2 p3 p4 p5)), .second, .val (.int (lb_which p1 p2 p3 p4 p5)), .unset, .unset, .unset, .unset, .unset, .unset] [])) t
            refine X2.ldc2DoubleC hx hown (mvT hZ (hw _ (List.mem_of_getElem? (i := 17) rfl))) (g := (mkF m 101 #[.val (.int p1), .val (.int p2), .val (.int p3), .val (.int p4), .val (.int p5), .val (.ref ax), .val (.int (1 : Int32)), .val (.double (lb_low p1 p2 p3 p4 p5)), .second, .val (.int (lb_which p1 p2 p3 p4 p5)), .unset, .unset, .unset, .unset, .unset, .unset] [])) rfl (hb hby at_101) _ ?_
            show Steps p.tables e below (T2.setTop (mkF m 104 #[.val (.int p1), .val (.int p2), .val (.int p3), .val (.int p4), .val (.int p5), .val (.ref ax), .val (.int (1 : Int32)), .val (.double (lb_low p1 p2 p3 p4 p5)), .second, .val (.int (lb_which p1 p2 p3 p4 p5)), .unset, .unset, .unset, .unset, .unset, .unset] [(.double (4487126258331716666 : UInt64))])) t
            refine XS.dstore X2.here hx rfl (hb hby at_104) rfl (l' := #[.val (.int p1), .val (.int p2), .val (.int p3), .val (.int p4), .val (.int p5), .val (.ref ax), .val (.int (1 : Int32)), .val (.double (lb_low p1 p2 p3 p4 p5)), .second, .val (.int (lb_which p1 p2 p3 p4 p5)), .val (.double (4487126258331716666 : UInt64)), .second, .unset, .unset, .unset, .unset]) rfl ?_
            show Steps p.tables e below (T2.setTop (mkF m 106 #[.val (.int p1), .val (.int p2), .val (.int p3), .val (.int p4), .val (.int p5), .val (.ref ax), .val (.int (1 : Int32)), .val (.double (lb_low p1 p2 p3 p4 p5)), .second, .val (.int (lb_which p1 p2 p3 p4 p5)), .val (.double (4487126258331716666 : UInt64)), .second, .unset, .unset, .unset, .unset] [])) t
            refine XS.iconst X2.here hx rfl (hb hby at_106) ?_
            show Steps p.tables e below (T2.setTop (mkF m 107 #[.val (.int p1), .val (.int p2), .val (.int p3), .val (.int p4), .val (.int p5), .val (.ref ax), .val (.int (1 : Int32)), .val (.double (lb_low p1 p2 p3 p4 p5)), .second, .val (.int (lb_which p1 p2 p3 p4 p5)), .val (.double (4487126258331716666 : UInt64)), .second, .unset, .unset, .unset, .unset] [(.int (0 : Int32))])) t
            refine XS.istore X2.here hx rfl (hb hby at_107) rfl (l' := #[.val (.int p1), .val (.int p2), .val (.int p3), .val (.int p4), .val (.int p5), .val (.ref ax), .val (.int (1 : Int32)), .val (.double (lb_low p1 p2 p3 p4 p5)), .second, .val (.int (lb_which p1 p2 p3 p4 p5)), .val (.double (4487126258331716666 : UInt64)), .second, .val (.int (0 : Int32)), .unset, .unset, .unset]) rfl ?_
            show Steps p.tables e below (T2.setTop (mkF m 109 #[.val (.int p1), .val (.int p2), .val (.int p3), .val (.int p4), .val (.int p5), .val (.ref ax), .val (.int (1 : Int32)), .val (.double (lb_low p1 p2 p3 p4 p5)), .second, .val (.int (lb_which p1 p2 p3 p4 p5)), .val (.double (4487126258331716666 : UInt64)), .second, .val (.int (0 : Int32)), .unset, .unset, .unset] [])) t
            have q : (lb_off p1 p2 p3 p4 p5) = (4487126258331716666 : UInt64) := by simp only [lb_off, c6, c7, c8, if_true, if_false, Bool.false_eq_true]; try rfl
            rw [q] at k
            clear q
            have q : (lb_exp p1 p2 p3 p4 p5) = (0 : Int32) := by simp only [lb_exp, c6, c7, c8, if_true, if_false, Bool.false_eq_true]; try rfl
            rw [q] at k
            clear q
            exact k
          · refine XS.icmpNo X2.here hx rfl (hb hby at_87) rfl (Bool.eq_false_iff.mpr c8) ?_
            show Steps p.tables e below (T2.setTop (mkF m 90 #[.val (.int p1), .val (.int p2), .val (.int p3), .val (.int p4), .val (.int p5), .val (.ref ax), .val (.int (1 : Int32)), .val (.double (lb_low p1 p2 p3 p4 p5)), .second, .val (.int (lb_which p1 p2 p3 p4 p5)), .unset, .unset, .unset, .unset, .unset, .unset] [])) t
            refine X2.ldc2DoubleC hx hown (mvT hZ (hw _ (List.mem_of_getElem? (i := 25) rfl))) (g := (mkF m 90 #[.val (.int p1), .val (.int p2), .val (.int p3), .val (.int p4), .val (.int p5), .val (.ref ax), .val (.int (1 : Int32)), .val (.double (lb_low p1 p2 p3 p4 p5)), .second, .val (.int (lb_which p1 p2 p3 p4 p5)), .unset, .unset, .unset, .unset, .unset, .unset] [])) rfl (hb hby at_90) _ ?_
            show Steps p.tables e below (T2.setTop (mkF m 93 #[.val (.int p1), .val (.int p2), .val (.int p3), .val (.int p4), .val (.int p5), .val (.ref ax), .val (.int (1 : Int32)), .val (.double (lb_low p1 p2 p3 p4 p5)), .second, .val (.int (lb_which p1 p2 p3 p4 p5)), .unset, .unset, .unset, .unset, .unset, .unset] [(.double (13691274970857395861 : UInt64))])) t
            refine XS.dstore X2.here hx rfl (hb hby at_93) rfl (l' := #[.val (.int p1), .val (.int p2), .val (.int p3), .val (.int p4), .val (.int p5), .val (.ref ax), .val (.int (1 : Int32)), .val (.double (lb_low p1 p2 p3 p4 p5)), .second, .val (.int (lb_which p1 p2 p3 p4 p5)), .val (.double (13691274970857395861 : UInt64)), .second, .unset, .unset, .unset, .unset]) rfl ?_
            show Steps p.tables e below (T2.setTop (mkF m 95 #[.val (.int p1), .val (.int p2), .val (.int p3), .val (.int p4), .val (.int p5), .val (.ref ax), .val (.int (1 : Int32)), .val (.double (lb_low p1 p2 p3 p4 p5)), .second, .val (.int (lb_which p1 p2 p3 p4 p5)), .val (.double (13691274970857395861 : UInt64)), .second, .unset, .unset, .unset, .unset] [])) t
            refine XS.iconst X2.here hx rfl (hb hby at_95) ?_
            show Steps p.tables e below (T2.setTop (mkF m 96 #[.val (.int p1), .val (.int p2), .val (.int p3), .val (.int p4), .val (.int p5), .val (.ref ax), .val (.int (1 : Int32)), .val (.double (lb_low p1 p2 p3 p4 p5)), .second, .val (.int (lb_which p1 p2 p3 p4 p5)), .val (.double (13691274970857395861 : UInt64)), .second, .unset, .unset, .unset, .unset] [(.int (1 : Int32))])) t
            refine XS.istore X2.here hx rfl (hb hby at_96) rfl (l' := #[.val (.int p1), .val (.int p2), .val (.int p3), .val (.int p4), .val (.int p5), .val (.ref ax), .val (.int (1 : Int32)), .val (.double (lb_low p1 p2 p3 p4 p5)), .second, .val (.int (lb_which p1 p2 p3 p4 p5)), .val (.double (13691274970857395861 : UInt64)), .second, .val (.int (1 : Int32)), .unset, .unset, .unset]) rfl ?_
            show Steps p.tables e below (T2.setTop (mkF m 98 #[.val (.int p1), .val (.int p2), .val (.int p3), .val (.int p4), .val (.int p5), .val (.ref ax), .val (.int (1 : Int32)), .val (.double (lb_low p1 p2 p3 p4 p5)), .second, .val (.int (lb_which p1 p2 p3 p4 p5)), .val (.double (13691274970857395861 : UInt64)), .second, .val (.int (1 : Int32)), .unset, .unset, .unset] [])) t
            refine XS.goto X2.here hx rfl (pc0 := 98) (pc' := 109) rfl (hb hby at_98) (by decide) (by decide) ?_
            show Steps p.tables e below (T2.setTop (mkF m 109 #[.val (.int p1), .val (.int p2), .val (.int p3), .val (.int p4), .val (.int p5), .val (.ref ax), .val (.int (1 : Int32)), .val (.double (lb_low p1 p2 p3 p4 p5)), .second, .val (.int (lb_which p1 p2 p3 p4 p5)), .val (.double (13691274970857395861 : UInt64)), .second, .val (.int (1 : Int32)), .unset, .unset, .unset] [])) t
            have q : (lb_off p1 p2 p3 p4 p5) = (13691274970857395861 : UInt64) := by simp only [lb_off, c6, c7, c8, if_true, if_false, Bool.false_eq_true]; try rfl
            rw [q] at k
            clear q
            have q : (lb_exp p1 p2 p3 p4 p5) = (1 : Int32) := by simp only [lb_exp, c6, c7, c8, if_true, if_false, Bool.false_eq_true]; try rfl
            rw [q] at k
            clear q
            exact k
        · refine XS.icmpNo X2.here hx rfl (hb hby at_70) rfl (Bool.eq_false_iff.mpr c7) ?_
          show Steps p.tables e below (T2.setTop (mkF m 73 #[.val (.int p1), .val (.int p2), .val (.int p3), .val (.int p4), .val (.int p5), .val (.ref ax), .val (.int (1 : Int32)), .val (.double (lb_low p1 p2 p3 p4 p5)), .second, .val (.int (lb_which p1 p2 p3 p4 p5)), .unset, .unset, .unset, .unset, .unset, .unset] [])) t
          refine X2.ldc2DoubleC hx hown (mvT hZ (hw _ (List.mem_of_getElem? (i := 21) rfl))) (g := (mkF m 73 #[.val (.int p1), .val (.int p2), .val (.int p3), .val (.int p4), .val (.int p5), .val (.ref ax), .val (.int (1 : Int32)), .val (.double (lb_low p1 p2 p3 p4 p5)), .second, .val (.int (lb_which p1 p2 p3 p4 p5)), .unset, .unset, .unset, .unset, .unset, .unset] [])) rfl (hb hby at_73) _ ?_
          show Steps p.tables e below (T2.setTop (mkF m 76 #[.val (.int p1), .val (.int p2), .val (.int p3), .val (.int p4), .val (.int p5), .val (.ref ax), .val (.int (1 : Int32)), .val (.double (lb_low p1 p2 p3 p4 p5)), .second, .val (.int (lb_which p1 p2 p3 p4 p5)), .unset, .unset, .unset, .unset, .unset, .unset] [(.double (4476910133257361045 : UInt64))])) t
          refine XS.dstore X2.here hx rfl (hb hby at_76) rfl (l' := #[.val (.int p1), .val (.int p2), .val (.int p3), .val (.int p4), .val (.int p5), .val (.ref ax), .val (.int (1 : Int32)), .val (.double (lb_low p1 p2 p3 p4 p5)), .second, .val (.int (lb_which p1 p2 p3 p4 p5)), .val (.double (4476910133257361045 : UInt64)), .second, .unset, .unset, .unset, .unset]) rfl ?_
          show Steps p.tables e below (T2.setTop (mkF m 78 #[.val (.int p1), .val (.int p2), .val (.int p3), .val (.int p4), .val (.int p5), .val (.ref ax), .val (.int (1 : Int32)), .val (.double (lb_low p1 p2 p3 p4 p5)), .second, .val (.int (lb_which p1 p2 p3 p4 p5)), .val (.double (4476910133257361045 : UInt64)), .second, .unset, .unset, .unset, .unset] [])) t
          refine XS.iconst X2.here hx rfl (hb hby at_78) ?_
          show Steps p.tables e below (T2.setTop (mkF m 79 #[.val (.int p1), .val (.int p2), .val (.int p3), .val (.int p4), .val (.int p5), .val (.ref ax), .val (.int (1 : Int32)), .val (.double (lb_low p1 p2 p3 p4 p5)), .second, .val (.int (lb_which p1 p2 p3 p4 p5)), .val (.double (4476910133257361045 : UInt64)), .second, .unset, .unset, .unset, .unset] [(.int (0 : Int32))])) t
          refine XS.istore X2.here hx rfl (hb hby at_79) rfl (l' := #[.val (.int p1), .val (.int p2), .val (.int p3), .val (.int p4), .val (.int p5), .val (.ref ax), .val (.int (1 : Int32)), .val (.double (lb_low p1 p2 p3 p4 p5)), .second, .val (.int (lb_which p1 p2 p3 p4 p5)), .val (.double (4476910133257361045 : UInt64)), .second, .val (.int (0 : Int32)), .unset, .unset, .unset]) rfl ?_
          show Steps p.tables e below (T2.setTop (mkF m 81 #[.val (.int p1), .val (.int p2), .val (.int p3), .val (.int p4), .val (.int p5), .val (.ref ax), .val (.int (1 : Int32)), .val (.double (lb_low p1 p2 p3 p4 p5)), .second, .val (.int (lb_which p1 p2 p3 p4 p5)), .val (.double (4476910133257361045 : UInt64)), .second, .val (.int (0 : Int32)), .unset, .unset, .unset] [])) t
          refine XS.goto X2.here hx rfl (pc0 := 81) (pc' := 109) rfl (hb hby at_81) (by decide) (by decide) ?_
          show Steps p.tables e below (T2.setTop (mkF m 109 #[.val (.int p1), .val (.int p2), .val (.int p3), .val (.int p4), .val (.int p5), .val (.ref ax), .val (.int (1 : Int32)), .val (.double (lb_low p1 p2 p3 p4 p5)), .second, .val (.int (lb_which p1 p2 p3 p4 p5)), .val (.double (4476910133257361045 : UInt64)), .second, .val (.int (0 : Int32)), .unset, .unset, .unset] [])) t
          have q : (lb_off p1 p2 p3 p4 p5) = (4476910133257361045 : UInt64) := by simp only [lb_off, c6, c7, if_true, if_false, Bool.false_eq_true]; try rfl
          rw [q] at k
          clear q
          have q : (lb_exp p1 p2 p3 p4 p5) = (0 : Int32) := by simp only [lb_exp, c6, c7, if_true, if_false, Bool.false_eq_true]; try rfl
          rw [q] at k
          clear q
          exact k
      · refine XS.ifNo X2.here hx rfl (hb hby at_53) rfl (Bool.eq_false_iff.mpr c6) ?_
        show Steps p.tables e below (T2.setTop (mkF m 56 #[.val (.int p1), .val (.int p2), .val (.int p3), .val (.int p4), .val (.int p5), .val (.ref ax), .val (.int (1 : Int32)), .val (.double (lb_low p1 p2 p3 p4 p5)), .second, .val (.int (lb_which p1 p2 p3 p4 p5)), .unset, .unset, .unset, .unset, .unset, .unset] [])) t
        refine X2.ldc2DoubleC hx hown (mvT hZ (hw _ (List.mem_of_getElem? (i := 16) rfl))) (g := (mkF m 56 #[.val (.int p1), .val (.int p2), .val (.int p3), .val (.int p4), .val (.int p5), .val (.ref ax), .val (.int (1 : Int32)), .val (.double (lb_low p1 p2 p3 p4 p5)), .second, .val (.int (lb_which p1 p2 p3 p4 p5)), .unset, .unset, .unset, .unset, .unset, .unset] [])) rfl (hb hby at_56) _ ?_
        show Steps p.tables e below (T2.setTop (mkF m 59 #[.val (.int p1), .val (.int p2), .val (.int p3), .val (.int p4), .val (.int p5), .val (.ref ax), .val (.int (1 : Int32)), .val (.double (lb_low p1 p2 p3 p4 p5)), .second, .val (.int (lb_which p1 p2 p3 p4 p5)), .unset, .unset, .unset, .unset, .unset, .unset] [(.double (4467902934002620053 : UInt64))])) t
        refine XS.dstore X2.here hx rfl (hb hby at_59) rfl (l' := #[.val (.int p1), .val (.int p2), .val (.int p3), .val (.int p4), .val (.int p5), .val (.ref ax), .val (.int (1 : Int32)), .val (.double (lb_low p1 p2 p3 p4 p5)), .second, .val (.int (lb_which p1 p2 p3 p4 p5)), .val (.double (4467902934002620053 : UInt64)), .second, .unset, .unset, .unset, .unset]) rfl ?_
        show Steps p.tables e below (T2.setTop (mkF m 61 #[.val (.int p1), .val (.int p2), .val (.int p3), .val (.int p4), .val (.int p5), .val (.ref ax), .val (.int (1 : Int32)), .val (.double (lb_low p1 p2 p3 p4 p5)), .second, .val (.int (lb_which p1 p2 p3 p4 p5)), .val (.double (4467902934002620053 : UInt64)), .second, .unset, .unset, .unset, .unset] [])) t
        refine XS.iconst X2.here hx rfl (hb hby at_61) ?_
        show Steps p.tables e below (T2.setTop (mkF m 62 #[.val (.int p1), .val (.int p2), .val (.int p3), .val (.int p4), .val (.int p5), .val (.ref ax), .val (.int (1 : Int32)), .val (.double (lb_low p1 p2 p3 p4 p5)), .second, .val (.int (lb_which p1 p2 p3 p4 p5)), .val (.double (4467902934002620053 : UInt64)), .second, .unset, .unset, .unset, .unset] [(.int (1 : Int32))])) t
        refine XS.istore X2.here hx rfl (hb hby at_62) rfl (l' := #[.val (.int p1), .val (.int p2), .val (.int p3), .val (.int p4), .val (.int p5), .val (.ref ax), .val (.int (1 : Int32)), .val (.double (lb_low p1 p2 p3 p4 p5)), .second, .val (.int (lb_which p1 p2 p3 p4 p5)), .val (.double (4467902934002620053 : UInt64)), .second, .val (.int (1 : Int32)), .unset, .unset, .unset]) rfl ?_
        show Steps p.tables e below (T2.setTop (mkF m 64 #[.val (.int p1), .val (.int p2), .val (.int p3), .val (.int p4), .val (.int p5), .val (.ref ax), .val (.int (1 : Int32)), .val (.double (lb_low p1 p2 p3 p4 p5)), .second, .val (.int (lb_which p1 p2 p3 p4 p5)), .val (.double (4467902934002620053 : UInt64)), .second, .val (.int (1 : Int32)), .unset, .unset, .unset] [])) t
        refine XS.goto X2.here hx rfl (pc0 := 64) (pc' := 109) rfl (hb hby at_64) (by decide) (by decide) ?_
        show Steps p.tables e below (T2.setTop (mkF m 109 #[.val (.int p1), .val (.int p2), .val (.int p3), .val (.int p4), .val (.int p5), .val (.ref ax), .val (.int (1 : Int32)), .val (.double (lb_low p1 p2 p3 p4 p5)), .second, .val (.int (lb_which p1 p2 p3 p4 p5)), .val (.double (4467902934002620053 : UInt64)), .second, .val (.int (1 : Int32)), .unset, .unset, .unset] [])) t
        have q : (lb_off p1 p2 p3 p4 p5) = (4467902934002620053 : UInt64) := by simp only [lb_off, c6, if_true, if_false, Bool.false_eq_true]; try rfl
        rw [q] at k
        clear q
        have q : (lb_exp p1 p2 p3 p4 p5) = (1 : Int32) := by simp only [lb_exp, c6, if_true, if_false, Bool.false_eq_true]; try rfl
        rw [q] at k
        clear q
        exact k
    refine sg5 _ ?_
    show Steps p.tables e below (T2.setTop (mkF m 109 #[.val (.int p1), .val (.int p2), .val (.int p3), .val (.int p4), .val (.int p5), .val (.ref ax), .val (.int (1 : Int32)), .val (.double (lb_low p1 p2 p3 p4 p5)), .second, .val (.int (lb_which p1 p2 p3 p4 p5)), .val (.double (lb_off p1 p2 p3 p4 p5)), .second, .val (.int (lb_exp p1 p2 p3 p4 p5)), .unset, .unset, .unset] [])) _
    refine XS.dload X2.here hx rfl (hb hby at_109) rfl ?_
    show Steps p.tables e below (T2.setTop (mkF m 111 #[.val (.int p1), .val (.int p2), .val (.int p3), .val (.int p4), .val (.int p5), .val (.ref ax), .val (.int (1 : Int32)), .val (.double (lb_low p1 p2 p3 p4 p5)), .second, .val (.int (lb_which p1 p2 p3 p4 p5)), .val (.double (lb_off p1 p2 p3 p4 p5)), .second, .val (.int (lb_exp p1 p2 p3 p4 p5)), .unset, .unset, .unset] [(.double (lb_low p1 p2 p3 p4 p5))])) _
    refine XS.dload X2.here hx rfl (hb hby at_111) rfl ?_
    show Steps p.tables e below (T2.setTop (mkF m 113 #[.val (.int p1), .val (.int p2), .val (.int p3), .val (.int p4), .val (.int p5), .val (.ref ax), .val (.int (1 : Int32)), .val (.double (lb_low p1 p2 p3 p4 p5)), .second, .val (.int (lb_which p1 p2 p3 p4 p5)), .val (.double (lb_off p1 p2 p3 p4 p5)), .second, .val (.int (lb_exp p1 p2 p3 p4 p5)), .unset, .unset, .unset] [(.double (lb_off p1 p2 p3 p4 p5)), (.double (lb_low p1 p2 p3 p4 p5))])) _
    refine XS.daddS X2.here hx rfl (hb hby at_113) rfl (own_rk p1 p2 p3 p4 p5) rfl ?_
    show Steps p.tables e below (T2.setTop (mkF m 114 #[.val (.int p1), .val (.int p2), .val (.int p3), .val (.int p4), .val (.int p5), .val (.ref ax), .val (.int (1 : Int32)), .val (.double (lb_low p1 p2 p3 p4 p5)), .second, .val (.int (lb_which p1 p2 p3 p4 p5)), .val (.double (lb_off p1 p2 p3 p4 p5)), .second, .val (.int (lb_exp p1 p2 p3 p4 p5)), .unset, .unset, .unset] [(.double (FP.dadd (lb_low p1 p2 p3 p4 p5) (lb_off p1 p2 p3 p4 p5)))])) _
    refine XS.dstore X2.here hx rfl (hb hby at_114) rfl (l' := #[.val (.int p1), .val (.int p2), .val (.int p3), .val (.int p4), .val (.int p5), .val (.ref ax), .val (.int (1 : Int32)), .val (.double (lb_low p1 p2 p3 p4 p5)), .second, .val (.int (lb_which p1 p2 p3 p4 p5)), .val (.double (lb_off p1 p2 p3 p4 p5)), .second, .val (.int (lb_exp p1 p2 p3 p4 p5)), .val (.double (lb_rank p1 p2 p3 p4 p5)), .second, .unset]) rfl ?_
    show Steps p.tables e below (T2.setTop (mkF m 116 #[.val (.int p1), .val (.int p2), .val (.int p3), .val (.int p4), .val (.int p5), .val (.ref ax), .val (.int (1 : Int32)), .val (.double (lb_low p1 p2 p3 p4 p5)), .second, .val (.int (lb_which p1 p2 p3 p4 p5)), .val (.double (lb_off p1 p2 p3 p4 p5)), .second, .val (.int (lb_exp p1 p2 p3 p4 p5)), .val (.double (lb_rank p1 p2 p3 p4 p5)), .second, .unset] [])) _
    refine XS.aload X2.here hx rfl (hb hby at_116) rfl rfl ?_
    show Steps p.tables e below (T2.setTop (mkF m 118 #[.val (.int p1), .val (.int p2), .val (.int p3), .val (.int p4), .val (.int p5), .val (.ref ax), .val (.int (1 : Int32)), .val (.double (lb_low p1 p2 p3 p4 p5)), .second, .val (.int (lb_which p1 p2 p3 p4 p5)), .val (.double (lb_off p1 p2 p3 p4 p5)), .second, .val (.int (lb_exp p1 p2 p3 p4 p5)), .val (.double (lb_rank p1 p2 p3 p4 p5)), .second, .unset] [(.ref ax)])) _
    refine XS.dload X2.here hx rfl (hb hby at_118) rfl ?_
    show Steps p.tables e below (T2.setTop (mkF m 120 #[.val (.int p1), .val (.int p2), .val (.int p3), .val (.int p4), .val (.int p5), .val (.ref ax), .val (.int (1 : Int32)), .val (.double (lb_low p1 p2 p3 p4 p5)), .second, .val (.int (lb_which p1 p2 p3 p4 p5)), .val (.double (lb_off p1 p2 p3 p4 p5)), .second, .val (.int (lb_exp p1 p2 p3 p4 p5)), .val (.double (lb_rank p1 p2 p3 p4 p5)), .second, .unset] [(.double (lb_rank p1 p2 p3 p4 p5)), (.ref ax)])) _
    refine XS.dload X2.here hx rfl (hb hby at_120) rfl ?_
    show Steps p.tables e below (T2.setTop (mkF m 122 #[.val (.int p1), .val (.int p2), .val (.int p3), .val (.int p4), .val (.int p5), .val (.ref ax), .val (.int (1 : Int32)), .val (.double (lb_low p1 p2 p3 p4 p5)), .second, .val (.int (lb_which p1 p2 p3 p4 p5)), .val (.double (lb_off p1 p2 p3 p4 p5)), .second, .val (.int (lb_exp p1 p2 p3 p4 p5)), .val (.double (lb_rank p1 p2 p3 p4 p5)), .second, .unset] [(.double (lb_low p1 p2 p3 p4 p5)), (.double (lb_rank p1 p2 p3 p4 p5)), (.ref ax)])) _
    refine st9.trans ?_
    show Steps p.tables e below (T9.setTop (mkF m 125 #[.val (.int p1), .val (.int p2), .val (.int p3), .val (.int p4), .val (.int p5), .val (.ref ax), .val (.int (1 : Int32)), .val (.double (lb_low p1 p2 p3 p4 p5)), .second, .val (.int (lb_which p1 p2 p3 p4 p5)), .val (.double (lb_off p1 p2 p3 p4 p5)), .second, .val (.int (lb_exp p1 p2 p3 p4 p5)), .val (.double (lb_rank p1 p2 p3 p4 p5)), .second, .unset] [(.int (ti_res (lb_rank p1 p2 p3 p4 p5) (lb_low p1 p2 p3 p4 p5)))])) _
    refine XS.iload X9.here hx rfl (hb hby at_125) rfl ?_
    show Steps p.tables e below (T9.setTop (mkF m 127 #[.val (.int p1), .val (.int p2), .val (.int p3), .val (.int p4), .val (.int p5), .val (.ref ax), .val (.int (1 : Int32)), .val (.double (lb_low p1 p2 p3 p4 p5)), .second, .val (.int (lb_which p1 p2 p3 p4 p5)), .val (.double (lb_off p1 p2 p3 p4 p5)), .second, .val (.int (lb_exp p1 p2 p3 p4 p5)), .val (.double (lb_rank p1 p2 p3 p4 p5)), .second, .unset] [(.int (lb_exp p1 p2 p3 p4 p5)), (.int (ti_res (lb_rank p1 p2 p3 p4 p5) (lb_low p1 p2 p3 p4 p5)))])) _
    refine XS.icmpNo X9.here hx rfl (hb hby at_127) rfl (own_a2 p1 p2 p3 p4 p5) ?_
    show Steps p.tables e below (T9.setTop (mkF m 130 #[.val (.int p1), .val (.int p2), .val (.int p3), .val (.int p4), .val (.int p5), .val (.ref ax), .val (.int (1 : Int32)), .val (.double (lb_low p1 p2 p3 p4 p5)), .second, .val (.int (lb_which p1 p2 p3 p4 p5)), .val (.double (lb_off p1 p2 p3 p4 p5)), .second, .val (.int (lb_exp p1 p2 p3 p4 p5)), .val (.double (lb_rank p1 p2 p3 p4 p5)), .second, .unset] [])) _
    refine XS.iconst X9.here hx rfl (hb hby at_130) ?_
    show Steps p.tables e below (T9.setTop (mkF m 131 #[.val (.int p1), .val (.int p2), .val (.int p3), .val (.int p4), .val (.int p5), .val (.ref ax), .val (.int (1 : Int32)), .val (.double (lb_low p1 p2 p3 p4 p5)), .second, .val (.int (lb_which p1 p2 p3 p4 p5)), .val (.double (lb_off p1 p2 p3 p4 p5)), .second, .val (.int (lb_exp p1 p2 p3 p4 p5)), .val (.double (lb_rank p1 p2 p3 p4 p5)), .second, .unset] [(.int (1 : Int32))])) _
    refine XS.goto X9.here hx rfl (pc0 := 131) (pc' := 135) rfl (hb hby at_131) (by decide) (by decide) ?_
    show Steps p.tables e below (T9.setTop (mkF m 135 #[.val (.int p1), .val (.int p2), .val (.int p3), .val (.int p4), .val (.int p5), .val (.ref ax), .val (.int (1 : Int32)), .val (.double (lb_low p1 p2 p3 p4 p5)), .second, .val (.int (lb_which p1 p2 p3 p4 p5)), .val (.double (lb_off p1 p2 p3 p4 p5)), .second, .val (.int (lb_exp p1 p2 p3 p4 p5)), .val (.double (lb_rank p1 p2 p3 p4 p5)), .second, .unset] [(.int (1 : Int32))])) _
    refine XS.istore X9.here hx rfl (hb hby at_135) rfl (l' := #[.val (.int p1), .val (.int p2), .val (.int p3), .val (.int p4), .val (.int p5), .val (.ref ax), .val (.int (1 : Int32)), .val (.double (lb_low p1 p2 p3 p4 p5)), .second, .val (.int (lb_which p1 p2 p3 p4 p5)), .val (.double (lb_off p1 p2 p3 p4 p5)), .second, .val (.int (lb_exp p1 p2 p3 p4 p5)), .val (.double (lb_rank p1 p2 p3 p4 p5)), .second, .val (.int (1 : Int32))]) rfl ?_
    show Steps p.tables e below (T9.setTop (mkF m 137 #[.val (.int p1), .val (.int p2), .val (.int p3), .val (.int p4), .val (.int p5), .val (.ref ax), .val (.int (1 : Int32)), .val (.double (lb_low p1 p2 p3 p4 p5)), .second, .val (.int (lb_which p1 p2 p3 p4 p5)), .val (.double (lb_off p1 p2 p3 p4 p5)), .second, .val (.int (lb_exp p1 p2 p3 p4 p5)), .val (.double (lb_rank p1 p2 p3 p4 p5)), .second, .val (.int (1 : Int32))] [])) _
    refine XS.iload X9.here hx rfl (hb hby at_137) rfl ?_
    show Steps p.tables e below (T9.setTop (mkF m 139 #[.val (.int p1), .val (.int p2), .val (.int p3), .val (.int p4), .val (.int p5), .val (.ref ax), .val (.int (1 : Int32)), .val (.double (lb_low p1 p2 p3 p4 p5)), .second, .val (.int (lb_which p1 p2 p3 p4 p5)), .val (.double (lb_off p1 p2 p3 p4 p5)), .second, .val (.int (lb_exp p1 p2 p3 p4 p5)), .val (.double (lb_rank p1 p2 p3 p4 p5)), .second, .val (.int (1 : Int32))] [(.int (1 : Int32))])) _
    refine XS.ifNo X9.here hx rfl (hb hby at_139) rfl (by decide) ?_
    show Steps p.tables e below (T9.setTop (mkF m 142 #[.val (.int p1), .val (.int p2), .val (.int p3), .val (.int p4), .val (.int p5), .val (.ref ax), .val (.int (1 : Int32)), .val (.double (lb_low p1 p2 p3 p4 p5)), .second, .val (.int (lb_which p1 p2 p3 p4 p5)), .val (.double (lb_off p1 p2 p3 p4 p5)), .second, .val (.int (lb_exp p1 p2 p3 p4 p5)), .val (.double (lb_rank p1 p2 p3 p4 p5)), .second, .val (.int (1 : Int32))] [])) _
    refine XS.iload X9.here hx rfl (hb hby at_142) rfl ?_
    show Steps p.tables e below (T9.setTop (mkF m 144 #[.val (.int p1), .val (.int p2), .val (.int p3), .val (.int p4), .val (.int p5), .val (.ref ax), .val (.int (1 : Int32)), .val (.double (lb_low p1 p2 p3 p4 p5)), .second, .val (.int (lb_which p1 p2 p3 p4 p5)), .val (.double (lb_off p1 p2 p3 p4 p5)), .second, .val (.int (lb_exp p1 p2 p3 p4 p5)), .val (.double (lb_rank p1 p2 p3 p4 p5)), .second, .val (.int (1 : Int32))] [(.int (1 : Int32))])) _
    refine XS.ifNo X9.here hx rfl (hb hby at_144) rfl (by decide) ?_
    show Steps p.tables e below (T9.setTop (mkF m 147 #[.val (.int p1), .val (.int p2), .val (.int p3), .val (.int p4), .val (.int p5), .val (.ref ax), .val (.int (1 : Int32)), .val (.double (lb_low p1 p2 p3 p4 p5)), .second, .val (.int (lb_which p1 p2 p3 p4 p5)), .val (.double (lb_off p1 p2 p3 p4 p5)), .second, .val (.int (lb_exp p1 p2 p3 p4 p5)), .val (.double (lb_rank p1 p2 p3 p4 p5)), .second, .val (.int (1 : Int32))] [])) _
    refine XS.iconst X9.here hx rfl (hb hby at_147) ?_
    show Steps p.tables e below (T9.setTop (mkF m 148 #[.val (.int p1), .val (.int p2), .val (.int p3), .val (.int p4), .val (.int p5), .val (.ref ax), .val (.int (1 : Int32)), .val (.double (lb_low p1 p2 p3 p4 p5)), .second, .val (.int (lb_which p1 p2 p3 p4 p5)), .val (.double (lb_off p1 p2 p3 p4 p5)), .second, .val (.int (lb_exp p1 p2 p3 p4 p5)), .val (.double (lb_rank p1 p2 p3 p4 p5)), .second, .val (.int (1 : Int32))] [(.int (1 : Int32))])) _
    refine XS.goto X9.here hx rfl (pc0 := 148) (pc' := 152) rfl (hb hby at_148) (by decide) (by decide) ?_
    show Steps p.tables e below (T9.setTop (mkF m 152 #[.val (.int p1), .val (.int p2), .val (.int p3), .val (.int p4), .val (.int p5), .val (.ref ax), .val (.int (1 : Int32)), .val (.double (lb_low p1 p2 p3 p4 p5)), .second, .val (.int (lb_which p1 p2 p3 p4 p5)), .val (.double (lb_off p1 p2 p3 p4 p5)), .second, .val (.int (lb_exp p1 p2 p3 p4 p5)), .val (.double (lb_rank p1 p2 p3 p4 p5)), .second, .val (.int (1 : Int32))] [(.int (1 : Int32))])) _
    exact retN X9 hx (t := .boolean) Bd.returns (by simp) (hb hby at_152) hr
  · show Q_lb Z p1 p2 p3 p4 p5 ax h0 n0 _ T9.heap _
    exact ⟨rfl, Nn9⟩
theorem ef_lc (m : MethodId) (p1 : Int32) (p2 : Int32) (p3 : Int32) (p4 : Int32) (p5 : Int32) : entryFrame m #[(.int p1), (.int p2), (.int p3), (.int p4), (.int p5)] maxLocals = (mkF m 0 #[.val (.int p1), .val (.int p2), .val (.int p3), .val (.int p4), .val (.int p5), .unset, .unset, .unset, .unset, .unset, .unset, .unset, .unset, .unset, .unset, .unset] []) := by first | (simp [entryFrame, mkF, argsToLocals, Value.category, maxLocals]; done) | rfl
def Q_lc (Z : State) (p1 : Int32) (p2 : Int32) (p3 : Int32) (p4 : Int32) (p5 : Int32) (ax : Addr) (h0 : Heap) (n0 : Nat) (v : Option Value) (h : Heap) (L : List Loc) : Prop := v = some (.int 1) ∧ Fr n0 L
set_option maxRecDepth 65536 in
set_option maxHeartbeats 40000000 in
theorem rm_lc (l : Launch) (Z : State) (a0 : Array Value) (hw : ∀ d ∈ tables_1, d.before a0 Z = true) (ws : List Jvm.Cond) (p1 : Int32) (p2 : Int32) (p3 : Int32) (p4 : Int32) (p5 : Int32) (ax : Addr) (h0 : Heap) (n0 : Nat) (Z0 : n0 ≤ h0.size) (k0_ : Exa Z h0 ax "com/example/muster/muster/auction/Mechanism$3") (hS : Sta Z h0 "com/example/muster/muster/auction/Mechanism" "ABILITY_MAX" "Lcom/example/muster/muster/auction/Mechanism;" (.ref ax)) (c1 : ifCond.holds .ne (pk2_s p1) = true) (c2 : if_icmp.holds .ne (pk2_s p1) (1 : Int32) = true)  :
    MetFree l x (head1 (Jvm.Cond.code x code maxLocals ret :: ws) room_1) (fun a U => a = #[(.int p1), (.int p2), (.int p3), (.int p4), (.int p5)] ∧ Z.Warmed39 U.vm ∧ U.heap = h0) (fun _ _ _ _ _ => True) (fun _ U o U' => ∃ v L, o = .returned v ∧ Q_lc Z p1 p2 p3 p4 p5 ax h0 n0 v U'.heap L ∧ FrameEnd U o U' L 0 0) := by
  refine MetFree.of_bodySF (plainFor_of_name pn_0) hisR ?_
  intro p e s m args below meth c s₁ Bd hml0 hP hK
  obtain ⟨rfl, hZ, hh⟩ := hP
  have hx := Bd.exec
  have hby := Bd.bytes
  have hml : c.maxLocals = 16 := hml0
  have hown : s.vm.findClass "com/example/muster/muster/auction/MechanismTiesPinLaw" = some m.cls := findClass_of_methodNamed Bd.named
  have hnm := (name_of_methodNamed Bd.named Bd.method).1
  have X0 : Stand p l e room_1 s m #[(.int p1), (.int p2), (.int p3), (.int p4), (.int p5)] below meth c s₁ [] 0 0 := Stand.of_body Bd
  have e0 : s₁.heap = h0 := by rw [← hh, Bd.state]; rfl
  have N0 := Fr.nil n0
  have pre0 : ∀ t, Steps p.tables e below (s₁.setTop (mkF m 0 #[.val (.int p1), .val (.int p2), .val (.int p3), .val (.int p4), .val (.int p5), .unset, .unset, .unset, .unset, .unset, .unset, .unset, .unset, .unset, .unset, .unset] [])) t → Steps p.tables e below (s₁.setTop (entryFrame m #[(.int p1), (.int p2), (.int p3), (.int p4), (.int p5)] maxLocals)) t := fun t k => castTop (ef_lc m p1 p2 p3 p4 p5) k
  obtain ⟨_, _, ⟨T1, L1, k1, n1⟩, -, X1, ⟨Lc1, hQ1, l1, y1, z1⟩, st1⟩ := Jvm.LawKit.callS X0 hx (y := (⟨"com/example/muster/muster/auction/MechanismTiesPinLaw", "pick", "(I)Lcom/example/muster/muster/auction/Mechanism;"⟩ : MethodName)) hown (mvT hZ (hw _ (List.mem_of_getElem? (i := 0) rfl))) (mvT hZ (hw _ (List.mem_of_getElem? (i := 1) rfl))) (mvT hZ (hw _ (List.mem_of_getElem? (i := 2) rfl))) (mvT hZ (hw _ (List.mem_of_getElem? (i := 3) rfl))) (by decide) (backOf (W := 0) (rm_pk2 l Z a0 hw [] p1 ax (h0) n0 Z0  hS c1 c2) hZ (hw _ (List.mem_of_getElem? (i := 3) rfl)) (hw _ (List.mem_of_getElem? (i := 2) rfl)) (by decide) (by decide)) (g := (mkF m 1 #[.val (.int p1), .val (.int p2), .val (.int p3), .val (.int p4), .val (.int p5), .unset, .unset, .unset, .unset, .unset, .unset, .unset, .unset, .unset, .unset, .unset] [(.int p1)])) rfl (by rw [hml]; rfl) (argsL := [(.int p1)]) (rest := []) (lenOf pd_0 rfl) rfl (by show 2 * 0 + _ ≤ _; exact Nat.le_of_eq rfl) (hb hby at_1) (fun _ _ => ⟨rfl, e0, (by decide : 0 + 0 ≤ _), (by decide : 0 + 0 ≤ _)⟩)
  dsimp only [Pt.U, Pt.locs, Pt.cells, Pt.slots] at X1 l1 y1 z1 st1 hQ1
  subst l1 y1 z1
  obtain ⟨rfl, N1, e1⟩ := hQ1
  have Nn1 := Fr.app N0 N1
  obtain ⟨cq2, kq2, qa2, qb2, qc2⟩ := isOf hZ e1 k0_
  obtain ⟨_, _, ⟨T2, L2, k2, n2⟩, -, X2, ⟨Lc2, hQ2, l2, y2, z2⟩, st2⟩ := X1.virtualBack hx (y := (⟨"com/example/muster/muster/auction/Mechanism", "ties", "(DD)Z"⟩ : MethodName)) (z := (⟨"com/example/muster/muster/auction/Mechanism", "ties", "(DD)Z"⟩ : MethodName)) hown (mvT hZ (hw _ (List.mem_of_getElem? (i := 8) rfl))) (mvT hZ (hw _ (List.mem_of_getElem? (i := 9) rfl))) (notFace_of_selects (args := #[]) (mvT hZ (hw _ (List.mem_of_getElem? (i := 20) rfl)))) (mvT hZ (hw _ (List.mem_of_getElem? (i := 20) rfl))) (mvT hZ (hw _ (List.mem_of_getElem? (i := 10) rfl))) (by decide) (backOf (W := 0) (rm_ti l Z a0 hw [] ax (FP.i2d p2) (FP.i2d p3)  (h0) n0 Z0  (own_upn p3)) hZ (hw _ (List.mem_of_getElem? (i := 12) rfl)) (hw _ (List.mem_of_getElem? (i := 6) rfl)) (by decide) (by decide)) qa2 qc2 (g := (mkF m 12 #[.val (.int p1), .val (.int p2), .val (.int p3), .val (.int p4), .val (.int p5), .val (.ref ax), .unset, .unset, .unset, .unset, .unset, .unset, .unset, .unset, .unset, .unset] [(.double (FP.i2d p3)), (.double (FP.i2d p2)), (.ref ax)])) rfl (by rw [hml]; rfl) (Steps.refl _) (argsL := [(.double (FP.i2d p2)), (.double (FP.i2d p3))]) (rest := []) (lenOf pd_1 rfl) rfl (by show 2 * 0 + _ ≤ _; exact Nat.le_of_eq rfl) (hb hby at_12) (fun _ _ => ⟨rfl, e1, (by decide : 0 + 0 ≤ _), (by decide : 0 + 0 ≤ _)⟩)
  dsimp only [Pt.U, Pt.locs, Pt.cells, Pt.slots] at X2 l2 y2 z2 st2 hQ2
  subst l2 y2 z2
  obtain ⟨rfl, N2, e2⟩ := hQ2
  have Nn2 := Fr.app Nn1 N2
  obtain ⟨cq9, kq9, qa9, qb9, qc9⟩ := isOf hZ e2 k0_
  obtain ⟨_, _, ⟨T9, L9, k9, n9⟩, -, X9, ⟨Lc9, hQ9, l9, y9, z9⟩, st9⟩ := X2.virtualBack hx (y := (⟨"com/example/muster/muster/auction/Mechanism", "ties", "(DD)Z"⟩ : MethodName)) (z := (⟨"com/example/muster/muster/auction/Mechanism", "ties", "(DD)Z"⟩ : MethodName)) hown (mvT hZ (hw _ (List.mem_of_getElem? (i := 8) rfl))) (mvT hZ (hw _ (List.mem_of_getElem? (i := 9) rfl))) (notFace_of_selects (args := #[]) (mvT hZ (hw _ (List.mem_of_getElem? (i := 20) rfl)))) (mvT hZ (hw _ (List.mem_of_getElem? (i := 20) rfl))) (mvT hZ (hw _ (List.mem_of_getElem? (i := 10) rfl))) (by decide) (backOf (W := 0) (rm_ti l Z a0 hw [] ax (lc_rank p1 p2 p3 p4 p5) (lc_low p1 p2 p3 p4 p5)  (h0) n0 Z0  (own_tl p1 p2 p3 p4 p5)) hZ (hw _ (List.mem_of_getElem? (i := 12) rfl)) (hw _ (List.mem_of_getElem? (i := 6) rfl)) (by decide) (by decide)) qa9 qc9 (g := (mkF m 122 #[.val (.int p1), .val (.int p2), .val (.int p3), .val (.int p4), .val (.int p5), .val (.ref ax), .val (.int (1 : Int32)), .val (.double (lc_low p1 p2 p3 p4 p5)), .second, .val (.int (lc_which p1 p2 p3 p4 p5)), .val (.double (lc_off p1 p2 p3 p4 p5)), .second, .val (.int (lc_exp p1 p2 p3 p4 p5)), .val (.double (lc_rank p1 p2 p3 p4 p5)), .second, .unset] [(.double (lc_low p1 p2 p3 p4 p5)), (.double (lc_rank p1 p2 p3 p4 p5)), (.ref ax)])) rfl (by rw [hml]; rfl) (Steps.refl _) (argsL := [(.double (lc_rank p1 p2 p3 p4 p5)), (.double (lc_low p1 p2 p3 p4 p5))]) (rest := []) (lenOf pd_1 rfl) rfl (by show 2 * 0 + _ ≤ _; exact Nat.le_of_eq rfl) (hb hby at_122) (fun _ _ => ⟨rfl, e2, (by decide : 0 + 0 ≤ _), (by decide : 0 + 0 ≤ _)⟩)
  dsimp only [Pt.U, Pt.locs, Pt.cells, Pt.slots] at X9 l9 y9 z9 st9 hQ9
  subst l9 y9 z9
  obtain ⟨rfl, N9, e9⟩ := hQ9
  have Nn9 := Fr.app Nn2 N9
  obtain ⟨fs, hr, hrun, hended, hW, hsame⟩ := X9.leave (v := some (.int (1 : Int32))) (fun h => by rw [Bd.returns] at h; cases h)
  refine ⟨_, _, pre0 _ ?_, hrun, hended, _, _, rfl, ?_, ⟨_, rfl⟩, hW, hsame.mono (Nat.le_of_ble_eq_true rfl) (Nat.le_of_ble_eq_true rfl)⟩
  · show Steps p.tables e below (s₁.setTop (mkF m 0 #[.val (.int p1), .val (.int p2), .val (.int p3), .val (.int p4), .val (.int p5), .unset, .unset, .unset, .unset, .unset, .unset, .unset, .unset, .unset, .unset, .unset] [])) _
    refine XS.iloadN X0.here hx rfl (hb hby at_0) rfl ?_
    show Steps p.tables e below (s₁.setTop (mkF m 1 #[.val (.int p1), .val (.int p2), .val (.int p3), .val (.int p4), .val (.int p5), .unset, .unset, .unset, .unset, .unset, .unset, .unset, .unset, .unset, .unset, .unset] [(.int p1)])) _
    refine st1 _ ?_
    show Steps p.tables e below (T1.setTop (mkF m 4 #[.val (.int p1), .val (.int p2), .val (.int p3), .val (.int p4), .val (.int p5), .unset, .unset, .unset, .unset, .unset, .unset, .unset, .unset, .unset, .unset, .unset] [(.ref ax)])) _
    refine XS.astore X1.here hx rfl (hb hby at_4) rfl rfl (l' := #[.val (.int p1), .val (.int p2), .val (.int p3), .val (.int p4), .val (.int p5), .val (.ref ax), .unset, .unset, .unset, .unset, .unset, .unset, .unset, .unset, .unset, .unset]) rfl ?_
    show Steps p.tables e below (T1.setTop (mkF m 6 #[.val (.int p1), .val (.int p2), .val (.int p3), .val (.int p4), .val (.int p5), .val (.ref ax), .unset, .unset, .unset, .unset, .unset, .unset, .unset, .unset, .unset, .unset] [])) _
    refine XS.aload X1.here hx rfl (hb hby at_6) rfl rfl ?_
    show Steps p.tables e below (T1.setTop (mkF m 8 #[.val (.int p1), .val (.int p2), .val (.int p3), .val (.int p4), .val (.int p5), .val (.ref ax), .unset, .unset, .unset, .unset, .unset, .unset, .unset, .unset, .unset, .unset] [(.ref ax)])) _
    refine XS.iloadN X1.here hx rfl (hb hby at_8) rfl ?_
    show Steps p.tables e below (T1.setTop (mkF m 9 #[.val (.int p1), .val (.int p2), .val (.int p3), .val (.int p4), .val (.int p5), .val (.ref ax), .unset, .unset, .unset, .unset, .unset, .unset, .unset, .unset, .unset, .unset] [(.int p2), (.ref ax)])) _
    refine XS.i2dS X1.here hx rfl (hb hby at_9) rfl rfl ?_
    show Steps p.tables e below (T1.setTop (mkF m 10 #[.val (.int p1), .val (.int p2), .val (.int p3), .val (.int p4), .val (.int p5), .val (.ref ax), .unset, .unset, .unset, .unset, .unset, .unset, .unset, .unset, .unset, .unset] [(.double (FP.i2d p2)), (.ref ax)])) _
    refine XS.iloadN X1.here hx rfl (hb hby at_10) rfl ?_
    show Steps p.tables e below (T1.setTop (mkF m 11 #[.val (.int p1), .val (.int p2), .val (.int p3), .val (.int p4), .val (.int p5), .val (.ref ax), .unset, .unset, .unset, .unset, .unset, .unset, .unset, .unset, .unset, .unset] [(.int p3), (.double (FP.i2d p2)), (.ref ax)])) _
    refine XS.i2dS X1.here hx rfl (hb hby at_11) rfl rfl ?_
    show Steps p.tables e below (T1.setTop (mkF m 12 #[.val (.int p1), .val (.int p2), .val (.int p3), .val (.int p4), .val (.int p5), .val (.ref ax), .unset, .unset, .unset, .unset, .unset, .unset, .unset, .unset, .unset, .unset] [(.double (FP.i2d p3)), (.double (FP.i2d p2)), (.ref ax)])) _
    refine st2.trans ?_
    show Steps p.tables e below (T2.setTop (mkF m 15 #[.val (.int p1), .val (.int p2), .val (.int p3), .val (.int p4), .val (.int p5), .val (.ref ax), .unset, .unset, .unset, .unset, .unset, .unset, .unset, .unset, .unset, .unset] [(.int (ti_res (FP.i2d p2) (FP.i2d p3)))])) _
    refine XS.iloadN X2.here hx rfl (hb hby at_15) rfl ?_
    show Steps p.tables e below (T2.setTop (mkF m 16 #[.val (.int p1), .val (.int p2), .val (.int p3), .val (.int p4), .val (.int p5), .val (.ref ax), .unset, .unset, .unset, .unset, .unset, .unset, .unset, .unset, .unset, .unset] [(.int p2), (.int (ti_res (FP.i2d p2) (FP.i2d p3)))])) _
    refine XS.iloadN X2.here hx rfl (hb hby at_16) rfl ?_
    show Steps p.tables e below (T2.setTop (mkF m 17 #[.val (.int p1), .val (.int p2), .val (.int p3), .val (.int p4), .val (.int p5), .val (.ref ax), .unset, .unset, .unset, .unset, .unset, .unset, .unset, .unset, .unset, .unset] [(.int p3), (.int p2), (.int (ti_res (FP.i2d p2) (FP.i2d p3)))])) _
    have sg3 : ∀ t, Steps p.tables e below (T2.setTop (mkF m 25 #[.val (.int p1), .val (.int p2), .val (.int p3), .val (.int p4), .val (.int p5), .val (.ref ax), .unset, .unset, .unset, .unset, .unset, .unset, .unset, .unset, .unset, .unset] [(.int (lc_w0 p1 p2 p3 p4 p5)), (.int (ti_res (FP.i2d p2) (FP.i2d p3)))])) t → Steps p.tables e below (T2.setTop (mkF m 17 #[.val (.int p1), .val (.int p2), .val (.int p3), .val (.int p4), .val (.int p5), .val (.ref ax), .unset, .unset, .unset, .unset, .unset, .unset, .unset, .unset, .unset, .unset] [(.int p3), (.int p2), (.int (ti_res (FP.i2d p2) (FP.i2d p3)))])) t := by
      intro t k
      by_cases c4 : (if_icmp.holds .gt p2 p3) = true
      · refine XS.icmpYes X2.here hx rfl (pc0 := 17) (pc' := 24) rfl (hb hby at_17) rfl c4 (by decide) (by decide) ?_
        show Steps p.tables e below (T2.setTop (mkF m 24 #[.val (.int p1), .val (.int p2), .val (.int p3), .val (.int p4), .val (.int p5), .val (.ref ax), .unset, .unset, .unset, .unset, .unset, .unset, .unset, .unset, .unset, .unset] [(.int (ti_res (FP.i2d p2) (FP.i2d p3)))])) t
        refine XS.iconst X2.here hx rfl (hb hby at_24) ?_
        show Steps p.tables e below (T2.setTop (mkF m 25 #[.val (.int p1), .val (.int p2), .val (.int p3), .val (.int p4), .val (.int p5), .val (.ref ax), .unset, .unset, .unset, .unset, .unset, .unset, .unset, .unset, .unset, .unset] [(.int (0 : Int32)), (.int (ti_res (FP.i2d p2) (FP.i2d p3)))])) t
        have q : (lc_w0 p1 p2 p3 p4 p5) = (0 : Int32) := by simp only [lc_w0, c4, if_true, if_false, Bool.false_eq_true]; try rfl
        rw [q] at k
        clear q
        exact k
      · refine XS.icmpNo X2.here hx rfl (hb hby at_17) rfl (Bool.eq_false_iff.mpr c4) ?_
        show Steps p.tables e below (T2.setTop (mkF m 20 #[.val (.int p1), .val (.int p2), .val (.int p3), .val (.int p4), .val (.int p5), .val (.ref ax), .unset, .unset, .unset, .unset, .unset, .unset, .unset, .unset, .unset, .unset] [(.int (ti_res (FP.i2d p2) (FP.i2d p3)))])) t
        refine XS.iconst X2.here hx rfl (hb hby at_20) ?_
        show Steps p.tables e below (T2.setTop (mkF m 21 #[.val (.int p1), .val (.int p2), .val (.int p3), .val (.int p4), .val (.int p5), .val (.ref ax), .unset, .unset, .unset, .unset, .unset, .unset, .unset, .unset, .unset, .unset] [(.int (1 : Int32)), (.int (ti_res (FP.i2d p2) (FP.i2d p3)))])) t
        refine XS.goto X2.here hx rfl (pc0 := 21) (pc' := 25) rfl (hb hby at_21) (by decide) (by decide) ?_
        show Steps p.tables e below (T2.setTop (mkF m 25 #[.val (.int p1), .val (.int p2), .val (.int p3), .val (.int p4), .val (.int p5), .val (.ref ax), .unset, .unset, .unset, .unset, .unset, .unset, .unset, .unset, .unset, .unset] [(.int (1 : Int32)), (.int (ti_res (FP.i2d p2) (FP.i2d p3)))])) t
        have q : (lc_w0 p1 p2 p3 p4 p5) = (1 : Int32) := by simp only [lc_w0, c4, if_true, if_false, Bool.false_eq_true]; try rfl
        rw [q] at k
        clear q
        exact k
    refine sg3 _ ?_
    show Steps p.tables e below (T2.setTop (mkF m 25 #[.val (.int p1), .val (.int p2), .val (.int p3), .val (.int p4), .val (.int p5), .val (.ref ax), .unset, .unset, .unset, .unset, .unset, .unset, .unset, .unset, .unset, .unset] [(.int (lc_w0 p1 p2 p3 p4 p5)), (.int (ti_res (FP.i2d p2) (FP.i2d p3)))])) _
    refine XS.icmpNo X2.here hx rfl (hb hby at_25) rfl (own_a1 p1 p2 p3 p4 p5) ?_
    show Steps p.tables e below (T2.setTop (mkF m 28 #[.val (.int p1), .val (.int p2), .val (.int p3), .val (.int p4), .val (.int p5), .val (.ref ax), .unset, .unset, .unset, .unset, .unset, .unset, .unset, .unset, .unset, .unset] [])) _
    refine XS.iconst X2.here hx rfl (hb hby at_28) ?_
    show Steps p.tables e below (T2.setTop (mkF m 29 #[.val (.int p1), .val (.int p2), .val (.int p3), .val (.int p4), .val (.int p5), .val (.ref ax), .unset, .unset, .unset, .unset, .unset, .unset, .unset, .unset, .unset, .unset] [(.int (1 : Int32))])) _
    refine XS.goto X2.here hx rfl (pc0 := 29) (pc' := 33) rfl (hb hby at_29) (by decide) (by decide) ?_
    show Steps p.tables e below (T2.setTop (mkF m 33 #[.val (.int p1), .val (.int p2), .val (.int p3), .val (.int p4), .val (.int p5), .val (.ref ax), .unset, .unset, .unset, .unset, .unset, .unset, .unset, .unset, .unset, .unset] [(.int (1 : Int32))])) _
    refine XS.istore X2.here hx rfl (hb hby at_33) rfl (l' := #[.val (.int p1), .val (.int p2), .val (.int p3), .val (.int p4), .val (.int p5), .val (.ref ax), .val (.int (1 : Int32)), .unset, .unset, .unset, .unset, .unset, .unset, .unset, .unset, .unset]) rfl ?_
    show Steps p.tables e below (T2.setTop (mkF m 35 #[.val (.int p1), .val (.int p2), .val (.int p3), .val (.int p4), .val (.int p5), .val (.ref ax), .val (.int (1 : Int32)), .unset, .unset, .unset, .unset, .unset, .unset, .unset, .unset, .unset] [])) _
    refine XS.iloadN X2.here hx rfl (hb hby at_35) rfl ?_
    show Steps p.tables e below (T2.setTop (mkF m 36 #[.val (.int p1), .val (.int p2), .val (.int p3), .val (.int p4), .val (.int p5), .val (.ref ax), .val (.int (1 : Int32)), .unset, .unset, .unset, .unset, .unset, .unset, .unset, .unset, .unset] [(.int p4)])) _
    refine X2.ldcI hx hown (mvT hZ (hw _ (List.mem_of_getElem? (i := 14) rfl))) (g := (mkF m 36 #[.val (.int p1), .val (.int p2), .val (.int p3), .val (.int p4), .val (.int p5), .val (.ref ax), .val (.int (1 : Int32)), .unset, .unset, .unset, .unset, .unset, .unset, .unset, .unset, .unset] [(.int p4)])) rfl (hb hby at_36) ?_
    show Steps p.tables e below (T2.setTop (mkF m 38 #[.val (.int p1), .val (.int p2), .val (.int p3), .val (.int p4), .val (.int p5), .val (.ref ax), .val (.int (1 : Int32)), .unset, .unset, .unset, .unset, .unset, .unset, .unset, .unset, .unset] [(.int (65535 : Int32)), (.int p4)])) _
    refine XS.iand X2.here hx rfl (hb hby at_38) rfl ?_
    show Steps p.tables e below (T2.setTop (mkF m 39 #[.val (.int p1), .val (.int p2), .val (.int p3), .val (.int p4), .val (.int p5), .val (.ref ax), .val (.int (1 : Int32)), .unset, .unset, .unset, .unset, .unset, .unset, .unset, .unset, .unset] [(.int (p4 &&& (65535 : Int32)))])) _
    refine X2.ldcI hx hown (mvT hZ (hw _ (List.mem_of_getElem? (i := 15) rfl))) (g := (mkF m 39 #[.val (.int p1), .val (.int p2), .val (.int p3), .val (.int p4), .val (.int p5), .val (.ref ax), .val (.int (1 : Int32)), .unset, .unset, .unset, .unset, .unset, .unset, .unset, .unset, .unset] [(.int (p4 &&& (65535 : Int32)))])) rfl (hb hby at_39) ?_
    show Steps p.tables e below (T2.setTop (mkF m 41 #[.val (.int p1), .val (.int p2), .val (.int p3), .val (.int p4), .val (.int p5), .val (.ref ax), .val (.int (1 : Int32)), .unset, .unset, .unset, .unset, .unset, .unset, .unset, .unset, .unset] [(.int (32768 : Int32)), (.int (p4 &&& (65535 : Int32)))])) _
    refine XS.isub X2.here hx rfl (hb hby at_41) rfl ?_
    show Steps p.tables e below (T2.setTop (mkF m 42 #[.val (.int p1), .val (.int p2), .val (.int p3), .val (.int p4), .val (.int p5), .val (.ref ax), .val (.int (1 : Int32)), .unset, .unset, .unset, .unset, .unset, .unset, .unset, .unset, .unset] [(.int ((p4 &&& (65535 : Int32)) - (32768 : Int32)))])) _
    refine XS.i2dS X2.here hx rfl (hb hby at_42) rfl rfl ?_
    show Steps p.tables e below (T2.setTop (mkF m 43 #[.val (.int p1), .val (.int p2), .val (.int p3), .val (.int p4), .val (.int p5), .val (.ref ax), .val (.int (1 : Int32)), .unset, .unset, .unset, .unset, .unset, .unset, .unset, .unset, .unset] [(.double (FP.i2d ((p4 &&& (65535 : Int32)) - (32768 : Int32))))])) _
    refine XS.dstore X2.here hx rfl (hb hby at_43) rfl (l' := #[.val (.int p1), .val (.int p2), .val (.int p3), .val (.int p4), .val (.int p5), .val (.ref ax), .val (.int (1 : Int32)), .val (.double (lc_low p1 p2 p3 p4 p5)), .second, .unset, .unset, .unset, .unset, .unset, .unset, .unset]) rfl ?_
    show Steps p.tables e below (T2.setTop (mkF m 45 #[.val (.int p1), .val (.int p2), .val (.int p3), .val (.int p4), .val (.int p5), .val (.ref ax), .val (.int (1 : Int32)), .val (.double (lc_low p1 p2 p3 p4 p5)), .second, .unset, .unset, .unset, .unset, .unset, .unset, .unset] [])) _
    refine XS.iload X2.here hx rfl (hb hby at_45) rfl ?_
    show Steps p.tables e below (T2.setTop (mkF m 47 #[.val (.int p1), .val (.int p2), .val (.int p3), .val (.int p4), .val (.int p5), .val (.ref ax), .val (.int (1 : Int32)), .val (.double (lc_low p1 p2 p3 p4 p5)), .second, .unset, .unset, .unset, .unset, .unset, .unset, .unset] [(.int p5)])) _
    refine XS.iconst X2.here hx rfl (hb hby at_47) ?_
    show Steps p.tables e below (T2.setTop (mkF m 48 #[.val (.int p1), .val (.int p2), .val (.int p3), .val (.int p4), .val (.int p5), .val (.ref ax), .val (.int (1 : Int32)), .val (.double (lc_low p1 p2 p3 p4 p5)), .second, .unset, .unset, .unset, .unset, .unset, .unset, .unset] [(.int (3 : Int32)), (.int p5)])) _
    refine XS.iand X2.here hx rfl (hb hby at_48) rfl ?_
    show Steps p.tables e below (T2.setTop (mkF m 49 #[.val (.int p1), .val (.int p2), .val (.int p3), .val (.int p4), .val (.int p5), .val (.ref ax), .val (.int (1 : Int32)), .val (.double (lc_low p1 p2 p3 p4 p5)), .second, .unset, .unset, .unset, .unset, .unset, .unset, .unset] [(.int (p5 &&& (3 : Int32)))])) _
    refine XS.istore X2.here hx rfl (hb hby at_49) rfl (l' := #[.val (.int p1), .val (.int p2), .val (.int p3), .val (.int p4), .val (.int p5), .val (.ref ax), .val (.int (1 : Int32)), .val (.double (lc_low p1 p2 p3 p4 p5)), .second, .val (.int (lc_which p1 p2 p3 p4 p5)), .unset, .unset, .unset, .unset, .unset, .unset]) rfl ?_
    show Steps p.tables e below (T2.setTop (mkF m 51 #[.val (.int p1), .val (.int p2), .val (.int p3), .val (.int p4), .val (.int p5), .val (.ref ax), .val (.int (1 : Int32)), .val (.double (lc_low p1 p2 p3 p4 p5)), .second, .val (.int (lc_which p1 p2 p3 p4 p5)), .unset, .unset, .unset, .unset, .unset, .unset] [])) _
    refine XS.iload X2.here hx rfl (hb hby at_51) rfl ?_
    show Steps p.tables e below (T2.setTop (mkF m 53 #[.val (.int p1), .val (.int p2), .val (.int p3), .val (.int p4), .val (.int p5), .val (.ref ax), .val (.int (1 : Int32)), .val (.double (lc_low p1 p2 p3 p4 p5)), .second, .val (.int (lc_which p1 p2 p3 p4 p5)), .unset, .unset, .unset, .unset, .unset, .unset] [(.int (lc_which p1 p2 p3 p4 p5))])) _
    have sg5 : ∀ t, Steps p.tables e below (T2.setTop (mkF m 109 #[.val (.int p1), .val (.int p2), .val (.int p3), .val (.int p4), .val (.int p5), .val (.ref ax), .val (.int (1 : Int32)), .val (.double (lc_low p1 p2 p3 p4 p5)), .second, .val (.int (lc_which p1 p2 p3 p4 p5)), .val (.double (lc_off p1 p2 p3 p4 p5)), .second, .val (.int (lc_exp p1 p2 p3 p4 p5)), .unset, .unset, .unset] [])) t → Steps p.tables e below (T2.setTop (mkF m 53 #[.val (.int p1), .val (.int p2), .val (.int p3), .val (.int p4), .val (.int p5), .val (.ref ax), .val (.int (1 : Int32)), .val (.double (lc_low p1 p2 p3 p4 p5)), .second, .val (.int (lc_which p1 p2 p3 p4 p5)), .unset, .unset, .unset, .unset, .unset, .unset] [(.int (lc_which p1 p2 p3 p4 p5))])) t := by
      intro t k
      by_cases c6 : (ifCond.holds .ne (lc_which p1 p2 p3 p4 p5)) = true
      · refine XS.ifYes X2.here hx rfl (pc0 := 53) (pc' := 67) rfl (hb hby at_53) rfl c6 (by decide) (by decide) ?_
        show Steps p.tables e below (T2.setTop (mkF m 67 #[.val (.int p1), .val (.int p2), .val (.int p3), .val (.int p4), .val (.int p5), .val (.ref ax), .val (.int (1 : Int32)), .val (.double (lc_low p1 p2 p3 p4 p5)), .second, .val (.int (lc_which p1 p2 p3 p4 p5)), .unset, .unset, .unset, .unset, .unset, .unset] [])) t
        refine XS.iload X2.here hx rfl (hb hby at_67) rfl ?_
        show Steps p.tables e below (T2.setTop (mkF m 69 #[.val (.int p1), .val (.int p2), .val (.int p3), .val (.int p4), .val (.int p5), .val (.ref ax), .val (.int (1 : Int32)), .val (.double (lc_low p1 p2 p3 p4 p5)), .second, .val (.int (lc_which p1 p2 p3 p4 p5)), .unset, .unset, .unset, .unset, .unset, .unset] [(.int (lc_which p1 p2 p3 p4 p5))])) t
        refine XS.iconst X2.here hx rfl (hb hby at_69) ?_
        show Steps p.tables e below (T2.setTop (mkF m 70 #[.val (.int p1), .val (.int p2), .val (.int p3), .val (.int p4), .val (.int p5), .val (.ref ax), .val (.int (1 : Int32)), .val (.double (lc_low p1 p2 p3 p4 p5)), .second, .val (.int (lc_which p1 p2 p3 p4 p5)), .unset, .unset, .unset, .unset, .unset, .unset] [(.int (1 : Int32)), (.int (lc_which p1 p2 p3 p4 p5))])) t
        by_cases c7 : (if_icmp.holds .ne (lc_which p1 p2 p3 p4 p5) (1 : Int32)) = true
        · refine XS.icmpYes X2.here hx rfl (pc0 := 70) (pc' := 84) rfl (hb hby at_70) rfl c7 (by decide) (by decide) ?_
          show Steps p.tables e below (T2.setTop (mkF m 84 #[.val (.int p1), .val (.int p2), .val (.int p3), .val (.int p4), .val (.int p5), .val (.ref ax), .val (.int (1 : Int32)), .val (.double (lc_low p1 p2 p3 p4 p5)), .second, .val (.int (lc_which p1 p2 p3 p4 p5)), .unset, .unset, .unset, .unset, .unset, .unset] [])) t
          refine XS.iload X2.here hx rfl (hb hby at_84) rfl ?_
          show Steps p.tables e below (T2.setTop (mkF m 86 #[.val (.int p1), .val (.int p2), .val (.int p3), .val (.int p4), .val (.int p5), .val (.ref ax), .val (.int (1 : Int32)), .val (.double (lc_low p1 p2 p3 p4 p5)), .second, .val (.int (lc_which p1 p2 p3 p4 p5)), .unset, .unset, .unset, .unset, .unset, .unset] [(.int (lc_which p1 p2 p3 p4 p5))])) t
          refine XS.iconst X2.here hx rfl (hb hby at_86) ?_
          show Steps p.tables e below (T2.setTop (mkF m 87 #[.val (.int p1), .val (.int p2), .val (.int p3), .val (.int p4), .val (.int p5), .val (.ref ax), .val (.int (1 : Int32)), .val (.double (lc_low p1 p2 p3 p4 p5)), .second, .val (.int (lc_which p1 p2 p3 p4 p5)), .unset, .unset, .unset, .unset, .unset, .unset] [(.int (2 : Int32)), (.int (lc_which p1 p2 p3 p4 p5))])) t
          by_cases c8 : (if_icmp.holds .ne (lc_which p1 p2 p3 p4 p5) (2 : Int32)) = true
          · refine XS.icmpYes X2.here hx rfl (pc0 := 87) (pc' := 101) rfl (hb hby at_87) rfl c8 (by decide) (by decide) ?_
            show Steps p.tables e below (T2.setTop (mkF m 101 #[.val (.int p1), .val (.int p2), .val (.int p3), .val (.int p4), .val (.int p5), .val (.ref ax), .val (.int (1 : Int32)), .val (.double (lc_low p1 p2 p3 p4 p5)), .second, .val (.int (lc_which p1 p2 p3 p4 p5)), .unset, .unset, .unset, .unset, .unset, .unset] [])) t
            refine X2.ldc2DoubleC hx hown (mvT hZ (hw _ (List.mem_of_getElem? (i := 17) rfl))) (g := (mkF m 101 #[.val (.int p1), .val (.int p2), .val (.int p3), .val (.int p4), .val (.int p5), .val (.ref ax), .val (.int (1 : Int32)), .val (.double (lc_low p1 p2 p3 p4 p5)), .second, .val (.int (lc_which p1 p2 p3 p4 p5)), .unset, .unset, .unset, .unset, .unset, .unset] [])) rfl (hb hby at_101) _ ?_
            show Steps p.tables e below (T2.setTop (mkF m 104 #[.val (.int p1), .val (.int p2), .val (.int p3), .val (.int p4), .val (.int p5), .val (.ref ax), .val (.int (1 : Int32)), .val (.double (lc_low p1 p2 p3 p4 p5)), .second, .val (.int (lc_which p1 p2 p3 p4 p5)), .unset, .unset, .unset, .unset, .unset, .unset] [(.double (4487126258331716666 : UInt64))])) t
            refine XS.dstore X2.here hx rfl (hb hby at_104) rfl (l' := #[.val (.int p1), .val (.int p2), .val (.int p3), .val (.int p4), .val (.int p5), .val (.ref ax), .val (.int (1 : Int32)), .val (.double (lc_low p1 p2 p3 p4 p5)), .second, .val (.int (lc_which p1 p2 p3 p4 p5)), .val (.double (4487126258331716666 : UInt64)), .second, .unset, .unset, .unset, .unset]) rfl ?_
            show Steps p.tables e below (T2.setTop (mkF m 106 #[.val (.int p1), .val (.int p2), .val (.int p3), .val (.int p4), .val (.int p5), .val (.ref ax), .val (.int (1 : Int32)), .val (.double (lc_low p1 p2 p3 p4 p5)), .second, .val (.int (lc_which p1 p2 p3 p4 p5)), .val (.double (4487126258331716666 : UInt64)), .second, .unset, .unset, .unset, .unset] [])) t
            refine XS.iconst X2.here hx rfl (hb hby at_106) ?_
            show Steps p.tables e below (T2.setTop (mkF m 107 #[.val (.int p1), .val (.int p2), .val (.int p3), .val (.int p4), .val (.int p5), .val (.ref ax), .val (.int (1 : Int32)), .val (.double (lc_low p1 p2 p3 p4 p5)), .second, .val (.int (lc_which p1 p2 p3 p4 p5)), .val (.double (4487126258331716666 : UInt64)), .second, .unset, .unset, .unset, .unset] [(.int (0 : Int32))])) t
            refine XS.istore X2.here hx rfl (hb hby at_107) rfl (l' := #[.val (.int p1), .val (.int p2), .val (.int p3), .val (.int p4), .val (.int p5), .val (.ref ax), .val (.int (1 : Int32)), .val (.double (lc_low p1 p2 p3 p4 p5)), .second, .val (.int (lc_which p1 p2 p3 p4 p5)), .val (.double (4487126258331716666 : UInt64)), .second, .val (.int (0 : Int32)), .unset, .unset, .unset]) rfl ?_
            show Steps p.tables e below (T2.setTop (mkF m 109 #[.val (.int p1), .val (.int p2), .val (.int p3), .val (.int p4), .val (.int p5), .val (.ref ax), .val (.int (1 : Int32)), .val (.double (lc_low p1 p2 p3 p4 p5)), .second, .val (.int (lc_which p1 p2 p3 p4 p5)), .val (.double (4487126258331716666 : UInt64)), .second, .val (.int (0 : Int32)), .unset, .unset, .unset] [])) t
            have q : (lc_off p1 p2 p3 p4 p5) = (4487126258331716666 : UInt64) := by simp only [lc_off, c6, c7, c8, if_true, if_false, Bool.false_eq_true]; try rfl
            rw [q] at k
            clear q
            have q : (lc_exp p1 p2 p3 p4 p5) = (0 : Int32) := by simp only [lc_exp, c6, c7, c8, if_true, if_false, Bool.false_eq_true]; try rfl
            rw [q] at k
            clear q
            exact k
          · refine XS.icmpNo X2.here hx rfl (hb hby at_87) rfl (Bool.eq_false_iff.mpr c8) ?_
            show Steps p.tables e below (T2.setTop (mkF m 90 #[.val (.int p1), .val (.int p2), .val (.int p3), .val (.int p4), .val (.int p5), .val (.ref ax), .val (.int (1 : Int32)), .val (.double (lc_low p1 p2 p3 p4 p5)), .second, .val (.int (lc_which p1 p2 p3 p4 p5)), .unset, .unset, .unset, .unset, .unset, .unset] [])) t
            refine X2.ldc2DoubleC hx hown (mvT hZ (hw _ (List.mem_of_getElem? (i := 25) rfl))) (g := (mkF m 90 #[.val (.int p1), .val (.int p2), .val (.int p3), .val (.int p4), .val (.int p5), .val (.ref ax), .val (.int (1 : Int32)), .val (.double (lc_low p1 p2 p3 p4 p5)), .second, .val (.int (lc_which p1 p2 p3 p4 p5)), .unset, .unset, .unset, .unset, .unset, .unset] [])) rfl (hb hby at_90) _ ?_
            show Steps p.tables e below (T2.setTop (mkF m 93 #[.val (.int p1), .val (.int p2), .val (.int p3), .val (.int p4), .val (.int p5), .val (.ref ax), .val (.int (1 : Int32)), .val (.double (lc_low p1 p2 p3 p4 p5)), .second, .val (.int (lc_which p1 p2 p3 p4 p5)), .unset, .unset, .unset, .unset, .unset, .unset] [(.double (13691274970857395861 : UInt64))])) t
            refine XS.dstore X2.here hx rfl (hb hby at_93) rfl (l' := #[.val (.int p1), .val (.int p2), .val (.int p3), .val (.int p4), .val (.int p5), .val (.ref ax), .val (.int (1 : Int32)), .val (.double (lc_low p1 p2 p3 p4 p5)), .second, .val (.int (lc_which p1 p2 p3 p4 p5)), .val (.double (13691274970857395861 : UInt64)), .second, .unset, .unset, .unset, .unset]) rfl ?_
            show Steps p.tables e below (T2.setTop (mkF m 95 #[.val (.int p1), .val (.int p2), .val (.int p3), .val (.int p4), .val (.int p5), .val (.ref ax), .val (.int (1 : Int32)), .val (.double (lc_low p1 p2 p3 p4 p5)), .second, .val (.int (lc_which p1 p2 p3 p4 p5)), .val (.double (13691274970857395861 : UInt64)), .second, .unset, .unset, .unset, .unset] [])) t
            refine XS.iconst X2.here hx rfl (hb hby at_95) ?_
            show Steps p.tables e below (T2.setTop (mkF m 96 #[.val (.int p1), .val (.int p2), .val (.int p3), .val (.int p4), .val (.int p5), .val (.ref ax), .val (.int (1 : Int32)), .val (.double (lc_low p1 p2 p3 p4 p5)), .second, .val (.int (lc_which p1 p2 p3 p4 p5)), .val (.double (13691274970857395861 : UInt64)), .second, .unset, .unset, .unset, .unset] [(.int (1 : Int32))])) t
            refine XS.istore X2.here hx rfl (hb hby at_96) rfl (l' := #[.val (.int p1), .val (.int p2), .val (.int p3), .val (.int p4), .val (.int p5), .val (.ref ax), .val (.int (1 : Int32)), .val (.double (lc_low p1 p2 p3 p4 p5)), .second, .val (.int (lc_which p1 p2 p3 p4 p5)), .val (.double (13691274970857395861 : UInt64)), .second, .val (.int (1 : Int32)), .unset, .unset, .unset]) rfl ?_
            show Steps p.tables e below (T2.setTop (mkF m 98 #[.val (.int p1), .val (.int p2), .val (.int p3), .val (.int p4), .val (.int p5), .val (.ref ax), .val (.int (1 : Int32)), .val (.double (lc_low p1 p2 p3 p4 p5)), .second, .val (.int (lc_which p1 p2 p3 p4 p5)), .val (.double (13691274970857395861 : UInt64)), .second, .val (.int (1 : Int32)), .unset, .unset, .unset] [])) t
            refine XS.goto X2.here hx rfl (pc0 := 98) (pc' := 109) rfl (hb hby at_98) (by decide) (by decide) ?_
            show Steps p.tables e below (T2.setTop (mkF m 109 #[.val (.int p1), .val (.int p2), .val (.int p3), .val (.int p4), .val (.int p5), .val (.ref ax), .val (.int (1 : Int32)), .val (.double (lc_low p1 p2 p3 p4 p5)), .second, .val (.int (lc_which p1 p2 p3 p4 p5)), .val (.double (13691274970857395861 : UInt64)), .second, .val (.int (1 : Int32)), .unset, .unset, .unset] [])) t
            have q : (lc_off p1 p2 p3 p4 p5) = (13691274970857395861 : UInt64) := by simp only [lc_off, c6, c7, c8, if_true, if_false, Bool.false_eq_true]; try rfl
            rw [q] at k
            clear q
            have q : (lc_exp p1 p2 p3 p4 p5) = (1 : Int32) := by simp only [lc_exp, c6, c7, c8, if_true, if_false, Bool.false_eq_true]; try rfl
            rw [q] at k
            clear q
            exact k
        · refine XS.icmpNo X2.here hx rfl (hb hby at_70) rfl (Bool.eq_false_iff.mpr c7) ?_
          show Steps p.tables e below (T2.setTop (mkF m 73 #[.val (.int p1), .val (.int p2), .val (.int p3), .val (.int p4), .val (.int p5), .val (.ref ax), .val (.int (1 : Int32)), .val (.double (lc_low p1 p2 p3 p4 p5)), .second, .val (.int (lc_which p1 p2 p3 p4 p5)), .unset, .unset, .unset, .unset, .unset, .unset] [])) t
          refine X2.ldc2DoubleC hx hown (mvT hZ (hw _ (List.mem_of_getElem? (i := 21) rfl))) (g := (mkF m 73 #[.val (.int p1), .val (.int p2), .val (.int p3), .val (.int p4), .val (.int p5), .val (.ref ax), .val (.int (1 : Int32)), .val (.double (lc_low p1 p2 p3 p4 p5)), .second, .val (.int (lc_which p1 p2 p3 p4 p5)), .unset, .unset, .unset, .unset, .unset, .unset] [])) rfl (hb hby at_73) _ ?_
          show Steps p.tables e below (T2.setTop (mkF m 76 #[.val (.int p1), .val (.int p2), .val (.int p3), .val (.int p4), .val (.int p5), .val (.ref ax), .val (.int (1 : Int32)), .val (.double (lc_low p1 p2 p3 p4 p5)), .second, .val (.int (lc_which p1 p2 p3 p4 p5)), .unset, .unset, .unset, .unset, .unset, .unset] [(.double (4476910133257361045 : UInt64))])) t
          refine XS.dstore X2.here hx rfl (hb hby at_76) rfl (l' := #[.val (.int p1), .val (.int p2), .val (.int p3), .val (.int p4), .val (.int p5), .val (.ref ax), .val (.int (1 : Int32)), .val (.double (lc_low p1 p2 p3 p4 p5)), .second, .val (.int (lc_which p1 p2 p3 p4 p5)), .val (.double (4476910133257361045 : UInt64)), .second, .unset, .unset, .unset, .unset]) rfl ?_
          show Steps p.tables e below (T2.setTop (mkF m 78 #[.val (.int p1), .val (.int p2), .val (.int p3), .val (.int p4), .val (.int p5), .val (.ref ax), .val (.int (1 : Int32)), .val (.double (lc_low p1 p2 p3 p4 p5)), .second, .val (.int (lc_which p1 p2 p3 p4 p5)), .val (.double (4476910133257361045 : UInt64)), .second, .unset, .unset, .unset, .unset] [])) t
          refine XS.iconst X2.here hx rfl (hb hby at_78) ?_
          show Steps p.tables e below (T2.setTop (mkF m 79 #[.val (.int p1), .val (.int p2), .val (.int p3), .val (.int p4), .val (.int p5), .val (.ref ax), .val (.int (1 : Int32)), .val (.double (lc_low p1 p2 p3 p4 p5)), .second, .val (.int (lc_which p1 p2 p3 p4 p5)), .val (.double (4476910133257361045 : UInt64)), .second, .unset, .unset, .unset, .unset] [(.int (0 : Int32))])) t
          refine XS.istore X2.here hx rfl (hb hby at_79) rfl (l' := #[.val (.int p1), .val (.int p2), .val (.int p3), .val (.int p4), .val (.int p5), .val (.ref ax), .val (.int (1 : Int32)), .val (.double (lc_low p1 p2 p3 p4 p5)), .second, .val (.int (lc_which p1 p2 p3 p4 p5)), .val (.double (4476910133257361045 : UInt64)), .second, .val (.int (0 : Int32)), .unset, .unset, .unset]) rfl ?_
          show Steps p.tables e below (T2.setTop (mkF m 81 #[.val (.int p1), .val (.int p2), .val (.int p3), .val (.int p4), .val (.int p5), .val (.ref ax), .val (.int (1 : Int32)), .val (.double (lc_low p1 p2 p3 p4 p5)), .second, .val (.int (lc_which p1 p2 p3 p4 p5)), .val (.double (4476910133257361045 : UInt64)), .second, .val (.int (0 : Int32)), .unset, .unset, .unset] [])) t
          refine XS.goto X2.here hx rfl (pc0 := 81) (pc' := 109) rfl (hb hby at_81) (by decide) (by decide) ?_
          show Steps p.tables e below (T2.setTop (mkF m 109 #[.val (.int p1), .val (.int p2), .val (.int p3), .val (.int p4), .val (.int p5), .val (.ref ax), .val (.int (1 : Int32)), .val (.double (lc_low p1 p2 p3 p4 p5)), .second, .val (.int (lc_which p1 p2 p3 p4 p5)), .val (.double (4476910133257361045 : UInt64)), .second, .val (.int (0 : Int32)), .unset, .unset, .unset] [])) t
          have q : (lc_off p1 p2 p3 p4 p5) = (4476910133257361045 : UInt64) := by simp only [lc_off, c6, c7, if_true, if_false, Bool.false_eq_true]; try rfl
          rw [q] at k
          clear q
          have q : (lc_exp p1 p2 p3 p4 p5) = (0 : Int32) := by simp only [lc_exp, c6, c7, if_true, if_false, Bool.false_eq_true]; try rfl
          rw [q] at k
          clear q
          exact k
      · refine XS.ifNo X2.here hx rfl (hb hby at_53) rfl (Bool.eq_false_iff.mpr c6) ?_
        show Steps p.tables e below (T2.setTop (mkF m 56 #[.val (.int p1), .val (.int p2), .val (.int p3), .val (.int p4), .val (.int p5), .val (.ref ax), .val (.int (1 : Int32)), .val (.double (lc_low p1 p2 p3 p4 p5)), .second, .val (.int (lc_which p1 p2 p3 p4 p5)), .unset, .unset, .unset, .unset, .unset, .unset] [])) t
        refine X2.ldc2DoubleC hx hown (mvT hZ (hw _ (List.mem_of_getElem? (i := 16) rfl))) (g := (mkF m 56 #[.val (.int p1), .val (.int p2), .val (.int p3), .val (.int p4), .val (.int p5), .val (.ref ax), .val (.int (1 : Int32)), .val (.double (lc_low p1 p2 p3 p4 p5)), .second, .val (.int (lc_which p1 p2 p3 p4 p5)), .unset, .unset, .unset, .unset, .unset, .unset] [])) rfl (hb hby at_56) _ ?_
        show Steps p.tables e below (T2.setTop (mkF m 59 #[.val (.int p1), .val (.int p2), .val (.int p3), .val (.int p4), .val (.int p5), .val (.ref ax), .val (.int (1 : Int32)), .val (.double (lc_low p1 p2 p3 p4 p5)), .second, .val (.int (lc_which p1 p2 p3 p4 p5)), .unset, .unset, .unset, .unset, .unset, .unset] [(.double (4467902934002620053 : UInt64))])) t
        refine XS.dstore X2.here hx rfl (hb hby at_59) rfl (l' := #[.val (.int p1), .val (.int p2), .val (.int p3), .val (.int p4), .val (.int p5), .val (.ref ax), .val (.int (1 : Int32)), .val (.double (lc_low p1 p2 p3 p4 p5)), .second, .val (.int (lc_which p1 p2 p3 p4 p5)), .val (.double (4467902934002620053 : UInt64)), .second, .unset, .unset, .unset, .unset]) rfl ?_
        show Steps p.tables e below (T2.setTop (mkF m 61 #[.val (.int p1), .val (.int p2), .val (.int p3), .val (.int p4), .val (.int p5), .val (.ref ax), .val (.int (1 : Int32)), .val (.double (lc_low p1 p2 p3 p4 p5)), .second, .val (.int (lc_which p1 p2 p3 p4 p5)), .val (.double (4467902934002620053 : UInt64)), .second, .unset, .unset, .unset, .unset] [])) t
        refine XS.iconst X2.here hx rfl (hb hby at_61) ?_
        show Steps p.tables e below (T2.setTop (mkF m 62 #[.val (.int p1), .val (.int p2), .val (.int p3), .val (.int p4), .val (.int p5), .val (.ref ax), .val (.int (1 : Int32)), .val (.double (lc_low p1 p2 p3 p4 p5)), .second, .val (.int (lc_which p1 p2 p3 p4 p5)), .val (.double (4467902934002620053 : UInt64)), .second, .unset, .unset, .unset, .unset] [(.int (1 : Int32))])) t
        refine XS.istore X2.here hx rfl (hb hby at_62) rfl (l' := #[.val (.int p1), .val (.int p2), .val (.int p3), .val (.int p4), .val (.int p5), .val (.ref ax), .val (.int (1 : Int32)), .val (.double (lc_low p1 p2 p3 p4 p5)), .second, .val (.int (lc_which p1 p2 p3 p4 p5)), .val (.double (4467902934002620053 : UInt64)), .second, .val (.int (1 : Int32)), .unset, .unset, .unset]) rfl ?_
        show Steps p.tables e below (T2.setTop (mkF m 64 #[.val (.int p1), .val (.int p2), .val (.int p3), .val (.int p4), .val (.int p5), .val (.ref ax), .val (.int (1 : Int32)), .val (.double (lc_low p1 p2 p3 p4 p5)), .second, .val (.int (lc_which p1 p2 p3 p4 p5)), .val (.double (4467902934002620053 : UInt64)), .second, .val (.int (1 : Int32)), .unset, .unset, .unset] [])) t
        refine XS.goto X2.here hx rfl (pc0 := 64) (pc' := 109) rfl (hb hby at_64) (by decide) (by decide) ?_
        show Steps p.tables e below (T2.setTop (mkF m 109 #[.val (.int p1), .val (.int p2), .val (.int p3), .val (.int p4), .val (.int p5), .val (.ref ax), .val (.int (1 : Int32)), .val (.double (lc_low p1 p2 p3 p4 p5)), .second, .val (.int (lc_which p1 p2 p3 p4 p5)), .val (.double (4467902934002620053 : UInt64)), .second, .val (.int (1 : Int32)), .unset, .unset, .unset] [])) t
        have q : (lc_off p1 p2 p3 p4 p5) = (4467902934002620053 : UInt64) := by simp only [lc_off, c6, if_true, if_false, Bool.false_eq_true]; try rfl
        rw [q] at k
        clear q
        have q : (lc_exp p1 p2 p3 p4 p5) = (1 : Int32) := by simp only [lc_exp, c6, if_true, if_false, Bool.false_eq_true]; try rfl
        rw [q] at k
        clear q
        exact k
    refine sg5 _ ?_
    show Steps p.tables e below (T2.setTop (mkF m 109 #[.val (.int p1), .val (.int p2), .val (.int p3), .val (.int p4), .val (.int p5), .val (.ref ax), .val (.int (1 : Int32)), .val (.double (lc_low p1 p2 p3 p4 p5)), .second, .val (.int (lc_which p1 p2 p3 p4 p5)), .val (.double (lc_off p1 p2 p3 p4 p5)), .second, .val (.int (lc_exp p1 p2 p3 p4 p5)), .unset, .unset, .unset] [])) _
    refine XS.dload X2.here hx rfl (hb hby at_109) rfl ?_
    show Steps p.tables e below (T2.setTop (mkF m 111 #[.val (.int p1), .val (.int p2), .val (.int p3), .val (.int p4), .val (.int p5), .val (.ref ax), .val (.int (1 : Int32)), .val (.double (lc_low p1 p2 p3 p4 p5)), .second, .val (.int (lc_which p1 p2 p3 p4 p5)), .val (.double (lc_off p1 p2 p3 p4 p5)), .second, .val (.int (lc_exp p1 p2 p3 p4 p5)), .unset, .unset, .unset] [(.double (lc_low p1 p2 p3 p4 p5))])) _
    refine XS.dload X2.here hx rfl (hb hby at_111) rfl ?_
    show Steps p.tables e below (T2.setTop (mkF m 113 #[.val (.int p1), .val (.int p2), .val (.int p3), .val (.int p4), .val (.int p5), .val (.ref ax), .val (.int (1 : Int32)), .val (.double (lc_low p1 p2 p3 p4 p5)), .second, .val (.int (lc_which p1 p2 p3 p4 p5)), .val (.double (lc_off p1 p2 p3 p4 p5)), .second, .val (.int (lc_exp p1 p2 p3 p4 p5)), .unset, .unset, .unset] [(.double (lc_off p1 p2 p3 p4 p5)), (.double (lc_low p1 p2 p3 p4 p5))])) _
    refine XS.daddS X2.here hx rfl (hb hby at_113) rfl (own_rk p1 p2 p3 p4 p5) rfl ?_
    show Steps p.tables e below (T2.setTop (mkF m 114 #[.val (.int p1), .val (.int p2), .val (.int p3), .val (.int p4), .val (.int p5), .val (.ref ax), .val (.int (1 : Int32)), .val (.double (lc_low p1 p2 p3 p4 p5)), .second, .val (.int (lc_which p1 p2 p3 p4 p5)), .val (.double (lc_off p1 p2 p3 p4 p5)), .second, .val (.int (lc_exp p1 p2 p3 p4 p5)), .unset, .unset, .unset] [(.double (FP.dadd (lc_low p1 p2 p3 p4 p5) (lc_off p1 p2 p3 p4 p5)))])) _
    refine XS.dstore X2.here hx rfl (hb hby at_114) rfl (l' := #[.val (.int p1), .val (.int p2), .val (.int p3), .val (.int p4), .val (.int p5), .val (.ref ax), .val (.int (1 : Int32)), .val (.double (lc_low p1 p2 p3 p4 p5)), .second, .val (.int (lc_which p1 p2 p3 p4 p5)), .val (.double (lc_off p1 p2 p3 p4 p5)), .second, .val (.int (lc_exp p1 p2 p3 p4 p5)), .val (.double (lc_rank p1 p2 p3 p4 p5)), .second, .unset]) rfl ?_
    show Steps p.tables e below (T2.setTop (mkF m 116 #[.val (.int p1), .val (.int p2), .val (.int p3), .val (.int p4), .val (.int p5), .val (.ref ax), .val (.int (1 : Int32)), .val (.double (lc_low p1 p2 p3 p4 p5)), .second, .val (.int (lc_which p1 p2 p3 p4 p5)), .val (.double (lc_off p1 p2 p3 p4 p5)), .second, .val (.int (lc_exp p1 p2 p3 p4 p5)), .val (.double (lc_rank p1 p2 p3 p4 p5)), .second, .unset] [])) _
    refine XS.aload X2.here hx rfl (hb hby at_116) rfl rfl ?_
    show Steps p.tables e below (T2.setTop (mkF m 118 #[.val (.int p1), .val (.int p2), .val (.int p3), .val (.int p4), .val (.int p5), .val (.ref ax), .val (.int (1 : Int32)), .val (.double (lc_low p1 p2 p3 p4 p5)), .second, .val (.int (lc_which p1 p2 p3 p4 p5)), .val (.double (lc_off p1 p2 p3 p4 p5)), .second, .val (.int (lc_exp p1 p2 p3 p4 p5)), .val (.double (lc_rank p1 p2 p3 p4 p5)), .second, .unset] [(.ref ax)])) _
    refine XS.dload X2.here hx rfl (hb hby at_118) rfl ?_
    show Steps p.tables e below (T2.setTop (mkF m 120 #[.val (.int p1), .val (.int p2), .val (.int p3), .val (.int p4), .val (.int p5), .val (.ref ax), .val (.int (1 : Int32)), .val (.double (lc_low p1 p2 p3 p4 p5)), .second, .val (.int (lc_which p1 p2 p3 p4 p5)), .val (.double (lc_off p1 p2 p3 p4 p5)), .second, .val (.int (lc_exp p1 p2 p3 p4 p5)), .val (.double (lc_rank p1 p2 p3 p4 p5)), .second, .unset] [(.double (lc_rank p1 p2 p3 p4 p5)), (.ref ax)])) _
    refine XS.dload X2.here hx rfl (hb hby at_120) rfl ?_
    show Steps p.tables e below (T2.setTop (mkF m 122 #[.val (.int p1), .val (.int p2), .val (.int p3), .val (.int p4), .val (.int p5), .val (.ref ax), .val (.int (1 : Int32)), .val (.double (lc_low p1 p2 p3 p4 p5)), .second, .val (.int (lc_which p1 p2 p3 p4 p5)), .val (.double (lc_off p1 p2 p3 p4 p5)), .second, .val (.int (lc_exp p1 p2 p3 p4 p5)), .val (.double (lc_rank p1 p2 p3 p4 p5)), .second, .unset] [(.double (lc_low p1 p2 p3 p4 p5)), (.double (lc_rank p1 p2 p3 p4 p5)), (.ref ax)])) _
    refine st9.trans ?_
    show Steps p.tables e below (T9.setTop (mkF m 125 #[.val (.int p1), .val (.int p2), .val (.int p3), .val (.int p4), .val (.int p5), .val (.ref ax), .val (.int (1 : Int32)), .val (.double (lc_low p1 p2 p3 p4 p5)), .second, .val (.int (lc_which p1 p2 p3 p4 p5)), .val (.double (lc_off p1 p2 p3 p4 p5)), .second, .val (.int (lc_exp p1 p2 p3 p4 p5)), .val (.double (lc_rank p1 p2 p3 p4 p5)), .second, .unset] [(.int (ti_res (lc_rank p1 p2 p3 p4 p5) (lc_low p1 p2 p3 p4 p5)))])) _
    refine XS.iload X9.here hx rfl (hb hby at_125) rfl ?_
    show Steps p.tables e below (T9.setTop (mkF m 127 #[.val (.int p1), .val (.int p2), .val (.int p3), .val (.int p4), .val (.int p5), .val (.ref ax), .val (.int (1 : Int32)), .val (.double (lc_low p1 p2 p3 p4 p5)), .second, .val (.int (lc_which p1 p2 p3 p4 p5)), .val (.double (lc_off p1 p2 p3 p4 p5)), .second, .val (.int (lc_exp p1 p2 p3 p4 p5)), .val (.double (lc_rank p1 p2 p3 p4 p5)), .second, .unset] [(.int (lc_exp p1 p2 p3 p4 p5)), (.int (ti_res (lc_rank p1 p2 p3 p4 p5) (lc_low p1 p2 p3 p4 p5)))])) _
    refine XS.icmpNo X9.here hx rfl (hb hby at_127) rfl (own_a2 p1 p2 p3 p4 p5) ?_
    show Steps p.tables e below (T9.setTop (mkF m 130 #[.val (.int p1), .val (.int p2), .val (.int p3), .val (.int p4), .val (.int p5), .val (.ref ax), .val (.int (1 : Int32)), .val (.double (lc_low p1 p2 p3 p4 p5)), .second, .val (.int (lc_which p1 p2 p3 p4 p5)), .val (.double (lc_off p1 p2 p3 p4 p5)), .second, .val (.int (lc_exp p1 p2 p3 p4 p5)), .val (.double (lc_rank p1 p2 p3 p4 p5)), .second, .unset] [])) _
    refine XS.iconst X9.here hx rfl (hb hby at_130) ?_
    show Steps p.tables e below (T9.setTop (mkF m 131 #[.val (.int p1), .val (.int p2), .val (.int p3), .val (.int p4), .val (.int p5), .val (.ref ax), .val (.int (1 : Int32)), .val (.double (lc_low p1 p2 p3 p4 p5)), .second, .val (.int (lc_which p1 p2 p3 p4 p5)), .val (.double (lc_off p1 p2 p3 p4 p5)), .second, .val (.int (lc_exp p1 p2 p3 p4 p5)), .val (.double (lc_rank p1 p2 p3 p4 p5)), .second, .unset] [(.int (1 : Int32))])) _
    refine XS.goto X9.here hx rfl (pc0 := 131) (pc' := 135) rfl (hb hby at_131) (by decide) (by decide) ?_
    show Steps p.tables e below (T9.setTop (mkF m 135 #[.val (.int p1), .val (.int p2), .val (.int p3), .val (.int p4), .val (.int p5), .val (.ref ax), .val (.int (1 : Int32)), .val (.double (lc_low p1 p2 p3 p4 p5)), .second, .val (.int (lc_which p1 p2 p3 p4 p5)), .val (.double (lc_off p1 p2 p3 p4 p5)), .second, .val (.int (lc_exp p1 p2 p3 p4 p5)), .val (.double (lc_rank p1 p2 p3 p4 p5)), .second, .unset] [(.int (1 : Int32))])) _
    refine XS.istore X9.here hx rfl (hb hby at_135) rfl (l' := #[.val (.int p1), .val (.int p2), .val (.int p3), .val (.int p4), .val (.int p5), .val (.ref ax), .val (.int (1 : Int32)), .val (.double (lc_low p1 p2 p3 p4 p5)), .second, .val (.int (lc_which p1 p2 p3 p4 p5)), .val (.double (lc_off p1 p2 p3 p4 p5)), .second, .val (.int (lc_exp p1 p2 p3 p4 p5)), .val (.double (lc_rank p1 p2 p3 p4 p5)), .second, .val (.int (1 : Int32))]) rfl ?_
    show Steps p.tables e below (T9.setTop (mkF m 137 #[.val (.int p1), .val (.int p2), .val (.int p3), .val (.int p4), .val (.int p5), .val (.ref ax), .val (.int (1 : Int32)), .val (.double (lc_low p1 p2 p3 p4 p5)), .second, .val (.int (lc_which p1 p2 p3 p4 p5)), .val (.double (lc_off p1 p2 p3 p4 p5)), .second, .val (.int (lc_exp p1 p2 p3 p4 p5)), .val (.double (lc_rank p1 p2 p3 p4 p5)), .second, .val (.int (1 : Int32))] [])) _
    refine XS.iload X9.here hx rfl (hb hby at_137) rfl ?_
    show Steps p.tables e below (T9.setTop (mkF m 139 #[.val (.int p1), .val (.int p2), .val (.int p3), .val (.int p4), .val (.int p5), .val (.ref ax), .val (.int (1 : Int32)), .val (.double (lc_low p1 p2 p3 p4 p5)), .second, .val (.int (lc_which p1 p2 p3 p4 p5)), .val (.double (lc_off p1 p2 p3 p4 p5)), .second, .val (.int (lc_exp p1 p2 p3 p4 p5)), .val (.double (lc_rank p1 p2 p3 p4 p5)), .second, .val (.int (1 : Int32))] [(.int (1 : Int32))])) _
    refine XS.ifNo X9.here hx rfl (hb hby at_139) rfl (by decide) ?_
    show Steps p.tables e below (T9.setTop (mkF m 142 #[.val (.int p1), .val (.int p2), .val (.int p3), .val (.int p4), .val (.int p5), .val (.ref ax), .val (.int (1 : Int32)), .val (.double (lc_low p1 p2 p3 p4 p5)), .second, .val (.int (lc_which p1 p2 p3 p4 p5)), .val (.double (lc_off p1 p2 p3 p4 p5)), .second, .val (.int (lc_exp p1 p2 p3 p4 p5)), .val (.double (lc_rank p1 p2 p3 p4 p5)), .second, .val (.int (1 : Int32))] [])) _
    refine XS.iload X9.here hx rfl (hb hby at_142) rfl ?_
    show Steps p.tables e below (T9.setTop (mkF m 144 #[.val (.int p1), .val (.int p2), .val (.int p3), .val (.int p4), .val (.int p5), .val (.ref ax), .val (.int (1 : Int32)), .val (.double (lc_low p1 p2 p3 p4 p5)), .second, .val (.int (lc_which p1 p2 p3 p4 p5)), .val (.double (lc_off p1 p2 p3 p4 p5)), .second, .val (.int (lc_exp p1 p2 p3 p4 p5)), .val (.double (lc_rank p1 p2 p3 p4 p5)), .second, .val (.int (1 : Int32))] [(.int (1 : Int32))])) _
    refine XS.ifNo X9.here hx rfl (hb hby at_144) rfl (by decide) ?_
    show Steps p.tables e below (T9.setTop (mkF m 147 #[.val (.int p1), .val (.int p2), .val (.int p3), .val (.int p4), .val (.int p5), .val (.ref ax), .val (.int (1 : Int32)), .val (.double (lc_low p1 p2 p3 p4 p5)), .second, .val (.int (lc_which p1 p2 p3 p4 p5)), .val (.double (lc_off p1 p2 p3 p4 p5)), .second, .val (.int (lc_exp p1 p2 p3 p4 p5)), .val (.double (lc_rank p1 p2 p3 p4 p5)), .second, .val (.int (1 : Int32))] [])) _
    refine XS.iconst X9.here hx rfl (hb hby at_147) ?_
    show Steps p.tables e below (T9.setTop (mkF m 148 #[.val (.int p1), .val (.int p2), .val (.int p3), .val (.int p4), .val (.int p5), .val (.ref ax), .val (.int (1 : Int32)), .val (.double (lc_low p1 p2 p3 p4 p5)), .second, .val (.int (lc_which p1 p2 p3 p4 p5)), .val (.double (lc_off p1 p2 p3 p4 p5)), .second, .val (.int (lc_exp p1 p2 p3 p4 p5)), .val (.double (lc_rank p1 p2 p3 p4 p5)), .second, .val (.int (1 : Int32))] [(.int (1 : Int32))])) _
    refine XS.goto X9.here hx rfl (pc0 := 148) (pc' := 152) rfl (hb hby at_148) (by decide) (by decide) ?_
    show Steps p.tables e below (T9.setTop (mkF m 152 #[.val (.int p1), .val (.int p2), .val (.int p3), .val (.int p4), .val (.int p5), .val (.ref ax), .val (.int (1 : Int32)), .val (.double (lc_low p1 p2 p3 p4 p5)), .second, .val (.int (lc_which p1 p2 p3 p4 p5)), .val (.double (lc_off p1 p2 p3 p4 p5)), .second, .val (.int (lc_exp p1 p2 p3 p4 p5)), .val (.double (lc_rank p1 p2 p3 p4 p5)), .second, .val (.int (1 : Int32))] [(.int (1 : Int32))])) _
    exact retN X9 hx (t := .boolean) Bd.returns (by simp) (hb hby at_152) hr
  · show Q_lc Z p1 p2 p3 p4 p5 ax h0 n0 _ T9.heap _
    exact ⟨rfl, Nn9⟩
theorem rm_law (l : Launch) (Z : State) (a0 : Array Value) (hw : ∀ d ∈ tables_1, d.before a0 Z = true) (ws : List Jvm.Cond) (p1 p2 p3 p4 p5 : Int32) (x1 x2 x3 : Addr) (h0 : Heap) (n0 : Nat) (Z0 : n0 ≤ h0.size)
    (S1 : Sta Z h0 "com/example/muster/muster/auction/Mechanism" "UNIT_COST" "Lcom/example/muster/muster/auction/Mechanism;" (.ref x1)) (S2 : Sta Z h0 "com/example/muster/muster/auction/Mechanism" "COST_MIN" "Lcom/example/muster/muster/auction/Mechanism;" (.ref x2)) (S3 : Sta Z h0 "com/example/muster/muster/auction/Mechanism" "ABILITY_MAX" "Lcom/example/muster/muster/auction/Mechanism;" (.ref x3)) (E1 : Exa Z h0 x1 "com/example/muster/muster/auction/Mechanism$1") (E2 : Exa Z h0 x2 "com/example/muster/muster/auction/Mechanism$2") (E3 : Exa Z h0 x3 "com/example/muster/muster/auction/Mechanism$3") :
    MetFree l x (head1 (Jvm.Cond.code x code maxLocals ret :: ws) room_1) (fun a U => a = #[(.int p1), (.int p2), (.int p3), (.int p4), (.int p5)] ∧ Z.Warmed39 U.vm ∧ U.heap = h0) (fun _ _ _ _ _ => True) (fun _ U o U' => ∃ v L, o = .returned v ∧ (v = some (.int 1) ∧ Fr n0 L) ∧ FrameEnd U o U' L 0 0) := by
  by_cases c1 : ifCond.holds .ne (pk0_s p1) = true
  · by_cases c2 : if_icmp.holds .ne (pk0_s p1) (1 : Int32) = true
    · exact rm_lc l Z a0 hw ws p1 p2 p3 p4 p5 x3 h0 n0 Z0 E3 S3 c1 c2
    · exact rm_lb l Z a0 hw ws p1 p2 p3 p4 p5 x2 h0 n0 Z0 E2 S2 c1 (Bool.eq_false_iff.mpr c2)
  · exact rm_la l Z a0 hw ws p1 p2 p3 p4 p5 x1 h0 n0 Z0 E1 S1 (Bool.eq_false_iff.mpr c1)
set_option maxRecDepth 65536 in
set_option maxHeartbeats 40000000 in
theorem comes_1 {Post : Tables → Env → Array Value → State → Outcome → State → Prop} (hpost : ∀ tb e args s v u, (limb_1_1.after args s (.returned v) u = true ∧ limb_1_2.after args s (.returned v) u = true ∧ True) → FrameEnd s (.returned v) u (Jvm.fieldLocs frame_1_writes args s ++ Jvm.arrayLocs frame_1_arrays args s ++ Jvm.staticLocs frame_1_statics s) 0 0 → Post tb e args s (.returned v) u) :
    ArmFor flags0 classFile x code maxLocals ret World_1 tables_1 room_1 Calls_1 rest_1 Pre_1 Post := by
  intro l hfl _ _ p e ha hc hk s m args below hf hA hF happ hP
  obtain ⟨hcalls, hrest, hpre⟩ := hP
  obtain ⟨-, -, -, hnamed, -, -, -, hat⟩ := (Spec.applies_iff hf).mp happ
  obtain ⟨hg, hn⟩ := and_e (Cond.before_iff.mp (show (Jvm.Cond.and given_1 narrow_1).before args s = true from hpre))
  obtain ⟨h1, g0⟩ := and_e hg
  obtain ⟨i0, g1⟩ := and_e g0
  obtain ⟨i1, g2⟩ := and_e g1
  obtain ⟨i2, g3⟩ := and_e g2
  obtain ⟨i3, g4⟩ := and_e g3
  obtain ⟨w0, w1, w2, w3, w4, rfl⟩ : ∃ w0 w1 w2 w3 w4 : Value, args = #[w0, w1, w2, w3, w4] := by
    have hs : args.size = 5 := by simpa [Cond.value, given_1] using h1
    obtain ⟨L⟩ := args
    match L, hs with
    | [w0, w1, w2, w3, w4], _ => exact ⟨w0, w1, w2, w3, w4, rfl⟩
  have hw := fun d (hd : d ∈ tables_1) => atoms_spec (ws := Jvm.Cond.code x code maxLocals ret :: tables_1) hat d (List.mem_cons_of_mem _ hd)
  obtain ⟨v0, e0⟩ := is_v i0
  obtain rfl : w0 = (.int v0) := Option.some.inj e0
  obtain ⟨v1, e1⟩ := is_v i1
  obtain rfl : w1 = (.int v1) := Option.some.inj e1
  obtain ⟨v2, e2⟩ := is_v i2
  obtain rfl : w2 = (.int v2) := Option.some.inj e2
  obtain ⟨v3, e3⟩ := is_v i3
  obtain rfl : w3 = (.int v3) := Option.some.inj e3
  obtain ⟨v4, e4⟩ := is_v g4
  obtain rfl : w4 = (.int v4) := Option.some.inj e4
  obtain ⟨m1, m0⟩ := and_e hn
  obtain ⟨m3, m2⟩ := and_e m0
  obtain ⟨x1, y1⟩ := exa_v m1
  obtain ⟨x3, y3⟩ := exa_v m3
  obtain ⟨x2, y2⟩ := exa_v m2
  have E1 := Exa.start y1 m1
  have E2 := Exa.start y2 m2
  have E3 := Exa.start y3 m3
  have S1 := Sta.start y1 (Or.inr ⟨(hw _ (List.mem_of_getElem? (i := 6) rfl)), (hw _ (List.mem_of_getElem? (i := 7) rfl))⟩)
  have S2 := Sta.start y2 (Or.inr ⟨(hw _ (List.mem_of_getElem? (i := 6) rfl)), (hw _ (List.mem_of_getElem? (i := 23) rfl))⟩)
  have S3 := Sta.start y3 (Or.inr ⟨(hw _ (List.mem_of_getElem? (i := 6) rfl)), (hw _ (List.mem_of_getElem? (i := 19) rfl))⟩)
  obtain ⟨n, o, h1, h2, h3, _, L, rfl, ⟨rfl, N⟩, hq⟩ := rm_law l s _ hw tables_1 v0 v1 v2 v3 v4 x1 x2 x3 s.heap s.heap.size (Nat.le_refl _) S1 S2 S3 E1 E2 E3 p e ha hc hk s m _ below hf ((Spec.applies_iff_loose hf).mp happ).1 ⟨rfl, State.Warmed39.refl s, rfl⟩ trivial
  refine ⟨n, _, h1, h2, h3, hpost _ _ _ _ _ _ ⟨Cond.after_iff.mpr rfl, Cond.after_iff.mpr (eq_i res_at (Term.int_eval (1)) rfl), trivial⟩ ⟨hq.1, hq.2.1, (hq.2.2.sift fun y hy => Or.inr (N y hy)).mono (by decide) (by decide)⟩⟩
theorem main_1_1 : Claimed_1_1 := comes_1 fun _ _ _ _ _ _ h hF => ⟨h.1, hF⟩
theorem main_1_2 : Claimed_1_2 := comes_1 fun _ _ _ _ _ _ h hF => ⟨h.2.1, hF⟩
end Jvm.Pilot.@@N@@
namespace Jvm.Pilot.@@N@@
open Jvm Jvm.ClassFile Sem Op Lib Jvm.Free Jvm.Stand Jvm.Pilot.@@N@@.Jvm.D
/-! MADE BY PROGRAM (witnessworld.py) out of the Statement's table words and the real class files: 15 classes; the members and pool entries that the words name. The judged class is class 1, her method 2. -/
namespace start1
open Jvm.ClassFile
def u (s : String) : CpInfo := .utf8 (stringToUtf16 s)
/-- a pool by its gaps: so many unusable entries, then the entry; so many at the end -/
def gap : Nat → List CpInfo → List CpInfo
  | 0, r => r
  | n + 1, r => .unusable :: gap n r
def poolList (es : List (Nat × CpInfo)) (last : Nat) : List CpInfo := es.foldr (fun e r => gap e.1 (e.2 :: r)) (gap last [])
def pool (es : List (Nat × CpInfo)) (last : Nat) : Array CpInfo := ⟨poolList es last⟩
def fileOf (pool : Array CpInfo) (this : Nat) (attrs : Array Attribute := #[]) (ms : Array MethodInfo := #[]) (fl : Nat := 33) (sup : Nat := 0) (ifs : Array Nat := #[]) (fds : Array FieldInfo := #[]) : ClassFile where
  minorVersion := 0
  majorVersion := 65
  constantPool := pool
  accessFlags := fl
  thisClass := this
  superClass := sup
  interfaces := ifs
  fields := fds
  methods := ms
  attributes := attrs
def plain (name : String) (sup : Option ClassId) : Class where
  name := name
  kind := .ordinary
  loader := none
  accessFlags := 33
  super := sup
  interfaces := #[]
  cf := none
  fields := #[]
  methods := #[]
  instanceTypes := #[]
  staticTypes := #[]
  resolved := #[]
  callSites := []
  init := .initialized
  statics := none
  mirror := none

def pool0 : Array CpInfo := pool [(5, u "<init>"), (0, u "()V"), (1, .class_ 10), (1, u "java/lang/Object")] 113

def k0m0 : Method := { name := "<init>", desc := "()V", sig := { parameters := [], returnType := none }, accessFlags := 1, code := none }
/-- java/lang/Object -/
def k0 : Class := { plain "java/lang/Object" none with
  accessFlags := 33
  interfaces := #[]
  cf := some (fileOf pool0 8 #[] #[{ accessFlags := 1, nameIndex := 5, descriptorIndex := 6, attributes := #[] }] 33 0 #[] #[])
  fields := #[]
  methods := #[k0m0]
  instanceTypes := #[]
  staticTypes := #[]
  resolved := Array.replicate 124 none
  statics := none }

def pool1 : Array CpInfo := pool [(2, .class_ 4), (1, u "java/lang/Object"), (0, u "<init>"), (0, u "()V"), (0, .integer 2147483647), (0, .fieldref 9 10), (0, .class_ 11), (0, .nameAndType 12 13), (0, u "com/example/muster/muster/auction/Mechanism"), (0, u "UNIT_COST"), (0, u "Lcom/example/muster/muster/auction/Mechanism;"), (0, .fieldref 9 15), (0, .nameAndType 16 13), (0, u "COST_MIN"), (0, .fieldref 9 18), (0, .nameAndType 19 13), (0, u "ABILITY_MAX"), (0, .methodref 21 22), (0, .class_ 23), (0, .nameAndType 24 25), (0, u "com/example/muster/muster/auction/MechanismTiesPinLaw"), (0, u "pick"), (0, u "(I)Lcom/example/muster/muster/auction/Mechanism;"), (0, .methodref 9 27), (0, .nameAndType 28 29), (0, u "ties"), (0, u "(DD)Z"), (0, .integer 65535), (0, .integer 32768), (0, .double 4467902934002620053), (1, .double 4476910133257361045), (1, .double 13691274970857395861), (1, .double 4487126258331716666), (4, u "law"), (0, u "(IIIII)Z")] 2

def k1m0 : Method := { name := "<init>", desc := "()V", sig := { parameters := [], returnType := none }, accessFlags := 2, code := none }
def k1c1 : Code := { maxStack := 2, maxLocals := 2, code := method_2_code, exceptionTable := #[], attributes := #[] }
def k1m1 : Method := { name := "pick", desc := "(I)Lcom/example/muster/muster/auction/Mechanism;", sig := { parameters := [.int], returnType := some (.object "com/example/muster/muster/auction/Mechanism") }, accessFlags := 10, code := some k1c1 }
def k1c2 : Code := { maxStack := 5, maxLocals := 16, code := code, exceptionTable := #[], attributes := #[] }
def k1m2 : Method := { name := "law", desc := "(IIIII)Z", sig := { parameters := [.int, .int, .int, .int, .int], returnType := some .boolean }, accessFlags := 9, code := some k1c2 }
/-- com/example/muster/muster/auction/MechanismTiesPinLaw -/
def k1 : Class := { plain "com/example/muster/muster/auction/MechanismTiesPinLaw" (some 0) with
  accessFlags := 49
  interfaces := #[]
  cf := some (fileOf pool1 21 #[] #[{ accessFlags := 2, nameIndex := 5, descriptorIndex := 6, attributes := #[] }, { accessFlags := 10, nameIndex := 24, descriptorIndex := 25, attributes := #[] }, { accessFlags := 9, nameIndex := 43, descriptorIndex := 44, attributes := #[] }] 49 2 #[] #[])
  fields := #[]
  methods := #[k1m0, k1m1, k1m2]
  instanceTypes := #[]
  staticTypes := #[]
  resolved := Array.replicate 47 none
  statics := none }

def pool2 : Array CpInfo := pool [(1, .class_ 2), (0, u "java/lang/constant/Constable"), (0, .class_ 4), (0, u "java/lang/Object")] 6

/-- java/lang/constant/Constable -/
def k2 : Class := { plain "java/lang/constant/Constable" (some 0) with
  accessFlags := 1537
  interfaces := #[]
  cf := some (fileOf pool2 1 #[] #[] 1537 3 #[] #[])
  fields := #[]
  methods := #[]
  instanceTypes := #[]
  staticTypes := #[]
  resolved := Array.replicate 11 none
  statics := none }

def pool3 : Array CpInfo := pool [(1, .class_ 2), (0, u "java/lang/Comparable"), (0, .class_ 4), (0, u "java/lang/Object")] 7

/-- java/lang/Comparable -/
def k3 : Class := { plain "java/lang/Comparable" (some 0) with
  accessFlags := 1537
  interfaces := #[]
  cf := some (fileOf pool3 1 #[] #[] 1537 3 #[] #[])
  fields := #[]
  methods := #[]
  instanceTypes := #[]
  staticTypes := #[]
  resolved := Array.replicate 12 none
  statics := none }

def pool4 : Array CpInfo := pool [(1, .class_ 2), (0, u "java/io/Serializable"), (0, .class_ 4), (0, u "java/lang/Object")] 2

/-- java/io/Serializable -/
def k4 : Class := { plain "java/io/Serializable" (some 0) with
  accessFlags := 1537
  interfaces := #[]
  cf := some (fileOf pool4 1 #[] #[] 1537 3 #[] #[])
  fields := #[]
  methods := #[]
  instanceTypes := #[]
  staticTypes := #[]
  resolved := Array.replicate 7 none
  statics := none }

def pool5 : Array CpInfo := pool [(2, .class_ 4), (1, u "java/lang/Enum"), (0, u "name"), (0, u "Ljava/lang/String;"), (2, u "ordinal"), (0, u "I"), (1, .class_ 14), (1, u "java/lang/Object"), (4, u "hash"), (86, .class_ 108), (1, u "java/lang/Enum$EnumDesc"), (2, .class_ 112), (0, u "java/lang/constant/Constable"), (0, .class_ 114), (0, u "java/lang/Comparable"), (0, .class_ 116), (0, u "java/io/Serializable")] 87

/-- java/lang/Enum -/
def k5 : Class := { plain "java/lang/Enum" (some 0) with
  accessFlags := 1057
  interfaces := #[2, 3, 4]
  cf := some (fileOf pool5 2 #[.nestMembers #[106]] #[] 1057 12 #[111, 113, 115] #[{ accessFlags := 18, nameIndex := 5, descriptorIndex := 6, attributes := #[] }, { accessFlags := 18, nameIndex := 9, descriptorIndex := 10, attributes := #[] }, { accessFlags := 2, nameIndex := 19, descriptorIndex := 10, attributes := #[] }])
  fields := #[{ name := "name", type := (.object "java/lang/String"), accessFlags := 18, slot := 0, constantValue := 0 }, { name := "ordinal", type := .int, accessFlags := 18, slot := 1, constantValue := 0 }, { name := "hash", type := .int, accessFlags := 2, slot := 2, constantValue := 0 }]
  methods := #[]
  instanceTypes := #[(.object "java/lang/String"), .int, .int]
  staticTypes := #[]
  resolved := Array.replicate 204 none
  statics := none }

def pool6 : Array CpInfo := pool [(1, .class_ 2), (0, u "com/example/muster/muster/auction/Mechanism"), (2, u "UNIT_COST"), (0, u "Lcom/example/muster/muster/auction/Mechanism;"), (2, u "COST_MIN"), (2, u "ABILITY_MAX"), (2, u "$VALUES"), (0, u "[Lcom/example/muster/muster/auction/Mechanism;"), (6, .class_ 25), (1, u "java/lang/Enum"), (62, .double 4472406533629990549), (1, .class_ 91), (0, u "com/example/muster/muster/auction/Mechanism$1"), (2, .class_ 95), (0, u "com/example/muster/muster/auction/Mechanism$2"), (2, .class_ 99), (0, u "com/example/muster/muster/auction/Mechanism$3"), (18, u "ties"), (0, u "(DD)Z")] 21

def k6c0 : Code := { maxStack := 6, maxLocals := 5, code := prog_17_method_9_code, exceptionTable := #[], attributes := #[] }
def k6m0 : Method := { name := "ties", desc := "(DD)Z", sig := { parameters := [.double, .double], returnType := some .boolean }, accessFlags := 0, code := some k6c0 }
/-- com/example/muster/muster/auction/Mechanism -/
def k6 : Class := { plain "com/example/muster/muster/auction/Mechanism" (some 5) with
  accessFlags := 17441
  interfaces := #[]
  cf := some (fileOf pool6 1 #[.nestMembers #[98, 94, 90]] #[{ accessFlags := 0, nameIndex := 118, descriptorIndex := 119, attributes := #[] }] 17441 23 #[] #[{ accessFlags := 16409, nameIndex := 5, descriptorIndex := 6, attributes := #[] }, { accessFlags := 16409, nameIndex := 9, descriptorIndex := 6, attributes := #[] }, { accessFlags := 16409, nameIndex := 12, descriptorIndex := 6, attributes := #[] }, { accessFlags := 4122, nameIndex := 15, descriptorIndex := 16, attributes := #[] }])
  fields := #[{ name := "UNIT_COST", type := (.object "com/example/muster/muster/auction/Mechanism"), accessFlags := 16409, slot := 0, constantValue := 0 }, { name := "COST_MIN", type := (.object "com/example/muster/muster/auction/Mechanism"), accessFlags := 16409, slot := 1, constantValue := 0 }, { name := "ABILITY_MAX", type := (.object "com/example/muster/muster/auction/Mechanism"), accessFlags := 16409, slot := 2, constantValue := 0 }, { name := "$VALUES", type := (.array (.object "com/example/muster/muster/auction/Mechanism")), accessFlags := 4122, slot := 3, constantValue := 0 }]
  methods := #[k6m0]
  instanceTypes := #[(.object "java/lang/String"), .int, .int]
  staticTypes := #[(.object "com/example/muster/muster/auction/Mechanism"), (.object "com/example/muster/muster/auction/Mechanism"), (.object "com/example/muster/muster/auction/Mechanism"), (.array (.object "com/example/muster/muster/auction/Mechanism"))]
  resolved := Array.replicate 141 none
  statics := some 0 }

def pool7 : Array CpInfo := pool [(2, .class_ 4), (1, u "com/example/muster/muster/auction/Mechanism"), (2, .class_ 8), (0, u "com/example/muster/muster/auction/Mechanism$1")] 10

/-- com/example/muster/muster/auction/Mechanism$1 -/
def k7 : Class := { plain "com/example/muster/muster/auction/Mechanism$1" (some 6) with
  accessFlags := 16432
  interfaces := #[]
  cf := some (fileOf pool7 7 #[.nestHost 2] #[] 16432 2 #[] #[])
  fields := #[]
  methods := #[]
  instanceTypes := #[(.object "java/lang/String"), .int, .int]
  staticTypes := #[]
  resolved := Array.replicate 19 none
  statics := none }

def pool8 : Array CpInfo := pool [(2, .class_ 4), (1, u "com/example/muster/muster/auction/Mechanism"), (2, .class_ 8), (0, u "com/example/muster/muster/auction/Mechanism$3")] 13

/-- com/example/muster/muster/auction/Mechanism$3 -/
def k8 : Class := { plain "com/example/muster/muster/auction/Mechanism$3" (some 6) with
  accessFlags := 16432
  interfaces := #[]
  cf := some (fileOf pool8 7 #[.nestHost 2] #[] 16432 2 #[] #[])
  fields := #[]
  methods := #[]
  instanceTypes := #[(.object "java/lang/String"), .int, .int]
  staticTypes := #[]
  resolved := Array.replicate 22 none
  statics := none }

def pool9 : Array CpInfo := pool [(2, .class_ 4), (1, u "com/example/muster/muster/auction/Mechanism"), (2, .class_ 8), (0, u "com/example/muster/muster/auction/Mechanism$2")] 10

/-- com/example/muster/muster/auction/Mechanism$2 -/
def k9 : Class := { plain "com/example/muster/muster/auction/Mechanism$2" (some 6) with
  accessFlags := 16432
  interfaces := #[]
  cf := some (fileOf pool9 7 #[.nestHost 2] #[] 16432 2 #[] #[])
  fields := #[]
  methods := #[]
  instanceTypes := #[(.object "java/lang/String"), .int, .int]
  staticTypes := #[]
  resolved := Array.replicate 19 none
  statics := none }

def pool10 : Array CpInfo := pool [(1, u "java/lang/Cloneable"), (0, .class_ 1), (0, u "java/lang/Object"), (0, .class_ 3)] 3

/-- java/lang/Cloneable -/
def k10 : Class := { plain "java/lang/Cloneable" (some 0) with
  accessFlags := 1537
  interfaces := #[]
  cf := some (fileOf pool10 2 #[] #[] 1537 4 #[] #[])
  fields := #[]
  methods := #[]
  instanceTypes := #[]
  staticTypes := #[]
  resolved := Array.replicate 8 none
  statics := none }

/-- the primitive byte -/
def k11 : Class := { plain "byte" none with kind := .primitive 'B', accessFlags := 0x411 }
/-- [B -/
def k12 : Class := { plain "[B" (some 0) with kind := .array 11 .byte, interfaces := #[10, 4], accessFlags := 1041 }

/-- the primitive int -/
def k13 : Class := { plain "int" none with kind := .primitive 'I', accessFlags := 0x411 }
/-- [I -/
def k14 : Class := { plain "[I" (some 0) with kind := .array 13 .int, interfaces := #[10, 4], accessFlags := 1041 }

def heap : Heap := #[{ cls := 6, slots := #[.ref 1, .ref 2, .ref 3, .null], vm := .statics 6 },
  { cls := 7, slots := #[.null, .int 0, .int 0], vm := .none },
  { cls := 9, slots := #[.null, .int 0, .int 0], vm := .none },
  { cls := 8, slots := #[.null, .int 0, .int 0], vm := .none }]
def classes : Array Class := #[k0, k1, k2, k3, k4, k5, k6, k7, k8, k9, k10, k11, k12, k13, k14]
def interned : List (Array UInt16 × Addr) := []
def slotsUsed : Nat := 13
def theMethod : MethodId := ⟨1, 2⟩
def args0 : Array Value := #[.int 3, .int 4, .int 5, .int 6, .int 7]
def aboutOver (below : List Frame) : State where
  vm := { classes := classes, interned := interned.toArray }
  heap := heap
  slotsUsed := slotsUsed
  threads := #[{ frames := .invoking theMethod args0 :: below }]
def below0 : List Frame := [.native { method := ⟨0, 0⟩, args := #[] }]
def about1 : State := aboutOver below0
def p0 : Program := .bare "" "" ""
def e0 : Env := launch0.env 0 0 0
theorem w_frames : about1.frames = Frame.invoking theMethod args0 :: below0 := rfl
set_option maxRecDepth 65536 in
theorem w_args : argsFit about1.vm theMethod args0 = true := by decide +kernel
set_option maxRecDepth 65536 in
theorem w_heap : heapFits about1 = true := by decide +kernel
set_option maxRecDepth 65536 in
theorem w_runnable : about1.curStatus? = some .runnable := by decide +kernel
set_option maxRecDepth 65536 in
theorem w_alone : about1.alone = true := by decide +kernel
set_option maxRecDepth 65536 in
theorem w_named : about1.methodNamed? x = some theMethod := by decide +kernel
set_option maxRecDepth 65536 in
theorem w_hears : about1.hears theMethod below0 = true := by decide +kernel
set_option maxRecDepth 65536 in
theorem w_ripe : about1.ripe theMethod args0 below0 = true := by decide +kernel
theorem w_running : about1.status = .running := rfl
set_option maxRecDepth 65536 in
theorem w_room : about1.hasRoom e0.platform room_1 = true :=
  launch0.hasRoom_least _ room_1 (by decide +kernel) (by decide +kernel) (by decide +kernel) (by decide +kernel) (by decide +kernel) (by decide +kernel)
theorem allAtoms_all (ts : List Jvm.Cond) (a : Array Jvm.Value) (st : Jvm.State) : (allAtoms ts).before a st = ts.all (fun c => c.before a st) := by
  induction ts with
  | nil => rfl
  | cons c t ih =>
    show (Jvm.Cond.and c (allAtoms t)).before a st = _
    rw [Jvm.Cond.before_and, ih, List.all_cons]
def words1 : List Jvm.Cond := Jvm.Cond.code x code maxLocals ret :: tables_1
/-- a 'code' word, met by the world's own term for the bytes: nothing is compared byte by byte -/
theorem code_word {y : MethodName} {bytes : ByteArray} {mx : Nat} {rt : Option FieldType} {a : Array Value} {s : State} {m : MethodId} {meth : Method} {c : Code} (h1 : s.methodNamed? y = some m) (h2 : s.vm.method? m = some meth) (h3 : meth.code = some c) (h4 : c.code = bytes)
    (h5 : (c.maxLocals == mx && c.exceptionTable.isEmpty && decide (c.maxStack ≤ mostOperands) && decide (meth.sig.returnType = rt) && !meth.locks && decide (parseMethodDescriptor y.desc = some meth.sig)) = true) : (Jvm.Cond.code y bytes mx rt).before a s = true := by
  simp only [Bool.and_eq_true, beq_iff_eq, Bool.not_eq_true', decide_eq_true_eq] at h5
  obtain ⟨⟨⟨⟨⟨g1, g2⟩, g3⟩, g4⟩, g5⟩, g6⟩ := h5
  simp [Cond.before, Cond.holds, Cond.value, h1, h2, h3, h4, g1, g2, g3, g4, g5, g6]
def isCode : Jvm.Cond → Bool
  | .code _ _ _ _ => true
  | _ => false
theorem all_split {L : List Jvm.Cond} {P : Jvm.Cond → Bool} (h1 : L.all (fun c => isCode c || P c) = true) (h2 : ∀ c ∈ L.filter isCode, P c = true) : L.all P = true := by
  refine List.all_eq_true.mpr fun c hc => ?_
  have h := List.all_eq_true.mp h1 c hc
  rcases Bool.eq_false_or_eq_true (isCode c) with hi | hi
  · exact h2 c (List.mem_filter.mpr ⟨hc, hi⟩)
  · simpa [hi] using h
set_option maxRecDepth 65536 in
theorem w_c0 : (Jvm.Cond.code x code maxLocals ret).before args0 about1 = true := code_word (m := ⟨1, 2⟩) (meth := k1m2) (c := k1c2) (by decide +kernel) rfl rfl rfl (by decide +kernel)
set_option maxRecDepth 65536 in
theorem w_c1 : (Jvm.Cond.code ({ cls := "com/example/muster/muster/auction/MechanismTiesPinLaw", name := "pick", desc := "(I)Lcom/example/muster/muster/auction/Mechanism;" } : Jvm.MethodName) method_2_code (2 : Nat) (Option.some (Jvm.ClassFile.FieldType.object "com/example/muster/muster/auction/Mechanism"))).before args0 about1 = true := code_word (m := ⟨1, 1⟩) (meth := k1m1) (c := k1c1) (by decide +kernel) rfl rfl rfl (by decide +kernel)
set_option maxRecDepth 65536 in
theorem w_c2 : (Jvm.Cond.code ({ cls := "com/example/muster/muster/auction/Mechanism", name := "ties", desc := "(DD)Z" } : Jvm.MethodName) prog_17_method_9_code (5 : Nat) (Option.some Jvm.ClassFile.FieldType.boolean)).before args0 about1 = true := code_word (m := ⟨6, 0⟩) (meth := k6m0) (c := k6c0) (by decide +kernel) rfl rfl rfl (by decide +kernel)
def codes1 : List Jvm.Cond := [Jvm.Cond.code x code maxLocals ret, Jvm.Cond.code ({ cls := "com/example/muster/muster/auction/MechanismTiesPinLaw", name := "pick", desc := "(I)Lcom/example/muster/muster/auction/Mechanism;" } : Jvm.MethodName) method_2_code (2 : Nat) (Option.some (Jvm.ClassFile.FieldType.object "com/example/muster/muster/auction/Mechanism")), Jvm.Cond.code ({ cls := "com/example/muster/muster/auction/Mechanism", name := "ties", desc := "(DD)Z" } : Jvm.MethodName) prog_17_method_9_code (5 : Nat) (Option.some Jvm.ClassFile.FieldType.boolean)]
set_option maxRecDepth 65536 in
theorem codes_eq : words1.filter isCode = codes1 := rfl
theorem w_codes : ∀ c ∈ words1.filter isCode, c.before args0 about1 = true := by
  rw [codes_eq]
  intro c hc
  simp only [codes1, List.mem_cons, List.not_mem_nil, or_false] at hc
  rcases hc with rfl | rfl | rfl
  · exact w_c0
  · exact w_c1
  · exact w_c2
set_option maxRecDepth 65536 in
theorem w_t1 : (words1.take 24).all (fun c => isCode c || c.before args0 about1) = true := by decide +kernel
set_option maxRecDepth 65536 in
theorem w_t2 : (words1.drop 24).all (fun c => isCode c || c.before args0 about1) = true := by decide +kernel
theorem w_tables : (allAtoms (Jvm.Cond.code x code maxLocals ret :: tables_1)).before args0 about1 = true := by
  rw [allAtoms_all]
  show words1.all (fun c => c.before args0 about1) = true
  refine all_split ?_ w_codes
  rw [← List.take_append_drop 24 words1, List.all_append, w_t1, w_t2]
  rfl
set_option maxRecDepth 65536 in
theorem w_case : (Jvm.Cond.and given_1 narrow_1).before args0 about1 = true := by decide +kernel
theorem w_applies : (headSpec (Jvm.Cond.code x code maxLocals ret :: tables_1) room_1).applies x e0.platform about1 = true :=
  (Spec.applies_iff w_frames).mpr ⟨w_running, w_runnable, w_alone, w_named, w_hears, w_ripe, w_room, w_tables⟩
theorem atStart : AtStart classFile x code maxLocals ret World_1 tables_1 room_1 Calls_1 rest_1 Pre_1 launch0 p0 e0 about1 theMethod args0 below0 :=
  ⟨lists_1, trivial, launch0.admits_env _ _ _, launch0.least_env, fairChoices_fair.cas, fairChoices_fair.clock, w_frames, w_args, w_heap, w_applies, trivial, trivial, w_case⟩
end start1
theorem witness_1 : WitnessClaimed_1 := ⟨start1.p0, start1.e0, start1.about1, start1.theMethod, start1.args0, start1.below0, start1.atStart⟩
end Jvm.Pilot.@@N@@
