import JvmDerived
import JvmDerived.Pilot.@@N@@Statement
import JvmDerived.Pilot.@@N@@Code
set_option linter.unusedVariables false
set_option linter.unusedSimpArgs false
@@BLOCK:NumsL.lean.txt@@
namespace Jvm.RoadKit
open Sem ClassFile Op Lib Jvm.Stand Jvm.Free Jvm.LawKit
section New
variable {p : Program} {l : Launch} {e : Env} {R : Room} {s : State} {m : MethodId} {args : Array Value} {below : List Frame} {meth : Method} {c : Code} {T : State} {locs : List Loc} {cells slots : Nat}
theorem retI (X : Stand p l e R s m args below meth c T locs cells slots) (hx : p.tables.exec = Jvm.exec) {pc : Nat} {Ls : Array Slot} {z : Int32} {rest : List Value} (hret : meth.sig.returnType = some .int) (hd : decode c.code pc = .ok (.ireturn, 1)) {fs : List Frame}
    (hl : ∀ (f : JFrame) (acts : List Action), f.method = m → f.locked = none → f.entered = [] → (doReturn e (T.setTop f) acts (some (.int z))).1 = T.setFrames fs) : Steps p.tables e below (T.setTop (mkF m pc Ls (.int z :: rest))) (T.setFrames fs) := by
  have hm' : T.vm.method? m = some meth := X.method'
  have hn : narrow .int (.int z) = .int z := rfl
  show Steps p.tables e below (T.setTop { method := m, pc := pc, locals := Ls, stack := _ :: rest, locked := none }) _
  jvm_step X.here [X.here.top, hx, hd, hm', hret, hn]
  first | (intro acts; rw [hl _ acts rfl rfl rfl]) | rw [hl _ _ rfl rfl rfl]
  exact Steps.refl _
end New
end Jvm.RoadKit
namespace Jvm.Pilot.@@N@@
open Jvm Jvm.ClassFile Sem Op Lib Jvm.Free Jvm.Stand Jvm.LawKit Jvm.RoadKit Bundle Jvm.Pilot.@@N@@.Jvm.D
/-! own text: doubles as whole numbers of 2^-1074 (own_Fin), what a double can hold (own_Rep), and the four operations by bounds -/
def own_Rep (z : Int) : Prop := ∃ (s : Bool) (c : Nat) (q : Int), FP.Core.fits FP.Core.b64 (.fin s c q) ∧ FP.Core.zval FP.Core.b64 (.fin s c q) = z
def own_Fin (a : UInt64) (z : Int) : Prop := FP.Core.DFin a ∧ FP.Core.zval FP.Core.b64 (FP.Core.val64 a) = z
def own_U : Int := ((FP.Core.one64 : Nat) : Int)
theorem own_U_pos : 0 < own_U := Int.natCast_pos.mpr FP.Core.one64_pos
theorem own_U_lit : own_U = 202402253307310618352495346718917307049556649764142118356901358027430339567995346891960383701437124495187077864316811911389808737385793476867013399940738509921517424276566361364466907742093216341239767678472745068562007483424692698618103355649159556340810056512358769552333414615230502532186327508646006263307707741093494784 := by decide +kernel
theorem own_Fin.rep {a : UInt64} {z : Int} (h : own_Fin a z) : own_Rep z := by
  obtain ⟨⟨s, c, q, e⟩, h⟩ := h
  refine ⟨s, c, q, ?_, ?_⟩
  · rw [← e]; exact FP.Core.val64_fits a
  · rw [← e]; exact h
theorem own_Fin.ne {a : UInt64} {z : Int} (h : own_Fin a z) : FP.Core.val64 a ≠ .nan := h.1.ne_nan
theorem own_Fin.nn {a : UInt64} {z : Int} (h : own_Fin a z) : Jvm.Free.Fl.NoNaN64 a := Jvm.Free.Fl.val64_no.mpr h.ne
def own_Val (a : UInt64) (z : Int) : Prop := FP.Core.val64 a ≠ .nan ∧ FP.Core.zval FP.Core.b64 (FP.Core.val64 a) = z
theorem own_Fin.v {a : UInt64} {z : Int} (h : own_Fin a z) : own_Val a z := ⟨h.ne, h.2⟩
theorem own_Val.nn {a : UInt64} {z : Int} (h : own_Val a z) : Jvm.Free.Fl.NoNaN64 a := Jvm.Free.Fl.val64_no.mpr h.1
theorem own_Fin.cast {a : UInt64} {z w : Int} (h : own_Fin a z) (e : z = w) : own_Fin a w := e ▸ h
theorem own_signed_le (s : Bool) (n : Nat) : FP.Core.signed s n ≤ (n : Int) ∧ -(n : Int) ≤ FP.Core.signed s n := by
  cases s <;> simp only [FP.Core.signed, if_true, Bool.false_eq_true, if_false] <;> omega
theorem own_zval_inf (f : FP.Core.Fmt) (s : Bool) : FP.Core.zval f (.inf s) = FP.Core.signed s (f.tails * 2 ^ (f.exps - 2)) := rfl
theorem own_zval_fin (f : FP.Core.Fmt) (s : Bool) (c : Nat) (q : Int) : FP.Core.zval f (.fin s c q) = FP.Core.signed s (FP.Core.inUnits c q f.qmin) := rfl
theorem own_Rep.lt {z : Int} (h : own_Rep z) : z < ((FP.Core.b64.tails * 2 ^ (FP.Core.b64.exps - 2) : Nat) : Int) ∧ -((FP.Core.b64.tails * 2 ^ (FP.Core.b64.exps - 2) : Nat) : Int) < z := by
  obtain ⟨s, c, q, hf, rfl⟩ := h
  have h1 := FP.Core.zmag_lt_top FP.Core.good_b64 hf
  have h2 := own_signed_le s (FP.Core.inUnits c q FP.Core.b64.qmin)
  rw [own_zval_fin]
  generalize FP.Core.inUnits c q FP.Core.b64.qmin = n at *
  generalize FP.Core.b64.tails * 2 ^ (FP.Core.b64.exps - 2) = t at *
  omega
theorem own_fin_of {r : UInt64} {lo hi : Int} (hn : FP.Core.val64 r ≠ .nan) (rl : own_Rep lo) (rh : own_Rep hi) (h1 : lo ≤ FP.Core.zval FP.Core.b64 (FP.Core.val64 r)) (h2 : FP.Core.zval FP.Core.b64 (FP.Core.val64 r) ≤ hi) :
    ∃ z, own_Fin r z ∧ lo ≤ z ∧ z ≤ hi := by
  refine ⟨_, ⟨?_, rfl⟩, h1, h2⟩
  have a := rl.lt
  have b := rh.lt
  cases hv : FP.Core.val64 r with
  | nan => exact absurd hv hn
  | fin s c q => exact ⟨s, c, q, hv⟩
  | inf s =>
    exfalso
    rw [hv, own_zval_inf] at h1 h2
    generalize FP.Core.b64.tails * 2 ^ (FP.Core.b64.exps - 2) = t at *
    cases s <;> simp only [FP.Core.signed, if_true, Bool.false_eq_true, if_false] at h1 h2 <;> omega
theorem own_add {a b : UInt64} {x y lo hi : Int} (ha : own_Fin a x) (hb : own_Fin b y) (rl : own_Rep lo) (rh : own_Rep hi) (h1 : lo ≤ x + y) (h2 : x + y ≤ hi) : ∃ z, own_Fin (FP.dadd a b) z ∧ lo ≤ z ∧ z ≤ hi := by
  obtain ⟨s1, c1, q1, f1, e1⟩ := id rl
  obtain ⟨s2, c2, q2, f2, e2⟩ := id rh
  have ev : FP.Core.val64 (FP.dadd a b) = _ := FP.Core.val64_dadd a b
  refine own_fin_of ((FP.Core.notNaN_iff _).mp (FP.Core.dadd_out ha.1.notNaN hb.1)) rl rh ?_ ?_
  · rw [ev, ← e1]
    exact FP.Core.sum_ge FP.Core.good_b64 ha.1 hb.1 (FP.Core.val64_fits a) (FP.Core.val64_fits b) f1 (fun q => nomatch q) (by rw [e1, ha.2, hb.2]; exact h1)
  · rw [ev, ← e2]
    exact FP.Core.sum_le FP.Core.good_b64 ha.1 hb.1 (FP.Core.val64_fits a) (FP.Core.val64_fits b) f2 (fun q => nomatch q) (by rw [e2, ha.2, hb.2]; exact h2)
theorem own_add_e {a b : UInt64} {x y : Int} (ha : own_Fin a x) (hb : own_Fin b y) (r : own_Rep (x + y)) : own_Fin (FP.dadd a b) (x + y) := by
  obtain ⟨z, h, h1, h2⟩ := own_add ha hb r r (Int.le_refl _) (Int.le_refl _)
  exact h.cast (Int.le_antisymm h2 h1)
theorem own_fin_negate {d : FP.Core.Datum} (h : ∃ s c q, d = .fin s c q) : ∃ s c q, FP.Core.negate d = .fin s c q := by
  obtain ⟨s, c, q, rfl⟩ := h
  exact ⟨!s, c, q, rfl⟩
theorem own_sub {a b : UInt64} {x y lo hi : Int} (ha : own_Fin a x) (hb : own_Fin b y) (rl : own_Rep lo) (rh : own_Rep hi) (h1 : lo ≤ x - y) (h2 : x - y ≤ hi) : ∃ z, own_Fin (FP.dsub a b) z ∧ lo ≤ z ∧ z ≤ hi := by
  obtain ⟨s1, c1, q1, f1, e1⟩ := id rl
  obtain ⟨s2, c2, q2, f2, e2⟩ := id rh
  have ev : FP.Core.val64 (FP.dsub a b) = _ := FP.Core.val64_dsub a b
  refine own_fin_of ((FP.Core.notNaN_iff _).mp (FP.Core.dsub_out ha.1.notNaN hb.1)) rl rh ?_ ?_
  · rw [ev, ← e1]
    exact FP.Core.sum_ge FP.Core.good_b64 ha.1 (own_fin_negate hb.1) (FP.Core.val64_fits a) (FP.Core.negate_fits (FP.Core.val64_fits b)) f1 (fun q => nomatch q) (by rw [e1, ha.2, FP.Core.zval_negate, hb.2]; omega)
  · rw [ev, ← e2]
    exact FP.Core.sum_le FP.Core.good_b64 ha.1 (own_fin_negate hb.1) (FP.Core.val64_fits a) (FP.Core.negate_fits (FP.Core.val64_fits b)) f2 (fun q => nomatch q) (by rw [e2, ha.2, FP.Core.zval_negate, hb.2]; omega)
theorem own_sub_e {a b : UInt64} {x y : Int} (ha : own_Fin a x) (hb : own_Fin b y) (r : own_Rep (x - y)) : own_Fin (FP.dsub a b) (x - y) := by
  obtain ⟨z, h, h1, h2⟩ := own_sub ha hb r r (Int.le_refl _) (Int.le_refl _)
  exact h.cast (Int.le_antisymm h2 h1)
theorem own_qq : (FP.Core.b64.qmin - 2 * FP.Core.b64.qmin).toNat = (-FP.Core.b64.qmin).toNat := by rw [FP.Core.qmin_b64]; rfl
theorem own_mul_ge {a b : UInt64} {x y lo : Int} (ha : own_Fin a x) (hb : own_Fin b y) (rl : own_Rep lo) (h1 : lo * own_U ≤ x * y) : lo ≤ FP.Core.zval FP.Core.b64 (FP.Core.val64 (FP.dmul a b)) := by
  obtain ⟨s1, c1, q1, f1, e1⟩ := id rl
  obtain ⟨s, c, q, ea⟩ := id ha.1
  obtain ⟨t, d, r, eb⟩ := id hb.1
  have fa := FP.Core.val64_fits a
  have fb := FP.Core.val64_fits b
  have za := ha.2
  have zb := hb.2
  have ev : FP.Core.val64 (FP.dmul a b) = _ := FP.Core.val64_dmul a b
  rw [ea] at fa za ev
  rw [eb] at fb zb ev
  obtain ⟨p1, p2, p3⟩ := FP.Core.product_units fa fb
  rw [p1] at ev
  have hq : 2 * FP.Core.b64.qmin ≤ FP.Core.b64.qmin := by rw [FP.Core.qmin_b64]; decide
  have hs : FP.Core.signed (s != t) (FP.Core.inUnits (c * d) (q + r) (2 * FP.Core.b64.qmin)) = x * y := by
    rw [p3, FP.Core.signed_xor, ← za, ← zb]; rfl
  have hu : ((2 ^ (FP.Core.b64.qmin - 2 * FP.Core.b64.qmin).toNat : Nat) : Int) = own_U := by rw [own_qq, FP.Core.pow_qmin64]; rfl
  rw [ev, ← e1]
  exact FP.Core.zval_round_ge FP.Core.good_b64 f1 (fun q => nomatch q) hq p2 (by rw [hs, hu, e1]; exact h1)
theorem own_mul_le {a b : UInt64} {x y hi : Int} (ha : own_Fin a x) (hb : own_Fin b y) (rh : own_Rep hi) (h2 : x * y ≤ hi * own_U) : FP.Core.zval FP.Core.b64 (FP.Core.val64 (FP.dmul a b)) ≤ hi := by
  obtain ⟨s2, c2, q2, f2, e2⟩ := id rh
  obtain ⟨s, c, q, ea⟩ := id ha.1
  obtain ⟨t, d, r, eb⟩ := id hb.1
  have fa := FP.Core.val64_fits a
  have fb := FP.Core.val64_fits b
  have za := ha.2
  have zb := hb.2
  have ev : FP.Core.val64 (FP.dmul a b) = _ := FP.Core.val64_dmul a b
  rw [ea] at fa za ev
  rw [eb] at fb zb ev
  obtain ⟨p1, p2, p3⟩ := FP.Core.product_units fa fb
  rw [p1] at ev
  have hq : 2 * FP.Core.b64.qmin ≤ FP.Core.b64.qmin := by rw [FP.Core.qmin_b64]; decide
  have hs : FP.Core.signed (s != t) (FP.Core.inUnits (c * d) (q + r) (2 * FP.Core.b64.qmin)) = x * y := by
    rw [p3, FP.Core.signed_xor, ← za, ← zb]; rfl
  have hu : ((2 ^ (FP.Core.b64.qmin - 2 * FP.Core.b64.qmin).toNat : Nat) : Int) = own_U := by rw [own_qq, FP.Core.pow_qmin64]; rfl
  rw [ev, ← e2]
  exact FP.Core.zval_round_le FP.Core.good_b64 f2 (fun q => nomatch q) hq p2 (by rw [hs, hu, e2]; exact h2)
theorem own_mul_ne {a b : UInt64} {x y : Int} (ha : own_Fin a x) (hb : own_Fin b y) : FP.Core.val64 (FP.dmul a b) ≠ .nan := (FP.Core.notNaN_iff _).mp (FP.Core.dmul_out ha.1 hb.1)
theorem own_mul {a b : UInt64} {x y lo hi : Int} (ha : own_Fin a x) (hb : own_Fin b y) (rl : own_Rep lo) (rh : own_Rep hi) (h1 : lo * own_U ≤ x * y) (h2 : x * y ≤ hi * own_U) : ∃ z, own_Fin (FP.dmul a b) z ∧ lo ≤ z ∧ z ≤ hi :=
  own_fin_of (own_mul_ne ha hb) rl rh (own_mul_ge ha hb rl h1) (own_mul_le ha hb rh h2)
theorem own_mul_e {a b : UInt64} {x y z : Int} (ha : own_Fin a x) (hb : own_Fin b y) (r : own_Rep z) (e : x * y = z * own_U) : own_Fin (FP.dmul a b) z := by
  obtain ⟨w, h, h1, h2⟩ := own_mul ha hb r r (Int.le_of_eq e.symm) (Int.le_of_eq e)
  exact h.cast (Int.le_antisymm h2 h1)
theorem own_ratio_units {c d : Nat} {q r m : Int} (hq : m ≤ q) (hr : m ≤ r) (hm : m < 0) :
    FP.Core.inUnits c (q - r) (m + m - r) = FP.Core.inUnits c q m * 2 ^ (-m).toNat ∧ ∀ v : Nat, v * 2 ^ (m - (m + m - r)).toNat * d = v * FP.Core.inUnits d r m := by
  constructor
  · unfold FP.Core.inUnits
    rw [show (q - r - (m + m - r)).toNat = (q - m).toNat + (-m).toNat by omega, Nat.pow_add, Nat.mul_assoc]
  · intro v
    unfold FP.Core.inUnits
    rw [show (m - (m + m - r)).toNat = (r - m).toNat by omega, Nat.mul_assoc, Nat.mul_comm d]
theorem own_ratio_le {s s' t : Bool} {c d : Nat} {q r : Int} {V : FP.Core.Datum} (hx : FP.Core.fits FP.Core.b64 (.fin s c q)) (hy : FP.Core.fits FP.Core.b64 (.fin t d r)) (hd : 0 < d) (hV : FP.Core.fits FP.Core.b64 V) (hn : V ≠ .nan)
    (h : FP.Core.inUnits c q FP.Core.b64.qmin * FP.Core.one64 ≤ FP.Core.zmag FP.Core.b64 V * FP.Core.inUnits d r FP.Core.b64.qmin) : FP.Core.zmag FP.Core.b64 (FP.Core.roundRatio FP.Core.b64 s' c d (q - r)) ≤ FP.Core.zmag FP.Core.b64 V := by
  have hm : FP.Core.b64.qmin < 0 := by rw [FP.Core.qmin_b64]; decide
  obtain ⟨u1, u2⟩ := own_ratio_units (c := c) (d := d) hx.2.1 hy.2.1 hm
  have hqx := hx.2.1
  have hqy := hy.2.1
  refine FP.Core.zmag_roundRatio_le FP.Core.good_b64 (e0 := FP.Core.b64.qmin + FP.Core.b64.qmin - r) hd hV hn (by omega) (by omega) ?_
  rw [u1, u2, FP.Core.pow_qmin64]; exact h
theorem own_ratio_ge {s s' t : Bool} {c d : Nat} {q r : Int} {V : FP.Core.Datum} (hx : FP.Core.fits FP.Core.b64 (.fin s c q)) (hy : FP.Core.fits FP.Core.b64 (.fin t d r)) (hd : 0 < d) (hV : FP.Core.fits FP.Core.b64 V)
    (h : FP.Core.zmag FP.Core.b64 V * FP.Core.inUnits d r FP.Core.b64.qmin ≤ FP.Core.inUnits c q FP.Core.b64.qmin * FP.Core.one64) : FP.Core.zmag FP.Core.b64 V ≤ FP.Core.zmag FP.Core.b64 (FP.Core.roundRatio FP.Core.b64 s' c d (q - r)) := by
  have hm : FP.Core.b64.qmin < 0 := by rw [FP.Core.qmin_b64]; decide
  obtain ⟨u1, u2⟩ := own_ratio_units (c := c) (d := d) hx.2.1 hy.2.1 hm
  have hqx := hx.2.1
  have hqy := hy.2.1
  refine FP.Core.zmag_roundRatio_ge FP.Core.good_b64 (e0 := FP.Core.b64.qmin + FP.Core.b64.qmin - r) hd hV (by omega) (by omega) ?_
  rw [u1, u2, FP.Core.pow_qmin64]; exact h
theorem own_quot {a b : UInt64} {y : Int} {s : Bool} {c : Nat} {q : Int} (ea : FP.Core.val64 a = .fin s c q) (hb : own_Fin b y) (hy : 0 < y) :
    ∃ d r, FP.Core.val64 b = .fin false d r ∧ 0 < d ∧ y = ((FP.Core.inUnits d r FP.Core.b64.qmin : Nat) : Int) ∧ FP.Core.val64 (FP.ddiv a b) = FP.Core.roundRatio FP.Core.b64 s c d (q - r) := by
  obtain ⟨t, d, r, eb⟩ := id hb.1
  have zb := hb.2
  rw [eb, own_zval_fin] at zb
  obtain ⟨k1, k2⟩ := FP.Core.signed_pos (s := t) (m := FP.Core.inUnits d r FP.Core.b64.qmin) (by rw [zb]; exact hy)
  have ht : t = false := by
    cases t with
    | false => rfl
    | true =>
      simp only [FP.Core.signed, if_true] at k1; omega
  subst ht
  have hd : 0 < d := by
    rcases Nat.eq_zero_or_pos d with h | h
    · subst h; unfold FP.Core.inUnits at k2; omega
    · exact h
  refine ⟨d, r, eb, hd, by rw [← zb, k1], ?_⟩
  have ev : FP.Core.val64 (FP.ddiv a b) = _ := FP.Core.val64_ddiv a b
  rw [ea, eb] at ev
  rw [ev]
  show (if d = 0 then _ else FP.Core.roundRatio FP.Core.b64 (s != false) c d (q - r)) = _
  rw [if_neg (Nat.pos_iff_ne_zero.mp hd)]
  cases s <;> rfl
theorem own_div_le {a b : UInt64} {x y hi : Int} (ha : own_Fin a x) (hb : own_Fin b y) (hy : 0 < y) (rh : own_Rep hi) (h2 : x * own_U ≤ hi * y) : FP.Core.zval FP.Core.b64 (FP.Core.val64 (FP.ddiv a b)) ≤ hi := by
  obtain ⟨s2, c2, q2, f2, e2⟩ := id rh
  obtain ⟨s, c, q, ea⟩ := id ha.1
  obtain ⟨d, r, eb, hd, ey, ev⟩ := own_quot ea hb hy
  have fa := FP.Core.val64_fits a
  have fb := FP.Core.val64_fits b
  have za := ha.2
  rw [ea] at fa za
  rw [eb] at fb
  have l1 := own_ratio_le (s' := s) fa fb hd f2 (fun q => nomatch q)
  have l2 := own_ratio_ge (s' := s) fa fb hd f2
  have hY : 0 < FP.Core.inUnits d r FP.Core.b64.qmin := by omega
  rw [ev, ← e2]
  unfold FP.Core.zval
  rw [FP.Core.sgn_roundRatio]
  rw [own_zval_fin] at za
  have e2' : FP.Core.signed s2 (FP.Core.zmag FP.Core.b64 (.fin s2 c2 q2)) = hi := e2
  show FP.Core.signed s _ ≤ FP.Core.signed s2 _
  rw [← e2', ← za, ey] at h2
  unfold own_U at h2
  rw [← FP.Core.signed_mul, ← FP.Core.signed_mul] at h2
  generalize FP.Core.zmag FP.Core.b64 (FP.Core.roundRatio FP.Core.b64 s c d (q - r)) = zR at *
  generalize FP.Core.zmag FP.Core.b64 (.fin s2 c2 q2) = v at *
  have hz : v * FP.Core.inUnits d r FP.Core.b64.qmin = 0 → v = 0 := fun h => (Nat.mul_eq_zero.mp h).resolve_right (by omega)
  generalize v * FP.Core.inUnits d r FP.Core.b64.qmin = B at *
  generalize FP.Core.inUnits c q FP.Core.b64.qmin * FP.Core.one64 = A at *
  cases s <;> cases s2 <;> simp only [FP.Core.signed, if_true, Bool.false_eq_true, if_false] at h2 ⊢
  · have := l1 (by omega); omega
  · have := l1 (by omega); have := hz (by omega); omega
  · omega
  · have := l2 (by omega); omega
theorem own_neg {a : UInt64} {x : Int} (ha : own_Fin a x) : own_Fin (FP.dneg a) (-x) := by
  have e : FP.Core.val64 (FP.dneg a) = _ := FP.val64_dneg a
  refine ⟨?_, ?_⟩
  · show ∃ s c q, _ = _
    rw [e]; exact own_fin_negate ha.1
  · rw [e, FP.Core.zval_negate, ha.2]
theorem own_div_ge {a b : UInt64} {x y lo : Int} (ha : own_Fin a x) (hb : own_Fin b y) (hy : 0 < y) (rl : own_Rep lo) (h1 : lo * y ≤ x * own_U) : lo ≤ FP.Core.zval FP.Core.b64 (FP.Core.val64 (FP.ddiv a b)) := by
  obtain ⟨s2, c2, q2, f2, e2⟩ := id rl
  obtain ⟨s, c, q, ea⟩ := id ha.1
  obtain ⟨d, r, eb, hd, ey, ev⟩ := own_quot ea hb hy
  have fa := FP.Core.val64_fits a
  have fb := FP.Core.val64_fits b
  have za := ha.2
  rw [ea] at fa za
  rw [eb] at fb
  have l1 := own_ratio_le (s' := s) fa fb hd f2 (fun q => nomatch q)
  have l2 := own_ratio_ge (s' := s) fa fb hd f2
  have hY : 0 < FP.Core.inUnits d r FP.Core.b64.qmin := by omega
  rw [ev, ← e2]
  unfold FP.Core.zval
  rw [FP.Core.sgn_roundRatio]
  rw [own_zval_fin] at za
  have e2' : FP.Core.signed s2 (FP.Core.zmag FP.Core.b64 (.fin s2 c2 q2)) = lo := e2
  show FP.Core.signed s2 _ ≤ FP.Core.signed s _
  rw [← e2', ← za, ey] at h1
  unfold own_U at h1
  rw [← FP.Core.signed_mul, ← FP.Core.signed_mul] at h1
  generalize FP.Core.zmag FP.Core.b64 (FP.Core.roundRatio FP.Core.b64 s c d (q - r)) = zR at *
  generalize FP.Core.zmag FP.Core.b64 (.fin s2 c2 q2) = v at *
  have hz : v * FP.Core.inUnits d r FP.Core.b64.qmin = 0 → v = 0 := fun h => (Nat.mul_eq_zero.mp h).resolve_right (by omega)
  generalize v * FP.Core.inUnits d r FP.Core.b64.qmin = B at *
  generalize FP.Core.inUnits c q FP.Core.b64.qmin * FP.Core.one64 = A at *
  cases s <;> cases s2 <;> simp only [FP.Core.signed, if_true, Bool.false_eq_true, if_false] at h1 ⊢
  · have := l2 (by omega); omega
  · omega
  · have := l1 (by omega); have := hz (by omega); omega
  · have := l1 (by omega); omega
theorem own_div {a b : UInt64} {x y lo hi : Int} (ha : own_Fin a x) (hb : own_Fin b y) (hy : 0 < y) (rl : own_Rep lo) (rh : own_Rep hi) (h1 : lo * y ≤ x * own_U) (h2 : x * own_U ≤ hi * y) : ∃ z, own_Fin (FP.ddiv a b) z ∧ lo ≤ z ∧ z ≤ hi := by
  refine own_fin_of ?_ rl rh (own_div_ge ha hb hy rl h1) (own_div_le ha hb hy rh h2)
  obtain ⟨s, c, q, ea⟩ := id ha.1
  obtain ⟨d, r, eb, hd, ey, ev⟩ := own_quot ea hb hy
  rw [ev]; exact FP.Core.roundRatio_ne_nan _ _ _ _ _
theorem own_div_e {a b : UInt64} {x y z : Int} (ha : own_Fin a x) (hb : own_Fin b y) (hy : 0 < y) (r : own_Rep z) (e : x * own_U = z * y) : own_Fin (FP.ddiv a b) z := by
  obtain ⟨w, h, h1, h2⟩ := own_div ha hb hy r r (Int.le_of_eq e.symm) (Int.le_of_eq e)
  exact h.cast (Int.le_antisymm h2 h1)
/-- quotients of one value are one double -/
theorem own_div_same {a b a' b' : UInt64} {x y x' y' : Int} (ha : own_Fin a x) (hb : own_Fin b y) (ha' : own_Fin a' x') (hb' : own_Fin b' y') (hx : 0 < x) (hx' : 0 < x') (hy : 0 < y) (hy' : 0 < y') (e : x * y' = x' * y) : FP.Core.val64 (FP.ddiv a b) = FP.Core.val64 (FP.ddiv a' b') := by
  obtain ⟨s, c, q, ea⟩ := id ha.1
  obtain ⟨d, r, eb, hd, ey, ev⟩ := own_quot ea hb hy
  obtain ⟨s', c', q', ea'⟩ := id ha'.1
  obtain ⟨d', r', eb', hd', ey', ev'⟩ := own_quot ea' hb' hy'
  have za := ha.2
  have za' := ha'.2
  have fa := FP.Core.val64_fits a
  have fb := FP.Core.val64_fits b
  have fa' := FP.Core.val64_fits a'
  have fb' := FP.Core.val64_fits b'
  rw [ea] at za fa
  rw [ea'] at za' fa'
  rw [eb] at fb
  rw [eb'] at fb'
  rw [own_zval_fin] at za za'
  obtain ⟨k1, k2⟩ := FP.Core.signed_pos (s := s) (m := FP.Core.inUnits c q FP.Core.b64.qmin) (by rw [za]; exact hx)
  obtain ⟨k1', k2'⟩ := FP.Core.signed_pos (s := s') (m := FP.Core.inUnits c' q' FP.Core.b64.qmin) (by rw [za']; exact hx')
  have hs : s = false := by
    cases s with
    | false => rfl
    | true => simp only [FP.Core.signed, if_true] at k1; omega
  have hs' : s' = false := by
    cases s' with
    | false => rfl
    | true => simp only [FP.Core.signed, if_true] at k1'; omega
  subst hs hs'
  rw [ev, ev']
  have E : FP.Core.inUnits c q FP.Core.b64.qmin * FP.Core.inUnits d' r' FP.Core.b64.qmin = FP.Core.inUnits c' q' FP.Core.b64.qmin * FP.Core.inUnits d r FP.Core.b64.qmin := by
    have h : ((FP.Core.inUnits c q FP.Core.b64.qmin * FP.Core.inUnits d' r' FP.Core.b64.qmin : Nat) : Int) = ((FP.Core.inUnits c' q' FP.Core.b64.qmin * FP.Core.inUnits d r FP.Core.b64.qmin : Nat) : Int) := by
      rw [Int.natCast_mul, Int.natCast_mul, ← k1, ← k1', za, za', ← ey, ← ey']; exact e
    exact Int.ofNat_inj.mp h
  have g1 := fa.2.1
  have g2 := fb.2.1
  have g3 := fa'.2.1
  have g4 := fb'.2.1
  generalize FP.Core.b64.qmin = m at *
  refine FP.Core.roundRatio_congr hd hd' ?_
  unfold FP.Core.inUnits at E
  generalize ha1 : (q - m).toNat = A1 at *
  generalize ha2 : (r - m).toNat = A2 at *
  generalize ha3 : (q' - m).toNat = A3 at *
  generalize ha4 : (r' - m).toNat = A4 at *
  have E' : c * d' * 2 ^ (A1 + A4) = c' * d * 2 ^ (A3 + A2) := by
    rw [Nat.pow_add, Nat.pow_add]
    calc c * d' * (2 ^ A1 * 2 ^ A4) = c * 2 ^ A1 * (d' * 2 ^ A4) := by simp only [Nat.mul_assoc, Nat.mul_left_comm, Nat.mul_comm]
      _ = c' * 2 ^ A3 * (d * 2 ^ A2) := E
      _ = c' * d * (2 ^ A3 * 2 ^ A2) := by simp only [Nat.mul_assoc, Nat.mul_left_comm, Nat.mul_comm]
  rcases Nat.le_total (A3 + A2) (A1 + A4) with h | h
  · rw [show (q - r - (q' - r')).toNat = (A1 + A4) - (A3 + A2) by omega, show (q' - r' - (q - r)).toNat = 0 by omega]
    have : 2 ^ (A1 + A4) = 2 ^ ((A1 + A4) - (A3 + A2)) * 2 ^ (A3 + A2) := by rw [← Nat.pow_add]; congr 1; omega
    rw [this, ← Nat.mul_assoc] at E'
    rw [Nat.pow_zero, Nat.mul_one]
    exact Nat.eq_of_mul_eq_mul_right (Nat.two_pow_pos _) E'
  · rw [show (q - r - (q' - r')).toNat = 0 by omega, show (q' - r' - (q - r)).toNat = (A3 + A2) - (A1 + A4) by omega]
    have : 2 ^ (A3 + A2) = 2 ^ ((A3 + A2) - (A1 + A4)) * 2 ^ (A1 + A4) := by rw [← Nat.pow_add]; congr 1; omega
    rw [this, ← Nat.mul_assoc] at E'
    rw [Nat.pow_zero, Nat.mul_one]
    exact Nat.eq_of_mul_eq_mul_right (Nat.two_pow_pos _) E'
theorem own_cmp {a b : UInt64} {x y : Int} (ha : own_Val a x) (hb : own_Val b y) (o : CmpOp) : cmpValue (FP.dcmp a b) o = if x < y then -1 else if x = y then 0 else 1 := by
  rw [show FP.dcmp a b = _ from FP.Core.dcmp_zval ha.1 hb.1, ha.2, hb.2, FP.Core.compare_ite]
  by_cases h1 : x < y
  · rw [if_pos h1, if_pos h1]; rfl
  · rw [if_neg h1, if_neg h1]
    by_cases h2 : x = y
    · rw [if_pos h2, if_pos h2]; rfl
    · rw [if_neg h2, if_neg h2]; rfl
theorem own_if {a b : UInt64} {x y : Int} (ha : own_Val a x) (hb : own_Val b y) (o : CmpOp) :
    (ifCond.holds .eq (cmpValue (FP.dcmp a b) o) = decide (x = y)) ∧ (ifCond.holds .ne (cmpValue (FP.dcmp a b) o) = decide (x ≠ y)) ∧ (ifCond.holds .lt (cmpValue (FP.dcmp a b) o) = decide (x < y)) ∧
    (ifCond.holds .ge (cmpValue (FP.dcmp a b) o) = decide (y ≤ x)) ∧ (ifCond.holds .gt (cmpValue (FP.dcmp a b) o) = decide (y < x)) ∧ (ifCond.holds .le (cmpValue (FP.dcmp a b) o) = decide (x ≤ y)) := by
  rw [own_cmp ha hb o]
  by_cases h1 : x < y
  · rw [if_pos h1]
    rw [decide_eq_false (show ¬ x = y by omega), decide_eq_true (show x ≠ y by omega), decide_eq_true h1, decide_eq_false (show ¬ y ≤ x by omega), decide_eq_false (show ¬ y < x by omega), decide_eq_true (show x ≤ y by omega)]
    decide
  · rw [if_neg h1]
    by_cases h2 : x = y
    · rw [if_pos h2]
      rw [decide_eq_true h2, decide_eq_false (show ¬ x ≠ y by omega), decide_eq_false h1, decide_eq_true (show y ≤ x by omega), decide_eq_false (show ¬ y < x by omega), decide_eq_true (show x ≤ y by omega)]
      decide
    · rw [if_neg h2]
      rw [decide_eq_false h2, decide_eq_true (show x ≠ y by omega), decide_eq_false h1, decide_eq_true (show y ≤ x by omega), decide_eq_true (show y < x by omega), decide_eq_false (show ¬ x ≤ y by omega)]
      decide
theorem own_of_dint {i : Int} {a : UInt64} (h : FP.Core.DInt i a) : own_Fin a (i * own_U) := by
  refine ⟨?_, FP.Core.DInt_zval h⟩
  have h' : FP.Core.Whole i (FP.Core.val64 a) := h
  cases hv : FP.Core.val64 a with
  | nan => rw [hv] at h'; exact h'.elim
  | inf s => rw [hv] at h'; exact h'.elim
  | fin s c q => exact ⟨s, c, q, hv⟩
theorem own_i2d (n : Int32) : own_Fin (FP.i2d n) (n.toInt * own_U) := own_of_dint (FP.Core.i2d_int n)
theorem own_l2d {n : Int64} (h : n.toInt.natAbs ≤ 9007199254740992) : own_Fin (FP.l2d n) (n.toInt * own_U) := own_of_dint (FP.Core.l2d_int h)
theorem own_signed_self (n : Int) : FP.Core.signed (decide (n < 0)) n.natAbs = n := by
  by_cases h : n < 0
  · rw [decide_eq_true h]; simp only [FP.Core.signed, if_true]; omega
  · rw [decide_eq_false h]; simp only [FP.Core.signed, Bool.false_eq_true, if_false]; omega
theorem own_rep (n : Int) (k : Nat) {P : Int} (hP : ((2 ^ k : Nat) : Int) = P) (hn : n.natAbs < 9007199254740992) (hk : k ≤ 2045) : own_Rep (n * P) := by
  have hmax : FP.Core.b64.qmax = 971 := by decide
  obtain ⟨c', q', h1, h2⟩ := FP.Core.round_exact FP.Core.good_b64 (decide (n < 0)) (c := n.natAbs) (q := (k : Int) - 1074) (show n.natAbs < 2 ^ 53 by omega) (by rw [FP.Core.qmin_b64]; omega) (by rw [hmax]; omega)
  refine ⟨decide (n < 0), c', q', ?_, ?_⟩
  · rw [← h1]; exact FP.Core.round_fits FP.Core.good_b64 _
  · rw [own_zval_fin, h2]
    unfold FP.Core.inUnits
    rw [show ((k : Int) - 1074 - FP.Core.b64.qmin).toNat = k by rw [FP.Core.qmin_b64]; omega, FP.Core.signed_mul, hP, own_signed_self]
theorem own_rep_U (n : Int) (hn : n.natAbs < 9007199254740992) : own_Rep (n * own_U) := own_rep n 1074 rfl hn (by decide)
/-! own text: ints, longs and branches in plain integers -/
theorem own_h_eq (x : Int32) : (ifCond.holds .eq x = true) ↔ x.toInt = 0 := by
  simp only [ifCond.holds, beq_iff_eq, ← Int32.toInt_inj, Int32.toInt_zero]
theorem own_h_ne (x : Int32) : (ifCond.holds .ne x = true) ↔ x.toInt ≠ 0 := by
  simp only [ifCond.holds, bne_iff_ne, ne_eq, ← Int32.toInt_inj, Int32.toInt_zero]
theorem own_h_lt (x : Int32) : (ifCond.holds .lt x = true) ↔ x.toInt < 0 := by
  simp only [ifCond.holds, decide_eq_true_eq, Int32.lt_iff_toInt_lt, Int32.toInt_zero]
theorem own_h_ge (x : Int32) : (ifCond.holds .ge x = true) ↔ 0 ≤ x.toInt := by
  simp only [ifCond.holds, decide_eq_true_eq, ge_iff_le, Int32.le_iff_toInt_le, Int32.toInt_zero]
theorem own_h_gt (x : Int32) : (ifCond.holds .gt x = true) ↔ 0 < x.toInt := by
  simp only [ifCond.holds, decide_eq_true_eq, gt_iff_lt, Int32.lt_iff_toInt_lt, Int32.toInt_zero]
theorem own_h_le (x : Int32) : (ifCond.holds .le x = true) ↔ x.toInt ≤ 0 := by
  simp only [ifCond.holds, decide_eq_true_eq, Int32.le_iff_toInt_le, Int32.toInt_zero]
theorem own_c_eq (x y : Int32) : (if_icmp.holds .eq x y = true) ↔ x.toInt = y.toInt := by
  simp only [if_icmp.holds, beq_iff_eq, ← Int32.toInt_inj]
theorem own_c_ne (x y : Int32) : (if_icmp.holds .ne x y = true) ↔ x.toInt ≠ y.toInt := by
  simp only [if_icmp.holds, bne_iff_ne, ne_eq, ← Int32.toInt_inj]
theorem own_c_lt (x y : Int32) : (if_icmp.holds .lt x y = true) ↔ x.toInt < y.toInt := by
  simp only [if_icmp.holds, decide_eq_true_eq, Int32.lt_iff_toInt_lt]
theorem own_c_ge (x y : Int32) : (if_icmp.holds .ge x y = true) ↔ y.toInt ≤ x.toInt := by
  simp only [if_icmp.holds, decide_eq_true_eq, ge_iff_le, Int32.le_iff_toInt_le]
theorem own_c_gt (x y : Int32) : (if_icmp.holds .gt x y = true) ↔ y.toInt < x.toInt := by
  simp only [if_icmp.holds, decide_eq_true_eq, gt_iff_lt, Int32.lt_iff_toInt_lt]
theorem own_c_le (x y : Int32) : (if_icmp.holds .le x y = true) ↔ x.toInt ≤ y.toInt := by
  simp only [if_icmp.holds, decide_eq_true_eq, Int32.le_iff_toInt_le]
theorem own_L (x y : Int64) : (XT.cmpL x y).toInt = if y.toInt < x.toInt then 1 else if x.toInt = y.toInt then 0 else -1 := by
  unfold XT.cmpL
  simp only [Int64.lt_iff_toInt_lt, ← Int64.toInt_inj]
  split
  · rfl
  · split <;> rfl
theorem own_f_of {b : Bool} {p : Prop} (h : (b = true) ↔ p) (hp : ¬ p) : b = false := Bool.eq_false_iff.mpr fun q => hp (h.mp q)
theorem own_irem (x y : Int32) : (x - x / y * y).toInt = x.toInt.tmod y.toInt := by
  have a := (x % y).toInt_lt; have b := (x % y).le_toInt
  rw [Int32.toInt_mod] at a b
  rw [Int32.toInt_sub, Int32.toInt_mul, Int32.toInt_div, Int.bmod_mul_bmod, Int.sub_bmod_bmod, Int.mul_comm, ← Int.tmod_def]
  exact Jvm.Kit.bmod32 b a
theorem own_irem_nn {x y : Int32} (hx : 0 ≤ x.toInt) : (x - x / y * y).toInt = x.toInt % y.toInt := by rw [own_irem, Int.tmod_eq_emod_of_nonneg hx]
theorem own_ne0 {y : Int32} (h : y.toInt ≠ 0) : y ≠ 0 := fun q => h (by rw [q]; rfl)
theorem own_ne0L {y : Int64} (h : y.toInt ≠ 0) : y ≠ 0 := fun q => h (by rw [q]; rfl)
theorem own_mask31 (x : Int32) : 0 ≤ (x &&& 2147483647).toInt ∧ (x &&& 2147483647).toInt < 2147483648 := by
  rw [Jvm.Kit.i32_mask x 2147483647 (k := 31) (by decide) (by decide)]
  omega

def fi_res (d1 : UInt64) : Int32 := (if (ifCond.holds .gt (cmpValue (FP.dcmp (d1 &&& 0x7fffffffffffffff) (9218868437227405311 : UInt64)) .g)) = true then (0 : Int32) else (1 : Int32))




def lw_k (p1 : Int32) (p2 : Int32) (p3 : Int32) (p4 : Int32) (p5 : Int32) : Int32 := ((1 : Int32) + (p1 &&& (15 : Int32)))
def lw_n (p1 : Int32) (p2 : Int32) (p3 : Int32) (p4 : Int32) (p5 : Int32) : Int32 := ((1 : Int32) <<< ((lw_k p1 p2 p3 p4 p5) &&& 31))
def lw_u (p1 : Int32) (p2 : Int32) (p3 : Int32) (p4 : Int32) (p5 : Int32) : Int32 := ((1 : Int32) + ((p2 &&& (2147483647 : Int32)) - (p2 &&& (2147483647 : Int32)) / ((lw_n p1 p2 p3 p4 p5) - (1 : Int32)) * ((lw_n p1 p2 p3 p4 p5) - (1 : Int32))))
def lw_scale (p1 : Int32) (p2 : Int32) (p3 : Int32) (p4 : Int32) (p5 : Int32) : UInt64 := (FP.ddiv (FP.l2d ((1 : Int64) <<< (Int32.toInt64 (p3 &&& (31 : Int32)) &&& 63))) (FP.l2d ((1 : Int64) <<< (Int32.toInt64 ((XT.ushr p3 (5 : Int32)) &&& (31 : Int32)) &&& 63))))
def lw_g (p1 : Int32) (p2 : Int32) (p3 : Int32) (p4 : Int32) (p5 : Int32) : UInt64 := (FP.ddiv (FP.dmul (FP.i2d (lw_u p1 p2 p3 p4 p5)) (lw_scale p1 p2 p3 p4 p5)) (FP.dadd (FP.dmul (FP.i2d (lw_u p1 p2 p3 p4 p5)) (lw_scale p1 p2 p3 p4 p5)) (FP.dmul (FP.i2d ((lw_n p1 p2 p3 p4 p5) - (lw_u p1 p2 p3 p4 p5))) (lw_scale p1 p2 p3 p4 p5))))
def lw_ra (p1 : Int32) (p2 : Int32) (p3 : Int32) (p4 : Int32) (p5 : Int32) : UInt64 := (FP.dadd (4607182418800017408 : UInt64) (FP.i2d (p4 &&& (2147483647 : Int32))))
def lw_rb (p1 : Int32) (p2 : Int32) (p3 : Int32) (p4 : Int32) (p5 : Int32) : UInt64 := (FP.dadd (4607182418800017408 : UInt64) (FP.i2d (p5 &&& (2147483647 : Int32))))
def lw_g2 (p1 : Int32) (p2 : Int32) (p3 : Int32) (p4 : Int32) (p5 : Int32) : UInt64 := (FP.ddiv (lw_ra p1 p2 p3 p4 p5) (FP.dadd (lw_ra p1 p2 p3 p4 p5) (lw_rb p1 p2 p3 p4 p5)))
theorem own_zero : own_Fin (0 : UInt64) (0) := ⟨(FP.Core.fin_bits _).mpr (by decide), by decide +kernel⟩
theorem own_one : own_Fin (4607182418800017408 : UInt64) (202402253307310618352495346718917307049556649764142118356901358027430339567995346891960383701437124495187077864316811911389808737385793476867013399940738509921517424276566361364466907742093216341239767678472745068562007483424692698618103355649159556340810056512358769552333414615230502532186327508646006263307707741093494784) := ⟨(FP.Core.fin_bits _).mpr (by decide), by decide +kernel⟩

/-- what the two constructors ask, of a double above nought -/
theorem own_ok {a : UInt64} {z : Int} (h : own_Fin a z) (hz : 0 < z) : Jvm.Free.Fl.NoNaN64 a ∧ ifCond.holds .eq (fi_res a) = false ∧ ifCond.holds .gt (cmpValue (FP.dcmp a (0 : UInt64)) .l) = true := by
  refine ⟨h.nn, ?_, ?_⟩
  · have hm := (FP.Core.le_max (a := a) h.1.notNaN).mpr h.1
    have q : ifCond.holds .gt (cmpValue (FP.dcmp (a &&& 0x7fffffffffffffff) (9218868437227405311 : UInt64)) .g) = false := by
      rcases hm with hm | hm
      · rw [show FP.dcmp (a &&& 0x7fffffffffffffff) (9218868437227405311 : UInt64) = some .lt from hm]; decide
      · rw [show FP.dcmp (a &&& 0x7fffffffffffffff) (9218868437227405311 : UInt64) = some .eq from hm]; decide
    unfold fi_res
    rw [if_neg (by rw [q]; decide)]; decide
  · rw [(own_if h.v own_zero.v .l).2.2.2.2.1]; exact decide_eq_true hz
theorem own_eqv {a b : UInt64} {z : Int} (h : own_Fin a z) (e : FP.Core.val64 a = FP.Core.val64 b) : own_Val b z := ⟨e ▸ h.ne, e ▸ h.2⟩

theorem own_sh31 (y : Int32) : ∃ i : Nat, i ≤ 31 ∧ ((1 : Int64) <<< (Int32.toInt64 (y &&& (31 : Int32)) &&& 63)).toInt = ((2 ^ i : Nat) : Int) := by
  have h := Jvm.Kit.i32_mask y 31 (k := 5) (by decide) (by decide)
  generalize y &&& (31 : Int32) = t at *
  have ht : t.toInt = 0 ∨ t.toInt = 1 ∨ t.toInt = 2 ∨ t.toInt = 3 ∨ t.toInt = 4 ∨ t.toInt = 5 ∨ t.toInt = 6 ∨ t.toInt = 7 ∨ t.toInt = 8 ∨ t.toInt = 9 ∨ t.toInt = 10 ∨ t.toInt = 11 ∨ t.toInt = 12 ∨ t.toInt = 13 ∨ t.toInt = 14 ∨ t.toInt = 15 ∨ t.toInt = 16 ∨ t.toInt = 17 ∨ t.toInt = 18 ∨ t.toInt = 19 ∨ t.toInt = 20 ∨ t.toInt = 21 ∨ t.toInt = 22 ∨ t.toInt = 23 ∨ t.toInt = 24 ∨ t.toInt = 25 ∨ t.toInt = 26 ∨ t.toInt = 27 ∨ t.toInt = 28 ∨ t.toInt = 29 ∨ t.toInt = 30 ∨ t.toInt = 31 := by omega
  rcases ht with q | q | q | q | q | q | q | q | q | q | q | q | q | q | q | q | q | q | q | q | q | q | q | q | q | q | q | q | q | q | q | q
  · rw [Int32.toInt_inj.mp (show t.toInt = (0 : Int32).toInt from q)]; exact ⟨0, by decide, by decide⟩
  · rw [Int32.toInt_inj.mp (show t.toInt = (1 : Int32).toInt from q)]; exact ⟨1, by decide, by decide⟩
  · rw [Int32.toInt_inj.mp (show t.toInt = (2 : Int32).toInt from q)]; exact ⟨2, by decide, by decide⟩
  · rw [Int32.toInt_inj.mp (show t.toInt = (3 : Int32).toInt from q)]; exact ⟨3, by decide, by decide⟩
  · rw [Int32.toInt_inj.mp (show t.toInt = (4 : Int32).toInt from q)]; exact ⟨4, by decide, by decide⟩
  · rw [Int32.toInt_inj.mp (show t.toInt = (5 : Int32).toInt from q)]; exact ⟨5, by decide, by decide⟩
  · rw [Int32.toInt_inj.mp (show t.toInt = (6 : Int32).toInt from q)]; exact ⟨6, by decide, by decide⟩
  · rw [Int32.toInt_inj.mp (show t.toInt = (7 : Int32).toInt from q)]; exact ⟨7, by decide, by decide⟩
  · rw [Int32.toInt_inj.mp (show t.toInt = (8 : Int32).toInt from q)]; exact ⟨8, by decide, by decide⟩
  · rw [Int32.toInt_inj.mp (show t.toInt = (9 : Int32).toInt from q)]; exact ⟨9, by decide, by decide⟩
  · rw [Int32.toInt_inj.mp (show t.toInt = (10 : Int32).toInt from q)]; exact ⟨10, by decide, by decide⟩
  · rw [Int32.toInt_inj.mp (show t.toInt = (11 : Int32).toInt from q)]; exact ⟨11, by decide, by decide⟩
  · rw [Int32.toInt_inj.mp (show t.toInt = (12 : Int32).toInt from q)]; exact ⟨12, by decide, by decide⟩
  · rw [Int32.toInt_inj.mp (show t.toInt = (13 : Int32).toInt from q)]; exact ⟨13, by decide, by decide⟩
  · rw [Int32.toInt_inj.mp (show t.toInt = (14 : Int32).toInt from q)]; exact ⟨14, by decide, by decide⟩
  · rw [Int32.toInt_inj.mp (show t.toInt = (15 : Int32).toInt from q)]; exact ⟨15, by decide, by decide⟩
  · rw [Int32.toInt_inj.mp (show t.toInt = (16 : Int32).toInt from q)]; exact ⟨16, by decide, by decide⟩
  · rw [Int32.toInt_inj.mp (show t.toInt = (17 : Int32).toInt from q)]; exact ⟨17, by decide, by decide⟩
  · rw [Int32.toInt_inj.mp (show t.toInt = (18 : Int32).toInt from q)]; exact ⟨18, by decide, by decide⟩
  · rw [Int32.toInt_inj.mp (show t.toInt = (19 : Int32).toInt from q)]; exact ⟨19, by decide, by decide⟩
  · rw [Int32.toInt_inj.mp (show t.toInt = (20 : Int32).toInt from q)]; exact ⟨20, by decide, by decide⟩
  · rw [Int32.toInt_inj.mp (show t.toInt = (21 : Int32).toInt from q)]; exact ⟨21, by decide, by decide⟩
  · rw [Int32.toInt_inj.mp (show t.toInt = (22 : Int32).toInt from q)]; exact ⟨22, by decide, by decide⟩
  · rw [Int32.toInt_inj.mp (show t.toInt = (23 : Int32).toInt from q)]; exact ⟨23, by decide, by decide⟩
  · rw [Int32.toInt_inj.mp (show t.toInt = (24 : Int32).toInt from q)]; exact ⟨24, by decide, by decide⟩
  · rw [Int32.toInt_inj.mp (show t.toInt = (25 : Int32).toInt from q)]; exact ⟨25, by decide, by decide⟩
  · rw [Int32.toInt_inj.mp (show t.toInt = (26 : Int32).toInt from q)]; exact ⟨26, by decide, by decide⟩
  · rw [Int32.toInt_inj.mp (show t.toInt = (27 : Int32).toInt from q)]; exact ⟨27, by decide, by decide⟩
  · rw [Int32.toInt_inj.mp (show t.toInt = (28 : Int32).toInt from q)]; exact ⟨28, by decide, by decide⟩
  · rw [Int32.toInt_inj.mp (show t.toInt = (29 : Int32).toInt from q)]; exact ⟨29, by decide, by decide⟩
  · rw [Int32.toInt_inj.mp (show t.toInt = (30 : Int32).toInt from q)]; exact ⟨30, by decide, by decide⟩
  · rw [Int32.toInt_inj.mp (show t.toInt = (31 : Int32).toInt from q)]; exact ⟨31, by decide, by decide⟩

theorem own_k (p1 p2 p3 p4 p5 : Int32) : 1 ≤ (lw_k p1 p2 p3 p4 p5).toInt ∧ (lw_k p1 p2 p3 p4 p5).toInt ≤ 16 := by
  have h := Jvm.Kit.i32_mask p1 15 (k := 4) (by decide) (by decide)
  have e : (lw_k p1 p2 p3 p4 p5).toInt = 1 + (p1 &&& 15).toInt := Jvm.Kit.i32_add (p := 1) (q := p1 &&& 15) (by rw [h]; show _ ≤ (1 : Int) + _; omega) (by rw [h]; show (1 : Int) + _ < _; omega)
  rw [e, h]; omega
theorem own_n (p1 p2 p3 p4 p5 : Int32) : 2 ≤ (lw_n p1 p2 p3 p4 p5).toInt ∧ (lw_n p1 p2 p3 p4 p5).toInt ≤ 65536 := by
  have h := own_k p1 p2 p3 p4 p5
  show 2 ≤ ((1 : Int32) <<< (lw_k p1 p2 p3 p4 p5 &&& 31)).toInt ∧ ((1 : Int32) <<< (lw_k p1 p2 p3 p4 p5 &&& 31)).toInt ≤ 65536
  generalize lw_k p1 p2 p3 p4 p5 = t at *
  have ht : t.toInt = 1 ∨ t.toInt = 2 ∨ t.toInt = 3 ∨ t.toInt = 4 ∨ t.toInt = 5 ∨ t.toInt = 6 ∨ t.toInt = 7 ∨ t.toInt = 8 ∨ t.toInt = 9 ∨ t.toInt = 10 ∨ t.toInt = 11 ∨ t.toInt = 12 ∨ t.toInt = 13 ∨ t.toInt = 14 ∨ t.toInt = 15 ∨ t.toInt = 16 := by omega
  rcases ht with q | q | q | q | q | q | q | q | q | q | q | q | q | q | q | q
  · rw [Int32.toInt_inj.mp (show t.toInt = (1 : Int32).toInt from q)]; decide
  · rw [Int32.toInt_inj.mp (show t.toInt = (2 : Int32).toInt from q)]; decide
  · rw [Int32.toInt_inj.mp (show t.toInt = (3 : Int32).toInt from q)]; decide
  · rw [Int32.toInt_inj.mp (show t.toInt = (4 : Int32).toInt from q)]; decide
  · rw [Int32.toInt_inj.mp (show t.toInt = (5 : Int32).toInt from q)]; decide
  · rw [Int32.toInt_inj.mp (show t.toInt = (6 : Int32).toInt from q)]; decide
  · rw [Int32.toInt_inj.mp (show t.toInt = (7 : Int32).toInt from q)]; decide
  · rw [Int32.toInt_inj.mp (show t.toInt = (8 : Int32).toInt from q)]; decide
  · rw [Int32.toInt_inj.mp (show t.toInt = (9 : Int32).toInt from q)]; decide
  · rw [Int32.toInt_inj.mp (show t.toInt = (10 : Int32).toInt from q)]; decide
  · rw [Int32.toInt_inj.mp (show t.toInt = (11 : Int32).toInt from q)]; decide
  · rw [Int32.toInt_inj.mp (show t.toInt = (12 : Int32).toInt from q)]; decide
  · rw [Int32.toInt_inj.mp (show t.toInt = (13 : Int32).toInt from q)]; decide
  · rw [Int32.toInt_inj.mp (show t.toInt = (14 : Int32).toInt from q)]; decide
  · rw [Int32.toInt_inj.mp (show t.toInt = (15 : Int32).toInt from q)]; decide
  · rw [Int32.toInt_inj.mp (show t.toInt = (16 : Int32).toInt from q)]; decide

theorem own_nm (p1 p2 p3 p4 p5 : Int32) : (lw_n p1 p2 p3 p4 p5 - (1 : Int32)).toInt = (lw_n p1 p2 p3 p4 p5).toInt - 1 := by
  have h := own_n p1 p2 p3 p4 p5
  exact Jvm.Kit.i32_sub (p := lw_n p1 p2 p3 p4 p5) (q := 1) (by show _ ≤ _ - (1 : Int); omega) (by show _ - (1 : Int) < _; omega)
theorem own_n1 (p1 p2 p3 p4 p5 : Int32) : lw_n p1 p2 p3 p4 p5 - (1 : Int32) ≠ 0 := own_ne0 (by rw [own_nm]; have := own_n p1 p2 p3 p4 p5; omega)
theorem own_u (p1 p2 p3 p4 p5 : Int32) : 1 ≤ (lw_u p1 p2 p3 p4 p5).toInt ∧ (lw_u p1 p2 p3 p4 p5).toInt < (lw_n p1 p2 p3 p4 p5).toInt := by
  have h := own_n p1 p2 p3 p4 p5
  have hm := own_mask31 p2
  have e : ((p2 &&& 2147483647) - (p2 &&& 2147483647) / (lw_n p1 p2 p3 p4 p5 - (1 : Int32)) * (lw_n p1 p2 p3 p4 p5 - (1 : Int32))).toInt = (p2 &&& 2147483647).toInt % ((lw_n p1 p2 p3 p4 p5).toInt - 1) := by rw [← own_nm]; exact own_irem_nn hm.1
  have q1 := Int.emod_nonneg (p2 &&& 2147483647).toInt (show (lw_n p1 p2 p3 p4 p5).toInt - 1 ≠ 0 by omega)
  have q2 := Int.emod_lt_of_pos (p2 &&& 2147483647).toInt (show 0 < (lw_n p1 p2 p3 p4 p5).toInt - 1 by omega)
  have e2 : (lw_u p1 p2 p3 p4 p5).toInt = 1 + (p2 &&& 2147483647).toInt % ((lw_n p1 p2 p3 p4 p5).toInt - 1) := by
    rw [← e]; exact Jvm.Kit.i32_add (p := 1) (by rw [e]; show _ ≤ (1 : Int) + _; omega) (by rw [e]; show (1 : Int) + _ < _; omega)
  rw [e2]; omega
theorem own_scj (p1 p2 p3 p4 p5 : Int32) : ∃ j : Nat, 1043 ≤ j ∧ j ≤ 1105 ∧ own_Fin (FP.ddiv (FP.l2d ((1 : Int64) <<< (Int32.toInt64 (p3 &&& (31 : Int32)) &&& 63))) (FP.l2d ((1 : Int64) <<< (Int32.toInt64 ((XT.ushr p3 (5 : Int32)) &&& (31 : Int32)) &&& 63)))) ((2 ^ j : Nat) : Int) := by
  obtain ⟨i1, h1, e1⟩ := own_sh31 p3
  obtain ⟨i2, h2, e2⟩ := own_sh31 (XT.ushr p3 (5 : Int32))
  have b1 : (2 : Nat) ^ i1 ≤ 2 ^ 31 := Nat.pow_le_pow_right (by decide) h1
  have b2 : (2 : Nat) ^ i2 ≤ 2 ^ 31 := Nat.pow_le_pow_right (by decide) h2
  have l1 := own_l2d (n := (1 : Int64) <<< (Int32.toInt64 (p3 &&& (31 : Int32)) &&& 63)) (by rw [e1, Int.natAbs_natCast]; omega)
  have l2 := own_l2d (n := (1 : Int64) <<< (Int32.toInt64 ((XT.ushr p3 (5 : Int32)) &&& (31 : Int32)) &&& 63)) (by rw [e2, Int.natAbs_natCast]; omega)
  rw [e1] at l1
  rw [e2] at l2
  have hU : own_U = ((2 ^ 1074 : Nat) : Int) := rfl
  refine ⟨1074 + i1 - i2, by omega, by omega, ?_⟩
  have rr := own_rep 1 (1074 + i1 - i2) rfl (by decide) (by omega)
  rw [Int.one_mul] at rr
  refine own_div_e l1 l2 (Int.mul_pos (Int.natCast_pos.mpr (Nat.two_pow_pos _)) own_U_pos) rr ?_
  rw [hU]
  have e : (2 : Nat) ^ i1 * 2 ^ 1074 * 2 ^ 1074 = 2 ^ (1074 + i1 - i2) * (2 ^ i2 * 2 ^ 1074) := by
    have ee : i1 + 1074 + 1074 = 1074 + i1 - i2 + (i2 + 1074) := by omega
    rw [← Nat.pow_add, ← Nat.pow_add, ← Nat.pow_add, ← Nat.pow_add, ee]
  have := congrArg (fun t : Nat => (t : Int)) e
  simpa only [Int.natCast_mul] using this
def own_K (p1 p2 p3 p4 p5 : Int32) : Int := FP.Core.zval FP.Core.b64 (FP.Core.val64 (lw_scale p1 p2 p3 p4 p5))
theorem own_Kj (p1 p2 p3 p4 p5 : Int32) : ∃ j : Nat, 1043 ≤ j ∧ j ≤ 1105 ∧ ((2 ^ j : Nat) : Int) = own_K p1 p2 p3 p4 p5 ∧ own_Fin (lw_scale p1 p2 p3 p4 p5) (own_K p1 p2 p3 p4 p5) := by
  obtain ⟨j, h1, h2, h3⟩ := own_scj p1 p2 p3 p4 p5
  have e : own_K p1 p2 p3 p4 p5 = ((2 ^ j : Nat) : Int) := h3.2
  exact ⟨j, h1, h2, e.symm, by rw [e]; exact h3⟩
theorem own_sc (p1 p2 p3 p4 p5 : Int32) : own_Fin (FP.ddiv (FP.l2d ((1 : Int64) <<< (Int32.toInt64 (p3 &&& (31 : Int32)) &&& 63))) (FP.l2d ((1 : Int64) <<< (Int32.toInt64 ((XT.ushr p3 (5 : Int32)) &&& (31 : Int32)) &&& 63)))) (own_K p1 p2 p3 p4 p5) := by
  obtain ⟨j, -, -, -, h⟩ := own_Kj p1 p2 p3 p4 p5; exact h
theorem own_Kp (p1 p2 p3 p4 p5 : Int32) : 0 < own_K p1 p2 p3 p4 p5 := by
  obtain ⟨j, -, -, h, -⟩ := own_Kj p1 p2 p3 p4 p5; rw [← h]; exact Int.natCast_pos.mpr (Nat.two_pow_pos _)
theorem own_Kr (p1 p2 p3 p4 p5 : Int32) (m : Int) (h : m.natAbs < 9007199254740992) : own_Rep (m * own_K p1 p2 p3 p4 p5) := by
  obtain ⟨j, h1, h2, h3, -⟩ := own_Kj p1 p2 p3 p4 p5
  exact own_rep m j h3 h (by omega)
theorem own_by (p1 p2 p3 p4 p5 : Int32) {t : Int32} (h : t.toInt.natAbs ≤ 65536) : own_Fin (FP.dmul (FP.i2d t) (lw_scale p1 p2 p3 p4 p5)) (t.toInt * own_K p1 p2 p3 p4 p5) := by
  refine own_mul_e (own_i2d t) (own_sc p1 p2 p3 p4 p5) (own_Kr p1 p2 p3 p4 p5 _ (by omega)) ?_
  simp only [Int.mul_assoc, Int.mul_left_comm, Int.mul_comm]
theorem own_nu (p1 p2 p3 p4 p5 : Int32) : (lw_n p1 p2 p3 p4 p5 - lw_u p1 p2 p3 p4 p5).toInt = (lw_n p1 p2 p3 p4 p5).toInt - (lw_u p1 p2 p3 p4 p5).toInt := by
  have h := own_n p1 p2 p3 p4 p5
  have hu := own_u p1 p2 p3 p4 p5
  exact Jvm.Kit.i32_sub (by omega) (by omega)
theorem own_ra (p1 p2 p3 p4 p5 : Int32) : own_Fin (FP.dmul (FP.i2d (lw_u p1 p2 p3 p4 p5)) (lw_scale p1 p2 p3 p4 p5)) ((lw_u p1 p2 p3 p4 p5).toInt * own_K p1 p2 p3 p4 p5) ∧ 0 < (lw_u p1 p2 p3 p4 p5).toInt * own_K p1 p2 p3 p4 p5 := by
  have h := own_n p1 p2 p3 p4 p5
  have hu := own_u p1 p2 p3 p4 p5
  exact ⟨own_by p1 p2 p3 p4 p5 (by omega), Int.mul_pos (by omega) (own_Kp p1 p2 p3 p4 p5)⟩
theorem own_fo (p1 p2 p3 p4 p5 : Int32) : own_Fin (FP.dmul (FP.i2d (lw_n p1 p2 p3 p4 p5 - lw_u p1 p2 p3 p4 p5)) (lw_scale p1 p2 p3 p4 p5)) (((lw_n p1 p2 p3 p4 p5).toInt - (lw_u p1 p2 p3 p4 p5).toInt) * own_K p1 p2 p3 p4 p5) ∧ 0 < ((lw_n p1 p2 p3 p4 p5).toInt - (lw_u p1 p2 p3 p4 p5).toInt) * own_K p1 p2 p3 p4 p5 := by
  have h := own_n p1 p2 p3 p4 p5
  have hu := own_u p1 p2 p3 p4 p5
  have q := own_by p1 p2 p3 p4 p5 (t := lw_n p1 p2 p3 p4 p5 - lw_u p1 p2 p3 p4 p5) (by rw [own_nu]; omega)
  rw [own_nu] at q
  exact ⟨q, Int.mul_pos (by omega) (own_Kp p1 p2 p3 p4 p5)⟩
theorem own_s1 (p1 p2 p3 p4 p5 : Int32) : own_Fin (FP.dadd (FP.dmul (FP.i2d (lw_u p1 p2 p3 p4 p5)) (lw_scale p1 p2 p3 p4 p5)) (FP.dmul (FP.i2d (lw_n p1 p2 p3 p4 p5 - lw_u p1 p2 p3 p4 p5)) (lw_scale p1 p2 p3 p4 p5))) ((lw_n p1 p2 p3 p4 p5).toInt * own_K p1 p2 p3 p4 p5) := by
  have h := own_n p1 p2 p3 p4 p5
  have e : (lw_u p1 p2 p3 p4 p5).toInt * own_K p1 p2 p3 p4 p5 + ((lw_n p1 p2 p3 p4 p5).toInt - (lw_u p1 p2 p3 p4 p5).toInt) * own_K p1 p2 p3 p4 p5 = (lw_n p1 p2 p3 p4 p5).toInt * own_K p1 p2 p3 p4 p5 := by rw [← Int.add_mul]; congr 1; omega
  exact (own_add_e (own_ra p1 p2 p3 p4 p5).1 (own_fo p1 p2 p3 p4 p5).1 (by rw [e]; exact own_Kr p1 p2 p3 p4 p5 _ (by omega))).cast e
theorem own_gv (p1 p2 p3 p4 p5 : Int32) : FP.Core.val64 (FP.ddiv (FP.i2d (lw_u p1 p2 p3 p4 p5)) (FP.i2d (lw_n p1 p2 p3 p4 p5))) = FP.Core.val64 (FP.ddiv (FP.dmul (FP.i2d (lw_u p1 p2 p3 p4 p5)) (lw_scale p1 p2 p3 p4 p5)) (FP.dadd (FP.dmul (FP.i2d (lw_u p1 p2 p3 p4 p5)) (lw_scale p1 p2 p3 p4 p5)) (FP.dmul (FP.i2d (lw_n p1 p2 p3 p4 p5 - lw_u p1 p2 p3 p4 p5)) (lw_scale p1 p2 p3 p4 p5)))) := by
  have h := own_n p1 p2 p3 p4 p5
  have hu := own_u p1 p2 p3 p4 p5
  have hU := own_U_pos
  refine own_div_same (own_i2d _) (own_i2d _) (own_ra p1 p2 p3 p4 p5).1 (own_s1 p1 p2 p3 p4 p5) (Int.mul_pos (by omega) hU) (own_ra p1 p2 p3 p4 p5).2 (Int.mul_pos (by omega) hU) (Int.mul_pos (by omega) (own_Kp p1 p2 p3 p4 p5)) ?_
  simp only [Int.mul_assoc, Int.mul_left_comm, Int.mul_comm]
theorem own_gz (p1 p2 p3 p4 p5 : Int32) : ∃ z, own_Fin (FP.ddiv (FP.i2d (lw_u p1 p2 p3 p4 p5)) (FP.i2d (lw_n p1 p2 p3 p4 p5))) z := by
  have h := own_n p1 p2 p3 p4 p5
  have hu := own_u p1 p2 p3 p4 p5
  have hU := own_U_pos
  have a1 : 0 ≤ (lw_u p1 p2 p3 p4 p5).toInt * own_U := Int.mul_nonneg (by omega) (Int.le_of_lt hU)
  have a2 : (lw_u p1 p2 p3 p4 p5).toInt * own_U ≤ (lw_n p1 p2 p3 p4 p5).toInt * own_U := Int.mul_le_mul_of_nonneg_right (by omega) (Int.le_of_lt hU)
  obtain ⟨z, hz, -⟩ := own_div (own_i2d (lw_u p1 p2 p3 p4 p5)) (own_i2d (lw_n p1 p2 p3 p4 p5)) (Int.mul_pos (by omega) hU) (own_rep_U 0 (by decide)) (own_rep_U 1 (by decide))
    (by rw [Int.zero_mul, Int.zero_mul]; exact Int.mul_nonneg a1 (Int.le_of_lt hU))
    (by rw [Int.one_mul, Int.mul_comm own_U]; exact Int.mul_le_mul_of_nonneg_right a2 (Int.le_of_lt hU))
  exact ⟨z, hz⟩
theorem own_un (p1 p2 p3 p4 p5 : Int32) : Jvm.Free.Fl.NoNaN64 (FP.ddiv (FP.i2d (lw_u p1 p2 p3 p4 p5)) (FP.i2d (lw_n p1 p2 p3 p4 p5))) := by
  obtain ⟨z, hz⟩ := own_gz p1 p2 p3 p4 p5; exact hz.nn
theorem own_g1 (p1 p2 p3 p4 p5 : Int32) : Jvm.Free.Fl.NoNaN64 (FP.ddiv (FP.dmul (FP.i2d (lw_u p1 p2 p3 p4 p5)) (lw_scale p1 p2 p3 p4 p5)) (FP.dadd (FP.dmul (FP.i2d (lw_u p1 p2 p3 p4 p5)) (lw_scale p1 p2 p3 p4 p5)) (FP.dmul (FP.i2d (lw_n p1 p2 p3 p4 p5 - lw_u p1 p2 p3 p4 p5)) (lw_scale p1 p2 p3 p4 p5)))) := by
  obtain ⟨z, hz⟩ := own_gz p1 p2 p3 p4 p5; exact (own_eqv hz (own_gv p1 p2 p3 p4 p5)).nn
theorem own_e1 (p1 p2 p3 p4 p5 : Int32) : ifCond.holds .ne (cmpValue (FP.dcmp (lw_g p1 p2 p3 p4 p5) (FP.ddiv (FP.i2d (lw_u p1 p2 p3 p4 p5)) (FP.i2d (lw_n p1 p2 p3 p4 p5)))) .l) = false := by
  obtain ⟨z, hz⟩ := own_gz p1 p2 p3 p4 p5
  have q := (own_if (own_eqv hz (own_gv p1 p2 p3 p4 p5)) hz.v .l).2.1
  exact Eq.trans q (decide_eq_false (fun h => h rfl))
theorem own_r (t : Int32) : own_Fin (FP.dadd (4607182418800017408 : UInt64) (FP.i2d (t &&& 2147483647))) (((t &&& 2147483647).toInt + 1) * 202402253307310618352495346718917307049556649764142118356901358027430339567995346891960383701437124495187077864316811911389808737385793476867013399940738509921517424276566361364466907742093216341239767678472745068562007483424692698618103355649159556340810056512358769552333414615230502532186327508646006263307707741093494784) ∧ 0 < ((t &&& 2147483647).toInt + 1) * 202402253307310618352495346718917307049556649764142118356901358027430339567995346891960383701437124495187077864316811911389808737385793476867013399940738509921517424276566361364466907742093216341239767678472745068562007483424692698618103355649159556340810056512358769552333414615230502532186327508646006263307707741093494784 := by
  have h := own_mask31 t
  have hi := own_i2d (t &&& 2147483647)
  rw [own_U_lit] at hi
  have e : 202402253307310618352495346718917307049556649764142118356901358027430339567995346891960383701437124495187077864316811911389808737385793476867013399940738509921517424276566361364466907742093216341239767678472745068562007483424692698618103355649159556340810056512358769552333414615230502532186327508646006263307707741093494784 + (t &&& 2147483647).toInt * 202402253307310618352495346718917307049556649764142118356901358027430339567995346891960383701437124495187077864316811911389808737385793476867013399940738509921517424276566361364466907742093216341239767678472745068562007483424692698618103355649159556340810056512358769552333414615230502532186327508646006263307707741093494784 = ((t &&& 2147483647).toInt + 1) * 202402253307310618352495346718917307049556649764142118356901358027430339567995346891960383701437124495187077864316811911389808737385793476867013399940738509921517424276566361364466907742093216341239767678472745068562007483424692698618103355649159556340810056512358769552333414615230502532186327508646006263307707741093494784 := by omega
  exact ⟨(own_add_e own_one hi (by rw [e]; exact own_rep _ 1074 (by decide +kernel) (by omega) (by decide))).cast e, by omega⟩
theorem own_r2 (p1 p2 p3 p4 p5 : Int32) : own_Fin (FP.dadd (4607182418800017408 : UInt64) (FP.i2d (p4 &&& (2147483647 : Int32)))) (((p4 &&& 2147483647).toInt + 1) * 202402253307310618352495346718917307049556649764142118356901358027430339567995346891960383701437124495187077864316811911389808737385793476867013399940738509921517424276566361364466907742093216341239767678472745068562007483424692698618103355649159556340810056512358769552333414615230502532186327508646006263307707741093494784) ∧ 0 < ((p4 &&& 2147483647).toInt + 1) * 202402253307310618352495346718917307049556649764142118356901358027430339567995346891960383701437124495187077864316811911389808737385793476867013399940738509921517424276566361364466907742093216341239767678472745068562007483424692698618103355649159556340810056512358769552333414615230502532186327508646006263307707741093494784 := own_r p4
theorem own_r3 (p1 p2 p3 p4 p5 : Int32) : own_Fin (FP.dadd (4607182418800017408 : UInt64) (FP.i2d (p5 &&& (2147483647 : Int32)))) (((p5 &&& 2147483647).toInt + 1) * 202402253307310618352495346718917307049556649764142118356901358027430339567995346891960383701437124495187077864316811911389808737385793476867013399940738509921517424276566361364466907742093216341239767678472745068562007483424692698618103355649159556340810056512358769552333414615230502532186327508646006263307707741093494784) ∧ 0 < ((p5 &&& 2147483647).toInt + 1) * 202402253307310618352495346718917307049556649764142118356901358027430339567995346891960383701437124495187077864316811911389808737385793476867013399940738509921517424276566361364466907742093216341239767678472745068562007483424692698618103355649159556340810056512358769552333414615230502532186327508646006263307707741093494784 := own_r p5
theorem own_s2 (p1 p2 p3 p4 p5 : Int32) : own_Fin (FP.dadd (lw_ra p1 p2 p3 p4 p5) (lw_rb p1 p2 p3 p4 p5)) ((((p4 &&& 2147483647).toInt + 1) + ((p5 &&& 2147483647).toInt + 1)) * 202402253307310618352495346718917307049556649764142118356901358027430339567995346891960383701437124495187077864316811911389808737385793476867013399940738509921517424276566361364466907742093216341239767678472745068562007483424692698618103355649159556340810056512358769552333414615230502532186327508646006263307707741093494784) := by
  have h1 := own_mask31 p4
  have h2 := own_mask31 p5
  have e : ((p4 &&& 2147483647).toInt + 1) * 202402253307310618352495346718917307049556649764142118356901358027430339567995346891960383701437124495187077864316811911389808737385793476867013399940738509921517424276566361364466907742093216341239767678472745068562007483424692698618103355649159556340810056512358769552333414615230502532186327508646006263307707741093494784 + ((p5 &&& 2147483647).toInt + 1) * 202402253307310618352495346718917307049556649764142118356901358027430339567995346891960383701437124495187077864316811911389808737385793476867013399940738509921517424276566361364466907742093216341239767678472745068562007483424692698618103355649159556340810056512358769552333414615230502532186327508646006263307707741093494784 = (((p4 &&& 2147483647).toInt + 1) + ((p5 &&& 2147483647).toInt + 1)) * 202402253307310618352495346718917307049556649764142118356901358027430339567995346891960383701437124495187077864316811911389808737385793476867013399940738509921517424276566361364466907742093216341239767678472745068562007483424692698618103355649159556340810056512358769552333414615230502532186327508646006263307707741093494784 := (Int.add_mul _ _ _).symm
  exact (own_add_e (own_r2 p1 p2 p3 p4 p5).1 (own_r3 p1 p2 p3 p4 p5).1 (by rw [e]; exact own_rep _ 1074 (by decide +kernel) (by omega) (by decide))).cast e
theorem own_z2 (p1 p2 p3 p4 p5 : Int32) : ∃ z, own_Fin (FP.ddiv (lw_ra p1 p2 p3 p4 p5) (FP.dadd (lw_ra p1 p2 p3 p4 p5) (lw_rb p1 p2 p3 p4 p5))) z ∧ 11781361728633673532894774498354952494238773929196300355071513798753168641589311119865182769801300280680127783231251635087526446289021607771691249214388576215221396663491984443067742263787264024212477244347842938066577043117995647400274369612403653814737339068225047641453182709824206687753689912418253153056587776 ≤ z ∧ z ≤ 202402253295529256623861673186022532551201697269903344427705057672358825769242178250371072581571941725385777583636684128158557102298267030577991792169047260707128848061344964700974923299025474077452503654260267824214164545358115655500107708248885186728406402697621430484108366973777319822362120820892316350889454588036907008 := by
  have h1 := own_mask31 p4
  have h2 := own_mask31 p5
  have rl := own_rep 1 1040 (P := 11781361728633673532894774498354952494238773929196300355071513798753168641589311119865182769801300280680127783231251635087526446289021607771691249214388576215221396663491984443067742263787264024212477244347842938066577043117995647400274369612403653814737339068225047641453182709824206687753689912418253153056587776) (by decide +kernel) (by decide) (by decide)
  have rh := own_rep 17179869183 1040 (P := 11781361728633673532894774498354952494238773929196300355071513798753168641589311119865182769801300280680127783231251635087526446289021607771691249214388576215221396663491984443067742263787264024212477244347842938066577043117995647400274369612403653814737339068225047641453182709824206687753689912418253153056587776) (by decide +kernel) (by decide) (by decide)
  obtain ⟨z, hz, l, u⟩ := own_div (own_r2 p1 p2 p3 p4 p5).1 (own_s2 p1 p2 p3 p4 p5) (by omega) rl rh (by rw [own_U_lit]; omega) (by rw [own_U_lit]; omega)
  exact ⟨z, hz, by omega, by omega⟩
theorem own_g2 (p1 p2 p3 p4 p5 : Int32) : Jvm.Free.Fl.NoNaN64 (FP.ddiv (lw_ra p1 p2 p3 p4 p5) (FP.dadd (lw_ra p1 p2 p3 p4 p5) (lw_rb p1 p2 p3 p4 p5))) := by
  obtain ⟨z, hz, -⟩ := own_z2 p1 p2 p3 p4 p5; exact hz.nn
theorem own_e2 (p1 p2 p3 p4 p5 : Int32) : ifCond.holds .ge (cmpValue (FP.dcmp (0 : UInt64) (lw_g2 p1 p2 p3 p4 p5)) .g) = false := by
  obtain ⟨z, hz, l, u⟩ := own_z2 p1 p2 p3 p4 p5
  exact Eq.trans (own_if own_zero.v hz.v .g).2.2.2.1 (decide_eq_false (by omega))
theorem own_e3 (p1 p2 p3 p4 p5 : Int32) : ifCond.holds .ge (cmpValue (FP.dcmp (lw_g2 p1 p2 p3 p4 p5) (4607182418800017408 : UInt64)) .g) = false := by
  obtain ⟨z, hz, l, u⟩ := own_z2 p1 p2 p3 p4 p5
  exact Eq.trans (own_if hz.v own_one.v .g).2.2.2.1 (decide_eq_false (by omega))
theorem d1_0 : decode prog_18_method_1_code 0 = .ok (.aload_n 0, 1) := by decide +kernel
theorem d1_1 : decode prog_18_method_1_code 1 = .ok (.invokespecial 1, 3) := by decide +kernel
theorem d1_4 : decode prog_18_method_1_code 4 = .ok (.dload_n 1, 1) := by decide +kernel
theorem d1_5 : decode prog_18_method_1_code 5 = .ok (.invokestatic 7, 3) := by decide +kernel
theorem d1_8 : decode prog_18_method_1_code 8 = .ok (.ifCond .eq 9, 3) := by decide +kernel
theorem d1_11 : decode prog_18_method_1_code 11 = .ok (.dload_n 1, 1) := by decide +kernel
theorem d1_12 : decode prog_18_method_1_code 12 = .ok (.dconst 0, 1) := by decide +kernel
theorem d1_13 : decode prog_18_method_1_code 13 = .ok (.dcmp .l, 1) := by decide +kernel
theorem d1_14 : decode prog_18_method_1_code 14 = .ok (.ifCond .gt 17, 3) := by decide +kernel
theorem d1_17 : decode prog_18_method_1_code 17 = .ok (.new 13, 3) := by decide +kernel
theorem d1_20 : decode prog_18_method_1_code 20 = .ok (.dup, 1) := by decide +kernel
theorem d1_21 : decode prog_18_method_1_code 21 = .ok (.dload_n 1, 1) := by decide +kernel
theorem d1_22 : decode prog_18_method_1_code 22 = .ok (.invokedynamic 15, 5) := by decide +kernel
theorem d1_27 : decode prog_18_method_1_code 27 = .ok (.invokespecial 19, 3) := by decide +kernel
theorem d1_30 : decode prog_18_method_1_code 30 = .ok (.athrow, 1) := by decide +kernel
theorem d1_31 : decode prog_18_method_1_code 31 = .ok (.aload_n 0, 1) := by decide +kernel
theorem d1_32 : decode prog_18_method_1_code 32 = .ok (.dload_n 1, 1) := by decide +kernel
theorem d1_33 : decode prog_18_method_1_code 33 = .ok (.putfield 22, 3) := by decide +kernel
theorem d1_36 : decode prog_18_method_1_code 36 = .ok (.return_, 1) := by decide +kernel
theorem d2_0 : decode jdk_30_method_1_code 0 = .ok (.aload_n 0, 1) := by decide +kernel
theorem d2_1 : decode jdk_30_method_1_code 1 = .ok (.invokespecial 1, 3) := by decide +kernel
theorem d2_4 : decode jdk_30_method_1_code 4 = .ok (.return_, 1) := by decide +kernel
theorem d4_0 : decode jdk_117_method_8_code 0 = .ok (.dload_n 0, 1) := by decide +kernel
theorem d4_1 : decode jdk_117_method_8_code 1 = .ok (.invokestatic 38, 3) := by decide +kernel
theorem d4_4 : decode jdk_117_method_8_code 4 = .ok (.ldc2_w 111, 3) := by decide +kernel
theorem d4_7 : decode jdk_117_method_8_code 7 = .ok (.dcmp .g, 1) := by decide +kernel
theorem d4_8 : decode jdk_117_method_8_code 8 = .ok (.ifCond .gt 7, 3) := by decide +kernel
theorem d4_11 : decode jdk_117_method_8_code 11 = .ok (.iconst 1, 1) := by decide +kernel
theorem d4_12 : decode jdk_117_method_8_code 12 = .ok (.goto 4, 3) := by decide +kernel
theorem d4_15 : decode jdk_117_method_8_code 15 = .ok (.iconst 0, 1) := by decide +kernel
theorem d4_16 : decode jdk_117_method_8_code 16 = .ok (.ireturn, 1) := by decide +kernel
theorem d6_0 : decode prog_13_method_1_code 0 = .ok (.aload_n 0, 1) := by decide +kernel
theorem d6_1 : decode prog_13_method_1_code 1 = .ok (.invokespecial 1, 3) := by decide +kernel
theorem d6_4 : decode prog_13_method_1_code 4 = .ok (.dload_n 1, 1) := by decide +kernel
theorem d6_5 : decode prog_13_method_1_code 5 = .ok (.invokestatic 7, 3) := by decide +kernel
theorem d6_8 : decode prog_13_method_1_code 8 = .ok (.ifCond .eq 9, 3) := by decide +kernel
theorem d6_11 : decode prog_13_method_1_code 11 = .ok (.dload_n 1, 1) := by decide +kernel
theorem d6_12 : decode prog_13_method_1_code 12 = .ok (.dconst 0, 1) := by decide +kernel
theorem d6_13 : decode prog_13_method_1_code 13 = .ok (.dcmp .l, 1) := by decide +kernel
theorem d6_14 : decode prog_13_method_1_code 14 = .ok (.ifCond .gt 17, 3) := by decide +kernel
theorem d6_17 : decode prog_13_method_1_code 17 = .ok (.new 13, 3) := by decide +kernel
theorem d6_20 : decode prog_13_method_1_code 20 = .ok (.dup, 1) := by decide +kernel
theorem d6_21 : decode prog_13_method_1_code 21 = .ok (.dload_n 1, 1) := by decide +kernel
theorem d6_22 : decode prog_13_method_1_code 22 = .ok (.invokedynamic 15, 5) := by decide +kernel
theorem d6_27 : decode prog_13_method_1_code 27 = .ok (.invokespecial 19, 3) := by decide +kernel
theorem d6_30 : decode prog_13_method_1_code 30 = .ok (.athrow, 1) := by decide +kernel
theorem d6_31 : decode prog_13_method_1_code 31 = .ok (.aload_n 0, 1) := by decide +kernel
theorem d6_32 : decode prog_13_method_1_code 32 = .ok (.dload_n 1, 1) := by decide +kernel
theorem d6_33 : decode prog_13_method_1_code 33 = .ok (.putfield 22, 3) := by decide +kernel
theorem d6_36 : decode prog_13_method_1_code 36 = .ok (.return_, 1) := by decide +kernel
theorem d7_0 : decode prog_18_method_2_code 0 = .ok (.aload_n 0, 1) := by decide +kernel
theorem d7_1 : decode prog_18_method_2_code 1 = .ok (.getfield 22, 3) := by decide +kernel
theorem d7_4 : decode prog_18_method_2_code 4 = .ok (.aload_n 0, 1) := by decide +kernel
theorem d7_5 : decode prog_18_method_2_code 5 = .ok (.getfield 22, 3) := by decide +kernel
theorem d7_8 : decode prog_18_method_2_code 8 = .ok (.aload_n 1, 1) := by decide +kernel
theorem d7_9 : decode prog_18_method_2_code 9 = .ok (.invokevirtual 28, 3) := by decide +kernel
theorem d7_12 : decode prog_18_method_2_code 12 = .ok (.dadd, 1) := by decide +kernel
theorem d7_13 : decode prog_18_method_2_code 13 = .ok (.ddiv, 1) := by decide +kernel
theorem d7_14 : decode prog_18_method_2_code 14 = .ok (.dreturn, 1) := by decide +kernel
theorem d8_0 : decode prog_13_method_10_code 0 = .ok (.aload_n 0, 1) := by decide +kernel
theorem d8_1 : decode prog_13_method_10_code 1 = .ok (.getfield 22, 3) := by decide +kernel
theorem d8_4 : decode prog_13_method_10_code 4 = .ok (.dreturn, 1) := by decide +kernel
theorem pn_0 : plainName "java/lang/Record" = true := by first | (simp [plainName, overriddenIn]; done) | decide +kernel
theorem pn_1 : plainName "java/lang/Double" = true := by first | (simp [plainName, overriddenIn]; done) | decide +kernel
theorem pn_2 : plainName "com/example/gavelflow/gavelflow/market/PoissonArrivals" = true := by first | (simp [plainName, overriddenIn]; done) | decide +kernel
theorem pn_3 : plainName "com/example/gavelflow/gavelflow/market/Discounting" = true := by first | (simp [plainName, overriddenIn]; done) | decide +kernel
theorem pn_4 : plainName "com/example/gavelflow/gavelflow/market/PoissonArrivalsDiscountToNextArrivalPinLaw" = true := by first | (simp [plainName, overriddenIn]; done) | decide +kernel
theorem pd_0 : parseMethodDescriptor "(D)D" = some ⟨[.double], some .double⟩ := by decide +kernel
theorem pd_1 : parseMethodDescriptor "()V" = some ⟨[], none⟩ := by decide +kernel
theorem pd_2 : parseMethodDescriptor "(D)Z" = some ⟨[.double], some .boolean⟩ := by decide +kernel
theorem pd_3 : parseMethodDescriptor "()D" = some ⟨[], some .double⟩ := by decide +kernel
theorem pd_4 : parseMethodDescriptor "(D)V" = some ⟨[.double], none⟩ := by decide +kernel
theorem pd_5 : parseMethodDescriptor "(Lcom/example/gavelflow/gavelflow/market/Discounting;)D" = some ⟨[(.object "com/example/gavelflow/gavelflow/market/Discounting")], some .double⟩ := by decide +kernel
theorem ef_rc (m : MethodId) (a1 : Addr) : entryFrame m #[(.ref a1)] 1 = (mkF m 0 #[.val (.ref a1)] []) := by first | (simp [entryFrame, mkF, argsToLocals, Value.category]; done) | rfl
def Q_rc (Z : State) (a1 : Addr)  (h0 : Heap) (n0 : Nat) (v : Option Value) (h : Heap) (L : List Loc) : Prop := v = none ∧ Fr n0 L ∧ h = h0
set_option maxRecDepth 65536 in
set_option maxHeartbeats 40000000 in
theorem rm_rc (l : Launch) (Z : State) (a0 : Array Value) (hw : ∀ d ∈ tables_1, d.before a0 Z = true) (ws : List Jvm.Cond) (a1 : Addr)  (h0 : Heap) (n0 : Nat) (Z0 : n0 ≤ h0.size)    :
    MetFree l (⟨"java/lang/Record", "<init>", "()V"⟩ : MethodName) (head1 (Jvm.Cond.code (⟨"java/lang/Record", "<init>", "()V"⟩ : MethodName) jdk_30_method_1_code 1 none :: ws) ({ frames := 1, cells := 0, slots := 0, locals := 12 } : Room)) (fun a U => a = #[(.ref a1)] ∧ Z.Warmed39 U.vm ∧ U.heap = h0) (fun _ _ _ _ _ => True) (fun _ U o U' => ∃ v L, o = .returned v ∧ Q_rc Z a1  h0 n0 v U'.heap L ∧ FrameEnd U o U' L ({ frames := 1, cells := 0, slots := 0, locals := 12 } : Room).cells ({ frames := 1, cells := 0, slots := 0, locals := 12 } : Room).slots) := by
  refine MetFree.of_bodySF (plainFor_of_name pn_0) hisR ?_
  intro p e s m args below meth c s₁ Bd hml0 hP hK
  obtain ⟨rfl, hZ, hh⟩ := hP
  have hx := Bd.exec
  have hby := Bd.bytes
  have hml : c.maxLocals = 1 := hml0
  have hown : s.vm.findClass "java/lang/Record" = some m.cls := findClass_of_methodNamed Bd.named
  have hnm := (name_of_methodNamed Bd.named Bd.method).1
  have X0 : Stand p l e ({ frames := 1, cells := 0, slots := 0, locals := 12 } : Room) s m #[(.ref a1)] below meth c s₁ [] 0 0 := Stand.of_body Bd
  have e0 : s₁.heap = h0 := by rw [← hh, Bd.state]; rfl
  have N0 := Fr.nil n0
  have pre0 : ∀ t, Steps p.tables e below (s₁.setTop (mkF m 0 #[.val (.ref a1)] [])) t → Steps p.tables e below (s₁.setTop (entryFrame m #[(.ref a1)] 1)) t := fun t k => castTop (ef_rc m a1) k
  obtain ⟨T1, X1, e1, st1⟩ := initO X0 hx hZ hown (hw _ (List.mem_of_getElem? (i := 12) rfl)) (hw _ (List.mem_of_getElem? (i := 13) rfl)) (hw _ (List.mem_of_getElem? (i := 14) rfl)) e0 (g := (mkF m 1 #[.val (.ref a1)] [(.ref a1)])) rfl (by rw [hml]; rfl) rfl (hb hby d2_1) (by decide) (W := 0) (by show 2 * 0 + _ ≤ _; exact Nat.le_of_eq rfl) (by decide)
  obtain ⟨fs, hr, hrun, hended, hW, hsame⟩ := X1.leave (v := none) (fun _ => rfl)
  refine ⟨_, _, pre0 _ ?_, hrun, hended, _, _, rfl, ?_, ⟨_, rfl⟩, hW, hsame.mono (Nat.le_of_ble_eq_true rfl) (Nat.le_of_ble_eq_true rfl)⟩
  · show Steps p.tables e below (s₁.setTop (mkF m 0 #[.val (.ref a1)] [])) _
    refine XS.aloadN X0.here hx rfl (hb hby d2_0) rfl rfl ?_
    show Steps p.tables e below (s₁.setTop (mkF m 1 #[.val (.ref a1)] [(.ref a1)])) _
    refine st1 _ ?_
    show Steps p.tables e below (T1.setTop (mkF m 4 #[.val (.ref a1)] [])) _
    exact X1.returnOut hx Bd.returns (hb hby d2_4) hr
  · show Q_rc Z a1  h0 n0 _ T1.heap _
    exact ⟨rfl, N0, e1⟩
theorem ef_fi (m : MethodId) (d1 : UInt64) : entryFrame m #[(.double d1)] 2 = (mkF m 0 #[.val (.double d1), .second] []) := by first | (simp [entryFrame, mkF, argsToLocals, Value.category]; done) | rfl
def Q_fi (Z : State) (d1 : UInt64)  (h0 : Heap) (n0 : Nat) (v : Option Value) (h : Heap) (L : List Loc) : Prop := v = some (.int (fi_res d1)) ∧ Fr n0 L ∧ h = h0
set_option maxRecDepth 65536 in
set_option maxHeartbeats 40000000 in
theorem rm_fi (l : Launch) (Z : State) (a0 : Array Value) (hw : ∀ d ∈ tables_1, d.before a0 Z = true) (ws : List Jvm.Cond) (d1 : UInt64)  (h0 : Heap) (n0 : Nat) (Z0 : n0 ≤ h0.size)  (hnn : Jvm.Free.Fl.NoNaN64 d1)  :
    MetFree l (⟨"java/lang/Double", "isFinite", "(D)Z"⟩ : MethodName) (head1 (Jvm.Cond.code (⟨"java/lang/Double", "isFinite", "(D)Z"⟩ : MethodName) jdk_117_method_8_code 2 (some .boolean) :: ws) ({ frames := 1, cells := 0, slots := 0, locals := 13 } : Room)) (fun a U => a = #[(.double d1)] ∧ Z.Warmed39 U.vm ∧ U.heap = h0) (fun _ _ _ _ _ => True) (fun _ U o U' => ∃ v L, o = .returned v ∧ Q_fi Z d1  h0 n0 v U'.heap L ∧ FrameEnd U o U' L ({ frames := 1, cells := 0, slots := 0, locals := 13 } : Room).cells ({ frames := 1, cells := 0, slots := 0, locals := 13 } : Room).slots) := by
  refine MetFree.of_bodySF (plainFor_of_name pn_1) hisR ?_
  intro p e s m args below meth c s₁ Bd hml0 hP hK
  obtain ⟨rfl, hZ, hh⟩ := hP
  have hx := Bd.exec
  have hby := Bd.bytes
  have hml : c.maxLocals = 2 := hml0
  have hown : s.vm.findClass "java/lang/Double" = some m.cls := findClass_of_methodNamed Bd.named
  have hnm := (name_of_methodNamed Bd.named Bd.method).1
  have X0 : Stand p l e ({ frames := 1, cells := 0, slots := 0, locals := 13 } : Room) s m #[(.double d1)] below meth c s₁ [] 0 0 := Stand.of_body Bd
  have e0 : s₁.heap = h0 := by rw [← hh, Bd.state]; rfl
  have N0 := Fr.nil n0
  have pre0 : ∀ t, Steps p.tables e below (s₁.setTop (mkF m 0 #[.val (.double d1), .second] [])) t → Steps p.tables e below (s₁.setTop (entryFrame m #[(.double d1)] 2)) t := fun t k => castTop (ef_fi m d1) k
  obtain ⟨T1, X1, e1, st1⟩ := natS X0 hx hZ (y := (⟨"java/lang/Math", "abs", "(D)D"⟩ : MethodName)) hown (hw _ (List.mem_of_getElem? (i := 19) rfl)) (hw _ (List.mem_of_getElem? (i := 20) rfl)) (hw _ (List.mem_of_getElem? (i := 21) rfl)) (hw _ (List.mem_of_getElem? (i := 22) rfl)) (by decide) e0 (W := 0) (F := fun a' => a' = #[(.double d1)] ∧ Jvm.Free.Fl.NoNaN64 d1) (val := .double (d1 &&& 0x7fffffffffffffff)) (val' := .double (d1 &&& 0x7fffffffffffffff)) (fun c4 => Jvm.Free.Fl.Abs.absD_pays d1 c4 (by decide) (by decide)) (g := (mkF m 1 #[.val (.double d1), .second] [(.double d1)])) rfl (by rw [hml]; rfl) (argsL := [(.double d1)]) (rest := []) (lenOf pd_0 rfl) rfl (by show 2 * 0 + _ ≤ _; exact Nat.le_of_eq rfl) (hb hby d4_1) (by decide) (by decide) ⟨rfl, hnn⟩ rfl
  obtain ⟨fs, hr, hrun, hended, hW, hsame⟩ := X1.leave (v := some (.int (fi_res d1))) (fun h => by rw [Bd.returns] at h; cases h)
  refine ⟨_, _, pre0 _ ?_, hrun, hended, _, _, rfl, ?_, ⟨_, rfl⟩, hW, hsame.mono (Nat.le_of_ble_eq_true rfl) (Nat.le_of_ble_eq_true rfl)⟩
  · show Steps p.tables e below (s₁.setTop (mkF m 0 #[.val (.double d1), .second] [])) _
    refine XS.dloadN X0.here hx rfl (hb hby d4_0) rfl ?_
    show Steps p.tables e below (s₁.setTop (mkF m 1 #[.val (.double d1), .second] [(.double d1)])) _
    refine st1 _ ?_
    show Steps p.tables e below (T1.setTop (mkF m 4 #[.val (.double d1), .second] [(.double (d1 &&& 0x7fffffffffffffff))])) _
    refine X1.ldc2DoubleC hx hown (mvT hZ (hw _ (List.mem_of_getElem? (i := 23) rfl))) (g := (mkF m 4 #[.val (.double d1), .second] [(.double (d1 &&& 0x7fffffffffffffff))])) rfl (hb hby d4_4) _ ?_
    show Steps p.tables e below (T1.setTop (mkF m 7 #[.val (.double d1), .second] [(.double (9218868437227405311 : UInt64)), (.double (d1 &&& 0x7fffffffffffffff))])) _
    refine XS.dcmpS X1.here hx rfl (hb hby d4_7) rfl rfl ?_
    show Steps p.tables e below (T1.setTop (mkF m 8 #[.val (.double d1), .second] [(.int (cmpValue (FP.dcmp (d1 &&& 0x7fffffffffffffff) (9218868437227405311 : UInt64)) .g))])) _
    by_cases c2 : (ifCond.holds .gt (cmpValue (FP.dcmp (d1 &&& 0x7fffffffffffffff) (9218868437227405311 : UInt64)) .g)) = true
    · refine XS.ifYes X1.here hx rfl (pc0 := 8) (pc' := 15) rfl (hb hby d4_8) rfl c2 (by decide) (by decide) ?_
      show Steps p.tables e below (T1.setTop (mkF m 15 #[.val (.double d1), .second] [])) _
      refine XS.iconst X1.here hx rfl (hb hby d4_15) ?_
      show Steps p.tables e below (T1.setTop (mkF m 16 #[.val (.double d1), .second] [(.int (0 : Int32))])) _
      have q : (fi_res d1) = (0 : Int32) := by simp only [fi_res, c2, if_true, if_false, Bool.false_eq_true]; try rfl
      rw [q] at hr
      exact retN X1 hx (t := .boolean) Bd.returns (by simp) (hb hby d4_16) hr
    · refine XS.ifNo X1.here hx rfl (hb hby d4_8) rfl (Bool.eq_false_iff.mpr c2) ?_
      show Steps p.tables e below (T1.setTop (mkF m 11 #[.val (.double d1), .second] [])) _
      refine XS.iconst X1.here hx rfl (hb hby d4_11) ?_
      show Steps p.tables e below (T1.setTop (mkF m 12 #[.val (.double d1), .second] [(.int (1 : Int32))])) _
      refine XS.goto X1.here hx rfl (pc0 := 12) (pc' := 16) rfl (hb hby d4_12) (by decide) (by decide) ?_
      show Steps p.tables e below (T1.setTop (mkF m 16 #[.val (.double d1), .second] [(.int (1 : Int32))])) _
      have q : (fi_res d1) = (1 : Int32) := by simp only [fi_res, c2, if_true, if_false, Bool.false_eq_true]; try rfl
      rw [q] at hr
      exact retN X1 hx (t := .boolean) Bd.returns (by simp) (hb hby d4_16) hr
  · show Q_fi Z d1  h0 n0 _ T1.heap _
    exact ⟨rfl, N0, e1⟩
theorem ef_ip (m : MethodId) (a1 : Addr) (d1 : UInt64) : entryFrame m #[(.ref a1), (.double d1)] 3 = (mkF m 0 #[.val (.ref a1), .val (.double d1), .second] []) := by first | (simp [entryFrame, mkF, argsToLocals, Value.category]; done) | rfl
def Q_ip (Z : State) (a1 : Addr) (d1 : UInt64)  (h0 : Heap) (n0 : Nat) (v : Option Value) (h : Heap) (L : List Loc) : Prop := v = none ∧ Fr n0 L ∧ Keep h0 h [a1] ∧ (Exa Z h a1 "com/example/gavelflow/gavelflow/market/PoissonArrivals") ∧ (Fld Z h a1 "com/example/gavelflow/gavelflow/market/PoissonArrivals" "rate" "D" (.double d1))
set_option maxRecDepth 65536 in
set_option maxHeartbeats 40000000 in
theorem rm_ip (l : Launch) (Z : State) (a0 : Array Value) (hw : ∀ d ∈ tables_1, d.before a0 Z = true) (ws : List Jvm.Cond) (a1 : Addr) (d1 : UInt64)  (h0 : Heap) (n0 : Nat) (Z0 : n0 ≤ h0.size) (k0_ : Fld Z h0 a1 "com/example/gavelflow/gavelflow/market/PoissonArrivals" "rate" "D" (.double (0 : UInt64))) (k1_ : Exa Z h0 a1 "com/example/gavelflow/gavelflow/market/PoissonArrivals") (k2_ : n0 ≤ a1) (hnn : Jvm.Free.Fl.NoNaN64 d1) (hfin : ifCond.holds .eq (fi_res d1) = false) (hpos : ifCond.holds .gt (cmpValue (FP.dcmp d1 (0 : UInt64)) .l) = true)  :
    MetFree l (⟨"com/example/gavelflow/gavelflow/market/PoissonArrivals", "<init>", "(D)V"⟩ : MethodName) (head1 (Jvm.Cond.code (⟨"com/example/gavelflow/gavelflow/market/PoissonArrivals", "<init>", "(D)V"⟩ : MethodName) prog_18_method_1_code 3 none :: ws) ({ frames := 2, cells := 0, slots := 0, locals := 26 } : Room)) (fun a U => a = #[(.ref a1), (.double d1)] ∧ Z.Warmed39 U.vm ∧ U.heap = h0) (fun _ _ _ _ _ => True) (fun _ U o U' => ∃ v L, o = .returned v ∧ Q_ip Z a1 d1  h0 n0 v U'.heap L ∧ FrameEnd U o U' L ({ frames := 2, cells := 0, slots := 0, locals := 26 } : Room).cells ({ frames := 2, cells := 0, slots := 0, locals := 26 } : Room).slots) := by
  refine MetFree.of_bodySF (plainFor_of_name pn_2) hisR ?_
  intro p e s m args below meth c s₁ Bd hml0 hP hK
  obtain ⟨rfl, hZ, hh⟩ := hP
  have hx := Bd.exec
  have hby := Bd.bytes
  have hml : c.maxLocals = 3 := hml0
  have hown : s.vm.findClass "com/example/gavelflow/gavelflow/market/PoissonArrivals" = some m.cls := findClass_of_methodNamed Bd.named
  have hnm := (name_of_methodNamed Bd.named Bd.method).1
  have X0 : Stand p l e ({ frames := 2, cells := 0, slots := 0, locals := 26 } : Room) s m #[(.ref a1), (.double d1)] below meth c s₁ [] 0 0 := Stand.of_body Bd
  have e0 : s₁.heap = h0 := by rw [← hh, Bd.state]; rfl
  have N0 := Fr.nil n0
  have pre0 : ∀ t, Steps p.tables e below (s₁.setTop (mkF m 0 #[.val (.ref a1), .val (.double d1), .second] [])) t → Steps p.tables e below (s₁.setTop (entryFrame m #[(.ref a1), (.double d1)] 3)) t := fun t k => castTop (ef_ip m a1 d1) k
  have K0 := Keep.refl h0 [a1]
  obtain ⟨_, _, ⟨T1, L1, k1, n1⟩, -, X1, ⟨Lc1, hQ1, l1, y1, z1⟩, st1⟩ := X0.specialBack hx (y := (⟨"java/lang/Record", "<init>", "()V"⟩ : MethodName)) rfl hown (mvT hZ (hw _ (List.mem_of_getElem? (i := 7) rfl))) (mvT hZ (hw _ (List.mem_of_getElem? (i := 8) rfl))) (mvT hZ (hw _ (List.mem_of_getElem? (i := 11) rfl))) (by decide) (backOf (W := 0) (rm_rc l Z a0 hw [] a1  (h0) n0 Z0  ) hZ (hw _ (List.mem_of_getElem? (i := 11) rfl)) (hw _ (List.mem_of_getElem? (i := 10) rfl)) (by decide) (by decide)) (g := (mkF m 1 #[.val (.ref a1), .val (.double d1), .second] [(.ref a1)])) rfl (by rw [hml]; rfl) (Steps.refl _) (a := a1) (argsL := []) (rest := []) (lenOf pd_1 rfl) rfl (by show 2 * 0 + _ ≤ _; exact Nat.le_of_eq rfl) (hb hby d1_1) (fun _ _ => ⟨rfl, e0, (by decide : 0 + 0 ≤ _), (by decide : 0 + 0 ≤ _)⟩)
  dsimp only [Pt.U, Pt.locs, Pt.cells, Pt.slots] at X1 l1 y1 z1 st1 hQ1
  subst l1 y1 z1
  obtain ⟨rfl, N1, e1⟩ := hQ1
  have Nn1 := Fr.app N0 N1
  obtain ⟨_, _, ⟨T2, L2, k2, n2⟩, -, X2, ⟨Lc2, hQ2, l2, y2, z2⟩, st2⟩ := Jvm.LawKit.callS X1 hx (y := (⟨"java/lang/Double", "isFinite", "(D)Z"⟩ : MethodName)) hown (mvT hZ (hw _ (List.mem_of_getElem? (i := 15) rfl))) (mvT hZ (hw _ (List.mem_of_getElem? (i := 16) rfl))) (mvT hZ (hw _ (List.mem_of_getElem? (i := 17) rfl))) (mvT hZ (hw _ (List.mem_of_getElem? (i := 18) rfl))) (by decide) (backOf (W := 0) (rm_fi l Z a0 hw [] d1  (h0) n0 Z0  hnn) hZ (hw _ (List.mem_of_getElem? (i := 18) rfl)) (hw _ (List.mem_of_getElem? (i := 17) rfl)) (by decide) (by decide)) (g := (mkF m 5 #[.val (.ref a1), .val (.double d1), .second] [(.double d1)])) rfl (by rw [hml]; rfl) (argsL := [(.double d1)]) (rest := []) (lenOf pd_2 rfl) rfl (by show 2 * 0 + _ ≤ _; exact Nat.le_of_eq rfl) (hb hby d1_5) (fun _ _ => ⟨rfl, e1, (by decide : 0 + 0 ≤ _), (by decide : 0 + 0 ≤ _)⟩)
  dsimp only [Pt.U, Pt.locs, Pt.cells, Pt.slots] at X2 l2 y2 z2 st2 hQ2
  subst l2 y2 z2
  obtain ⟨rfl, N2, e2⟩ := hQ2
  have Nn2 := Fr.app Nn1 N2
  obtain ⟨T3, h3, X3, e3, W3, st3⟩ := putF X2 hx hZ hown (host := "") (Or.inl (hw _ (List.mem_of_getElem? (i := 24) rfl))) Via.refl e2 k0_ k1_ (Or.inr ⟨(hw _ (List.mem_of_getElem? (i := 25) rfl)), rfl, hnm⟩) (hw _ (List.mem_of_getElem? (i := 2) rfl)) (ty := .double) (by decide) rfl rfl (g := (mkF m 33 #[.val (.ref a1), .val (.double d1), .second] [(.double d1), (.ref a1)])) rfl rfl (hb hby d1_33)
  have Nn3 := Fr.snoc X3 Nn2 k2_
  have q4 : Exa Z h3 a1 "com/example/gavelflow/gavelflow/market/PoissonArrivals" := (k1_.wr W3)
  have q3n : Fld Z h3 a1 "com/example/gavelflow/gavelflow/market/PoissonArrivals" "rate" "D" (.double d1) := (k0_.same W3)
  have K3 := K0.wr W3 (Or.inl (List.mem_of_getElem? (i := 0) rfl))
  have Z3 : n0 ≤ h3.size := Nat.le_trans Z0 (Keep.of_wr W3).1
  obtain ⟨fs, hr, hrun, hended, hW, hsame⟩ := X3.leave (v := none) (fun _ => rfl)
  refine ⟨_, _, pre0 _ ?_, hrun, hended, _, _, rfl, ?_, ⟨_, rfl⟩, hW, hsame.mono (Nat.le_of_ble_eq_true rfl) (Nat.le_of_ble_eq_true rfl)⟩
  · show Steps p.tables e below (s₁.setTop (mkF m 0 #[.val (.ref a1), .val (.double d1), .second] [])) _
    refine XS.aloadN X0.here hx rfl (hb hby d1_0) rfl rfl ?_
    show Steps p.tables e below (s₁.setTop (mkF m 1 #[.val (.ref a1), .val (.double d1), .second] [(.ref a1)])) _
    refine st1.trans ?_
    show Steps p.tables e below (T1.setTop (mkF m 4 #[.val (.ref a1), .val (.double d1), .second] [])) _
    refine XS.dloadN X1.here hx rfl (hb hby d1_4) rfl ?_
    show Steps p.tables e below (T1.setTop (mkF m 5 #[.val (.ref a1), .val (.double d1), .second] [(.double d1)])) _
    refine st2 _ ?_
    show Steps p.tables e below (T2.setTop (mkF m 8 #[.val (.ref a1), .val (.double d1), .second] [(.int (fi_res d1))])) _
    refine XS.ifNo X2.here hx rfl (hb hby d1_8) rfl hfin ?_
    show Steps p.tables e below (T2.setTop (mkF m 11 #[.val (.ref a1), .val (.double d1), .second] [])) _
    refine XS.dloadN X2.here hx rfl (hb hby d1_11) rfl ?_
    show Steps p.tables e below (T2.setTop (mkF m 12 #[.val (.ref a1), .val (.double d1), .second] [(.double d1)])) _
    refine XS.dconst0 X2.here hx rfl (hb hby d1_12) rfl ?_
    show Steps p.tables e below (T2.setTop (mkF m 13 #[.val (.ref a1), .val (.double d1), .second] [(.double (0 : UInt64)), (.double d1)])) _
    refine XS.dcmpS X2.here hx rfl (hb hby d1_13) rfl rfl ?_
    show Steps p.tables e below (T2.setTop (mkF m 14 #[.val (.ref a1), .val (.double d1), .second] [(.int (cmpValue (FP.dcmp d1 (0 : UInt64)) .l))])) _
    refine XS.ifYes X2.here hx rfl (pc0 := 14) (pc' := 31) rfl (hb hby d1_14) rfl hpos (by decide) (by decide) ?_
    show Steps p.tables e below (T2.setTop (mkF m 31 #[.val (.ref a1), .val (.double d1), .second] [])) _
    refine XS.aloadN X2.here hx rfl (hb hby d1_31) rfl rfl ?_
    show Steps p.tables e below (T2.setTop (mkF m 32 #[.val (.ref a1), .val (.double d1), .second] [(.ref a1)])) _
    refine XS.dloadN X2.here hx rfl (hb hby d1_32) rfl ?_
    show Steps p.tables e below (T2.setTop (mkF m 33 #[.val (.ref a1), .val (.double d1), .second] [(.double d1), (.ref a1)])) _
    refine st3 _ ?_
    show Steps p.tables e below (T3.setTop (mkF m 36 #[.val (.ref a1), .val (.double d1), .second] [])) _
    exact X3.returnOut hx Bd.returns (hb hby d1_36) hr
  · show Q_ip Z a1 d1  h0 n0 _ T3.heap _
    rw [e3]
    exact ⟨rfl, Nn3, K3, q4, q3n⟩
theorem ef_idd (m : MethodId) (a1 : Addr) (d1 : UInt64) : entryFrame m #[(.ref a1), (.double d1)] 3 = (mkF m 0 #[.val (.ref a1), .val (.double d1), .second] []) := by first | (simp [entryFrame, mkF, argsToLocals, Value.category]; done) | rfl
def Q_idd (Z : State) (a1 : Addr) (d1 : UInt64)  (h0 : Heap) (n0 : Nat) (v : Option Value) (h : Heap) (L : List Loc) : Prop := v = none ∧ Fr n0 L ∧ Keep h0 h [a1] ∧ (Exa Z h a1 "com/example/gavelflow/gavelflow/market/Discounting") ∧ (Fld Z h a1 "com/example/gavelflow/gavelflow/market/Discounting" "forceOfInterest" "D" (.double d1))
set_option maxRecDepth 65536 in
set_option maxHeartbeats 40000000 in
theorem rm_idd (l : Launch) (Z : State) (a0 : Array Value) (hw : ∀ d ∈ tables_1, d.before a0 Z = true) (ws : List Jvm.Cond) (a1 : Addr) (d1 : UInt64)  (h0 : Heap) (n0 : Nat) (Z0 : n0 ≤ h0.size) (k0_ : Fld Z h0 a1 "com/example/gavelflow/gavelflow/market/Discounting" "forceOfInterest" "D" (.double (0 : UInt64))) (k1_ : Exa Z h0 a1 "com/example/gavelflow/gavelflow/market/Discounting") (k2_ : n0 ≤ a1) (hnn : Jvm.Free.Fl.NoNaN64 d1) (hfin : ifCond.holds .eq (fi_res d1) = false) (hpos : ifCond.holds .gt (cmpValue (FP.dcmp d1 (0 : UInt64)) .l) = true)  :
    MetFree l (⟨"com/example/gavelflow/gavelflow/market/Discounting", "<init>", "(D)V"⟩ : MethodName) (head1 (Jvm.Cond.code (⟨"com/example/gavelflow/gavelflow/market/Discounting", "<init>", "(D)V"⟩ : MethodName) prog_13_method_1_code 3 none :: ws) ({ frames := 2, cells := 0, slots := 0, locals := 26 } : Room)) (fun a U => a = #[(.ref a1), (.double d1)] ∧ Z.Warmed39 U.vm ∧ U.heap = h0) (fun _ _ _ _ _ => True) (fun _ U o U' => ∃ v L, o = .returned v ∧ Q_idd Z a1 d1  h0 n0 v U'.heap L ∧ FrameEnd U o U' L ({ frames := 2, cells := 0, slots := 0, locals := 26 } : Room).cells ({ frames := 2, cells := 0, slots := 0, locals := 26 } : Room).slots) := by
  refine MetFree.of_bodySF (plainFor_of_name pn_3) hisR ?_
  intro p e s m args below meth c s₁ Bd hml0 hP hK
  obtain ⟨rfl, hZ, hh⟩ := hP
  have hx := Bd.exec
  have hby := Bd.bytes
  have hml : c.maxLocals = 3 := hml0
  have hown : s.vm.findClass "com/example/gavelflow/gavelflow/market/Discounting" = some m.cls := findClass_of_methodNamed Bd.named
  have hnm := (name_of_methodNamed Bd.named Bd.method).1
  have X0 : Stand p l e ({ frames := 2, cells := 0, slots := 0, locals := 26 } : Room) s m #[(.ref a1), (.double d1)] below meth c s₁ [] 0 0 := Stand.of_body Bd
  have e0 : s₁.heap = h0 := by rw [← hh, Bd.state]; rfl
  have N0 := Fr.nil n0
  have pre0 : ∀ t, Steps p.tables e below (s₁.setTop (mkF m 0 #[.val (.ref a1), .val (.double d1), .second] [])) t → Steps p.tables e below (s₁.setTop (entryFrame m #[(.ref a1), (.double d1)] 3)) t := fun t k => castTop (ef_idd m a1 d1) k
  have K0 := Keep.refl h0 [a1]
  obtain ⟨_, _, ⟨T1, L1, k1, n1⟩, -, X1, ⟨Lc1, hQ1, l1, y1, z1⟩, st1⟩ := X0.specialBack hx (y := (⟨"java/lang/Record", "<init>", "()V"⟩ : MethodName)) rfl hown (mvT hZ (hw _ (List.mem_of_getElem? (i := 32) rfl))) (mvT hZ (hw _ (List.mem_of_getElem? (i := 8) rfl))) (mvT hZ (hw _ (List.mem_of_getElem? (i := 11) rfl))) (by decide) (backOf (W := 0) (rm_rc l Z a0 hw [] a1  (h0) n0 Z0  ) hZ (hw _ (List.mem_of_getElem? (i := 11) rfl)) (hw _ (List.mem_of_getElem? (i := 10) rfl)) (by decide) (by decide)) (g := (mkF m 1 #[.val (.ref a1), .val (.double d1), .second] [(.ref a1)])) rfl (by rw [hml]; rfl) (Steps.refl _) (a := a1) (argsL := []) (rest := []) (lenOf pd_1 rfl) rfl (by show 2 * 0 + _ ≤ _; exact Nat.le_of_eq rfl) (hb hby d6_1) (fun _ _ => ⟨rfl, e0, (by decide : 0 + 0 ≤ _), (by decide : 0 + 0 ≤ _)⟩)
  dsimp only [Pt.U, Pt.locs, Pt.cells, Pt.slots] at X1 l1 y1 z1 st1 hQ1
  subst l1 y1 z1
  obtain ⟨rfl, N1, e1⟩ := hQ1
  have Nn1 := Fr.app N0 N1
  obtain ⟨_, _, ⟨T2, L2, k2, n2⟩, -, X2, ⟨Lc2, hQ2, l2, y2, z2⟩, st2⟩ := Jvm.LawKit.callS X1 hx (y := (⟨"java/lang/Double", "isFinite", "(D)Z"⟩ : MethodName)) hown (mvT hZ (hw _ (List.mem_of_getElem? (i := 33) rfl))) (mvT hZ (hw _ (List.mem_of_getElem? (i := 16) rfl))) (mvT hZ (hw _ (List.mem_of_getElem? (i := 17) rfl))) (mvT hZ (hw _ (List.mem_of_getElem? (i := 18) rfl))) (by decide) (backOf (W := 0) (rm_fi l Z a0 hw [] d1  (h0) n0 Z0  hnn) hZ (hw _ (List.mem_of_getElem? (i := 18) rfl)) (hw _ (List.mem_of_getElem? (i := 17) rfl)) (by decide) (by decide)) (g := (mkF m 5 #[.val (.ref a1), .val (.double d1), .second] [(.double d1)])) rfl (by rw [hml]; rfl) (argsL := [(.double d1)]) (rest := []) (lenOf pd_2 rfl) rfl (by show 2 * 0 + _ ≤ _; exact Nat.le_of_eq rfl) (hb hby d6_5) (fun _ _ => ⟨rfl, e1, (by decide : 0 + 0 ≤ _), (by decide : 0 + 0 ≤ _)⟩)
  dsimp only [Pt.U, Pt.locs, Pt.cells, Pt.slots] at X2 l2 y2 z2 st2 hQ2
  subst l2 y2 z2
  obtain ⟨rfl, N2, e2⟩ := hQ2
  have Nn2 := Fr.app Nn1 N2
  obtain ⟨T3, h3, X3, e3, W3, st3⟩ := putF X2 hx hZ hown (host := "") (Or.inl (hw _ (List.mem_of_getElem? (i := 34) rfl))) Via.refl e2 k0_ k1_ (Or.inr ⟨(hw _ (List.mem_of_getElem? (i := 35) rfl)), rfl, hnm⟩) (hw _ (List.mem_of_getElem? (i := 27) rfl)) (ty := .double) (by decide) rfl rfl (g := (mkF m 33 #[.val (.ref a1), .val (.double d1), .second] [(.double d1), (.ref a1)])) rfl rfl (hb hby d6_33)
  have Nn3 := Fr.snoc X3 Nn2 k2_
  have q4 : Exa Z h3 a1 "com/example/gavelflow/gavelflow/market/Discounting" := (k1_.wr W3)
  have q3n : Fld Z h3 a1 "com/example/gavelflow/gavelflow/market/Discounting" "forceOfInterest" "D" (.double d1) := (k0_.same W3)
  have K3 := K0.wr W3 (Or.inl (List.mem_of_getElem? (i := 0) rfl))
  have Z3 : n0 ≤ h3.size := Nat.le_trans Z0 (Keep.of_wr W3).1
  obtain ⟨fs, hr, hrun, hended, hW, hsame⟩ := X3.leave (v := none) (fun _ => rfl)
  refine ⟨_, _, pre0 _ ?_, hrun, hended, _, _, rfl, ?_, ⟨_, rfl⟩, hW, hsame.mono (Nat.le_of_ble_eq_true rfl) (Nat.le_of_ble_eq_true rfl)⟩
  · show Steps p.tables e below (s₁.setTop (mkF m 0 #[.val (.ref a1), .val (.double d1), .second] [])) _
    refine XS.aloadN X0.here hx rfl (hb hby d6_0) rfl rfl ?_
    show Steps p.tables e below (s₁.setTop (mkF m 1 #[.val (.ref a1), .val (.double d1), .second] [(.ref a1)])) _
    refine st1.trans ?_
    show Steps p.tables e below (T1.setTop (mkF m 4 #[.val (.ref a1), .val (.double d1), .second] [])) _
    refine XS.dloadN X1.here hx rfl (hb hby d6_4) rfl ?_
    show Steps p.tables e below (T1.setTop (mkF m 5 #[.val (.ref a1), .val (.double d1), .second] [(.double d1)])) _
    refine st2 _ ?_
    show Steps p.tables e below (T2.setTop (mkF m 8 #[.val (.ref a1), .val (.double d1), .second] [(.int (fi_res d1))])) _
    refine XS.ifNo X2.here hx rfl (hb hby d6_8) rfl hfin ?_
    show Steps p.tables e below (T2.setTop (mkF m 11 #[.val (.ref a1), .val (.double d1), .second] [])) _
    refine XS.dloadN X2.here hx rfl (hb hby d6_11) rfl ?_
    show Steps p.tables e below (T2.setTop (mkF m 12 #[.val (.ref a1), .val (.double d1), .second] [(.double d1)])) _
    refine XS.dconst0 X2.here hx rfl (hb hby d6_12) rfl ?_
    show Steps p.tables e below (T2.setTop (mkF m 13 #[.val (.ref a1), .val (.double d1), .second] [(.double (0 : UInt64)), (.double d1)])) _
    refine XS.dcmpS X2.here hx rfl (hb hby d6_13) rfl rfl ?_
    show Steps p.tables e below (T2.setTop (mkF m 14 #[.val (.ref a1), .val (.double d1), .second] [(.int (cmpValue (FP.dcmp d1 (0 : UInt64)) .l))])) _
    refine XS.ifYes X2.here hx rfl (pc0 := 14) (pc' := 31) rfl (hb hby d6_14) rfl hpos (by decide) (by decide) ?_
    show Steps p.tables e below (T2.setTop (mkF m 31 #[.val (.ref a1), .val (.double d1), .second] [])) _
    refine XS.aloadN X2.here hx rfl (hb hby d6_31) rfl rfl ?_
    show Steps p.tables e below (T2.setTop (mkF m 32 #[.val (.ref a1), .val (.double d1), .second] [(.ref a1)])) _
    refine XS.dloadN X2.here hx rfl (hb hby d6_32) rfl ?_
    show Steps p.tables e below (T2.setTop (mkF m 33 #[.val (.ref a1), .val (.double d1), .second] [(.double d1), (.ref a1)])) _
    refine st3 _ ?_
    show Steps p.tables e below (T3.setTop (mkF m 36 #[.val (.ref a1), .val (.double d1), .second] [])) _
    exact X3.returnOut hx Bd.returns (hb hby d6_36) hr
  · show Q_idd Z a1 d1  h0 n0 _ T3.heap _
    rw [e3]
    exact ⟨rfl, Nn3, K3, q4, q3n⟩
theorem ef_fo (m : MethodId) (a1 : Addr) : entryFrame m #[(.ref a1)] 1 = (mkF m 0 #[.val (.ref a1)] []) := by first | (simp [entryFrame, mkF, argsToLocals, Value.category]; done) | rfl
def Q_fo (Z : State) (a1 : Addr) (d9 : UInt64) (h0 : Heap) (n0 : Nat) (v : Option Value) (h : Heap) (L : List Loc) : Prop := v = some (.double d9) ∧ Fr n0 L ∧ h = h0
set_option maxRecDepth 65536 in
set_option maxHeartbeats 40000000 in
theorem rm_fo (l : Launch) (Z : State) (a0 : Array Value) (hw : ∀ d ∈ tables_1, d.before a0 Z = true) (ws : List Jvm.Cond) (a1 : Addr) (d9 : UInt64) (h0 : Heap) (n0 : Nat) (Z0 : n0 ≤ h0.size) (k0_ : Fld Z h0 a1 "com/example/gavelflow/gavelflow/market/Discounting" "forceOfInterest" "D" (.double d9))   :
    MetFree l (⟨"com/example/gavelflow/gavelflow/market/Discounting", "forceOfInterest", "()D"⟩ : MethodName) (head1 (Jvm.Cond.code (⟨"com/example/gavelflow/gavelflow/market/Discounting", "forceOfInterest", "()D"⟩ : MethodName) prog_13_method_10_code 1 (some .double) :: ws) ({ frames := 0, cells := 0, slots := 0, locals := 0 } : Room)) (fun a U => a = #[(.ref a1)] ∧ Z.Warmed39 U.vm ∧ U.heap = h0) (fun _ _ _ _ _ => True) (fun _ U o U' => ∃ v L, o = .returned v ∧ Q_fo Z a1 d9 h0 n0 v U'.heap L ∧ FrameEnd U o U' L ({ frames := 0, cells := 0, slots := 0, locals := 0 } : Room).cells ({ frames := 0, cells := 0, slots := 0, locals := 0 } : Room).slots) := by
  refine MetFree.of_bodySF (plainFor_of_name pn_3) hisR ?_
  intro p e s m args below meth c s₁ Bd hml0 hP hK
  obtain ⟨rfl, hZ, hh⟩ := hP
  have hx := Bd.exec
  have hby := Bd.bytes
  have hml : c.maxLocals = 1 := hml0
  have hown : s.vm.findClass "com/example/gavelflow/gavelflow/market/Discounting" = some m.cls := findClass_of_methodNamed Bd.named
  have hnm := (name_of_methodNamed Bd.named Bd.method).1
  have X0 : Stand p l e ({ frames := 0, cells := 0, slots := 0, locals := 0 } : Room) s m #[(.ref a1)] below meth c s₁ [] 0 0 := Stand.of_body Bd
  have e0 : s₁.heap = h0 := by rw [← hh, Bd.state]; rfl
  have N0 := Fr.nil n0
  have pre0 : ∀ t, Steps p.tables e below (s₁.setTop (mkF m 0 #[.val (.ref a1)] [])) t → Steps p.tables e below (s₁.setTop (entryFrame m #[(.ref a1)] 1)) t := fun t k => castTop (ef_fo m a1) k
  obtain ⟨T1, X1, e1, st1⟩ := getF X0 hx hZ hown (host := "") (Or.inl (hw _ (List.mem_of_getElem? (i := 34) rfl))) Via.refl e0 k0_ (g := (mkF m 1 #[.val (.ref a1)] [(.ref a1)])) rfl rfl (hb hby d8_1)
  obtain ⟨fs, hr, hrun, hended, hW, hsame⟩ := X1.leave (v := some (.double d9)) (fun h => by rw [Bd.returns] at h; cases h)
  refine ⟨_, _, pre0 _ ?_, hrun, hended, _, _, rfl, ?_, ⟨_, rfl⟩, hW, hsame.mono (Nat.le_of_ble_eq_true rfl) (Nat.le_of_ble_eq_true rfl)⟩
  · show Steps p.tables e below (s₁.setTop (mkF m 0 #[.val (.ref a1)] [])) _
    refine XS.aloadN X0.here hx rfl (hb hby d8_0) rfl rfl ?_
    show Steps p.tables e below (s₁.setTop (mkF m 1 #[.val (.ref a1)] [(.ref a1)])) _
    refine st1 _ ?_
    show Steps p.tables e below (T1.setTop (mkF m 4 #[.val (.ref a1)] [(.double d9)])) _
    exact retOut X1 hx (t := .double) Bd.returns rfl (Or.inr (Or.inr (Or.inl ⟨rfl, rfl, _, rfl⟩))) (hb hby d8_4) hr
  · show Q_fo Z a1 d9 h0 n0 _ T1.heap _
    exact ⟨rfl, N0, e1⟩
theorem ef_dt (m : MethodId) (a1 : Addr) (a2 : Addr) : entryFrame m #[(.ref a1), (.ref a2)] 2 = (mkF m 0 #[.val (.ref a1), .val (.ref a2)] []) := by first | (simp [entryFrame, mkF, argsToLocals, Value.category]; done) | rfl
def Q_dt (Z : State) (a1 : Addr) (a2 : Addr) (d8 : UInt64) (d9 : UInt64) (h0 : Heap) (n0 : Nat) (v : Option Value) (h : Heap) (L : List Loc) : Prop := v = some (.double (FP.ddiv d8 (FP.dadd d8 d9))) ∧ Fr n0 L ∧ h = h0
set_option maxRecDepth 65536 in
set_option maxHeartbeats 40000000 in
theorem rm_dt (l : Launch) (Z : State) (a0 : Array Value) (hw : ∀ d ∈ tables_1, d.before a0 Z = true) (ws : List Jvm.Cond) (a1 : Addr) (a2 : Addr) (d8 : UInt64) (d9 : UInt64) (h0 : Heap) (n0 : Nat) (Z0 : n0 ≤ h0.size) (k0_ : Exa Z h0 a2 "com/example/gavelflow/gavelflow/market/Discounting") (k1_ : Fld Z h0 a1 "com/example/gavelflow/gavelflow/market/PoissonArrivals" "rate" "D" (.double d8)) (k2_ : Fld Z h0 a2 "com/example/gavelflow/gavelflow/market/Discounting" "forceOfInterest" "D" (.double d9))  (nn12 : Jvm.Free.Fl.NoNaN64 (FP.dadd d8 d9)) (nn13 : Jvm.Free.Fl.NoNaN64 (FP.ddiv d8 (FP.dadd d8 d9))) :
    MetFree l (⟨"com/example/gavelflow/gavelflow/market/PoissonArrivals", "discountToNextArrival", "(Lcom/example/gavelflow/gavelflow/market/Discounting;)D"⟩ : MethodName) (head1 (Jvm.Cond.code (⟨"com/example/gavelflow/gavelflow/market/PoissonArrivals", "discountToNextArrival", "(Lcom/example/gavelflow/gavelflow/market/Discounting;)D"⟩ : MethodName) prog_18_method_2_code 2 (some .double) :: ws) ({ frames := 1, cells := 0, slots := 0, locals := 16 } : Room)) (fun a U => a = #[(.ref a1), (.ref a2)] ∧ Z.Warmed39 U.vm ∧ U.heap = h0) (fun _ _ _ _ _ => True) (fun _ U o U' => ∃ v L, o = .returned v ∧ Q_dt Z a1 a2 d8 d9 h0 n0 v U'.heap L ∧ FrameEnd U o U' L ({ frames := 1, cells := 0, slots := 0, locals := 16 } : Room).cells ({ frames := 1, cells := 0, slots := 0, locals := 16 } : Room).slots) := by
  refine MetFree.of_bodySF (plainFor_of_name pn_2) hisR ?_
  intro p e s m args below meth c s₁ Bd hml0 hP hK
  obtain ⟨rfl, hZ, hh⟩ := hP
  have hx := Bd.exec
  have hby := Bd.bytes
  have hml : c.maxLocals = 2 := hml0
  have hown : s.vm.findClass "com/example/gavelflow/gavelflow/market/PoissonArrivals" = some m.cls := findClass_of_methodNamed Bd.named
  have hnm := (name_of_methodNamed Bd.named Bd.method).1
  have X0 : Stand p l e ({ frames := 1, cells := 0, slots := 0, locals := 16 } : Room) s m #[(.ref a1), (.ref a2)] below meth c s₁ [] 0 0 := Stand.of_body Bd
  have e0 : s₁.heap = h0 := by rw [← hh, Bd.state]; rfl
  have N0 := Fr.nil n0
  have pre0 : ∀ t, Steps p.tables e below (s₁.setTop (mkF m 0 #[.val (.ref a1), .val (.ref a2)] [])) t → Steps p.tables e below (s₁.setTop (entryFrame m #[(.ref a1), (.ref a2)] 2)) t := fun t k => castTop (ef_dt m a1 a2) k
  obtain ⟨T1, X1, e1, st1⟩ := getF X0 hx hZ hown (host := "") (Or.inl (hw _ (List.mem_of_getElem? (i := 24) rfl))) Via.refl e0 k1_ (g := (mkF m 1 #[.val (.ref a1), .val (.ref a2)] [(.ref a1)])) rfl rfl (hb hby d7_1)
  obtain ⟨T2, X2, e2, st2⟩ := getF X1 hx hZ hown (host := "") (Or.inl (hw _ (List.mem_of_getElem? (i := 24) rfl))) Via.refl e1 k1_ (g := (mkF m 5 #[.val (.ref a1), .val (.ref a2)] [(.ref a1), (.double d8)])) rfl rfl (hb hby d7_5)
  obtain ⟨cq3, kq3, qa3, qb3, qc3⟩ := isOf hZ e2 k0_
  obtain ⟨_, _, ⟨T3, L3, k3, n3⟩, -, X3, ⟨Lc3, hQ3, l3, y3, z3⟩, st3⟩ := X2.virtualBack hx (y := (⟨"com/example/gavelflow/gavelflow/market/Discounting", "forceOfInterest", "()D"⟩ : MethodName)) (z := (⟨"com/example/gavelflow/gavelflow/market/Discounting", "forceOfInterest", "()D"⟩ : MethodName)) hown (mvT hZ (hw _ (List.mem_of_getElem? (i := 41) rfl))) (mvT hZ (hw _ (List.mem_of_getElem? (i := 42) rfl))) (notFace_of_selects (args := #[]) (mvT hZ (hw _ (List.mem_of_getElem? (i := 44) rfl)))) (mvT hZ (hw _ (List.mem_of_getElem? (i := 44) rfl))) (mvT hZ (hw _ (List.mem_of_getElem? (i := 43) rfl))) (by decide) (backOf (W := 4) (rm_fo l Z a0 hw [] a2 d9 (h0) n0 Z0 k2_ ) hZ (hw _ (List.mem_of_getElem? (i := 45) rfl)) (hw _ (List.mem_of_getElem? (i := 28) rfl)) (by decide) (by decide)) qa3 qc3 (g := (mkF m 9 #[.val (.ref a1), .val (.ref a2)] [(.ref a2), (.double d8), (.double d8)])) rfl (by rw [hml]; rfl) (Steps.refl _) (argsL := []) (rest := [(.double d8), (.double d8)]) (lenOf pd_3 rfl) rfl (by show 2 * 0 + _ ≤ _; exact Nat.le_of_eq rfl) (hb hby d7_9) (fun _ _ => ⟨rfl, e2, (by decide : 0 + 0 ≤ _), (by decide : 0 + 0 ≤ _)⟩)
  dsimp only [Pt.U, Pt.locs, Pt.cells, Pt.slots] at X3 l3 y3 z3 st3 hQ3
  subst l3 y3 z3
  obtain ⟨rfl, N3, e3⟩ := hQ3
  have Nn3 := Fr.app N0 N3
  obtain ⟨fs, hr, hrun, hended, hW, hsame⟩ := X3.leave (v := some (.double (FP.ddiv d8 (FP.dadd d8 d9)))) (fun h => by rw [Bd.returns] at h; cases h)
  refine ⟨_, _, pre0 _ ?_, hrun, hended, _, _, rfl, ?_, ⟨_, rfl⟩, hW, hsame.mono (Nat.le_of_ble_eq_true rfl) (Nat.le_of_ble_eq_true rfl)⟩
  · show Steps p.tables e below (s₁.setTop (mkF m 0 #[.val (.ref a1), .val (.ref a2)] [])) _
    refine XS.aloadN X0.here hx rfl (hb hby d7_0) rfl rfl ?_
    show Steps p.tables e below (s₁.setTop (mkF m 1 #[.val (.ref a1), .val (.ref a2)] [(.ref a1)])) _
    refine st1 _ ?_
    show Steps p.tables e below (T1.setTop (mkF m 4 #[.val (.ref a1), .val (.ref a2)] [(.double d8)])) _
    refine XS.aloadN X1.here hx rfl (hb hby d7_4) rfl rfl ?_
    show Steps p.tables e below (T1.setTop (mkF m 5 #[.val (.ref a1), .val (.ref a2)] [(.ref a1), (.double d8)])) _
    refine st2 _ ?_
    show Steps p.tables e below (T2.setTop (mkF m 8 #[.val (.ref a1), .val (.ref a2)] [(.double d8), (.double d8)])) _
    refine XS.aloadN X2.here hx rfl (hb hby d7_8) rfl rfl ?_
    show Steps p.tables e below (T2.setTop (mkF m 9 #[.val (.ref a1), .val (.ref a2)] [(.ref a2), (.double d8), (.double d8)])) _
    refine st3.trans ?_
    show Steps p.tables e below (T3.setTop (mkF m 12 #[.val (.ref a1), .val (.ref a2)] [(.double d9), (.double d8), (.double d8)])) _
    refine XS.daddS X3.here hx rfl (hb hby d7_12) rfl nn12 rfl ?_
    show Steps p.tables e below (T3.setTop (mkF m 13 #[.val (.ref a1), .val (.ref a2)] [(.double (FP.dadd d8 d9)), (.double d8)])) _
    refine XS.ddivS X3.here hx rfl (hb hby d7_13) rfl nn13 rfl ?_
    show Steps p.tables e below (T3.setTop (mkF m 14 #[.val (.ref a1), .val (.ref a2)] [(.double (FP.ddiv d8 (FP.dadd d8 d9)))])) _
    exact retOut X3 hx (t := .double) Bd.returns rfl (Or.inr (Or.inr (Or.inl ⟨rfl, rfl, _, rfl⟩))) (hb hby d7_14) hr
  · show Q_dt Z a1 a2 d8 d9 h0 n0 _ T3.heap _
    exact ⟨rfl, Nn3, e3⟩
theorem ef_lw (m : MethodId) (p1 : Int32) (p2 : Int32) (p3 : Int32) (p4 : Int32) (p5 : Int32) : entryFrame m #[(.int p1), (.int p2), (.int p3), (.int p4), (.int p5)] maxLocals = (mkF m 0 #[.val (.int p1), .val (.int p2), .val (.int p3), .val (.int p4), .val (.int p5), .unset, .unset, .unset, .unset, .unset, .unset, .unset, .unset, .unset, .unset, .unset, .unset, .unset, .unset, .unset, .unset, .unset, .unset, .unset] []) := by first | (simp [entryFrame, mkF, argsToLocals, Value.category, maxLocals]; done) | rfl
def Q_lw (Z : State) (p1 : Int32) (p2 : Int32) (p3 : Int32) (p4 : Int32) (p5 : Int32)  (h0 : Heap) (n0 : Nat) (v : Option Value) (h : Heap) (L : List Loc) : Prop := v = some (.int 1) ∧ Fr n0 L
set_option maxRecDepth 65536 in
set_option maxHeartbeats 40000000 in
theorem rm_lw (l : Launch) (Z : State) (a0 : Array Value) (hw : ∀ d ∈ tables_1, d.before a0 Z = true) (ws : List Jvm.Cond) (p1 : Int32) (p2 : Int32) (p3 : Int32) (p4 : Int32) (p5 : Int32)  (h0 : Heap) (n0 : Nat) (Z0 : n0 ≤ h0.size)    :
    MetFree l x (head1 (Jvm.Cond.code x code maxLocals ret :: ws) room_1) (fun a U => a = #[(.int p1), (.int p2), (.int p3), (.int p4), (.int p5)] ∧ Z.Warmed39 U.vm ∧ U.heap = h0) (fun _ _ _ _ _ => True) (fun _ U o U' => ∃ v L, o = .returned v ∧ Q_lw Z p1 p2 p3 p4 p5  h0 n0 v U'.heap L ∧ FrameEnd U o U' L 4 4) := by
  refine MetFree.of_bodySF (plainFor_of_name pn_4) hisR ?_
  intro p e s m args below meth c s₁ Bd hml0 hP hK
  obtain ⟨rfl, hZ, hh⟩ := hP
  have hx := Bd.exec
  have hby := Bd.bytes
  have hml : c.maxLocals = 24 := hml0
  have hown : s.vm.findClass "com/example/gavelflow/gavelflow/market/PoissonArrivalsDiscountToNextArrivalPinLaw" = some m.cls := findClass_of_methodNamed Bd.named
  have hnm := (name_of_methodNamed Bd.named Bd.method).1
  have X0 : Stand p l e room_1 s m #[(.int p1), (.int p2), (.int p3), (.int p4), (.int p5)] below meth c s₁ [] 0 0 := Stand.of_body Bd
  have e0 : s₁.heap = h0 := by rw [← hh, Bd.state]; rfl
  have N0 := Fr.nil n0
  have pre0 : ∀ t, Steps p.tables e below (s₁.setTop (mkF m 0 #[.val (.int p1), .val (.int p2), .val (.int p3), .val (.int p4), .val (.int p5), .unset, .unset, .unset, .unset, .unset, .unset, .unset, .unset, .unset, .unset, .unset, .unset, .unset, .unset, .unset, .unset, .unset, .unset, .unset] [])) t → Steps p.tables e below (s₁.setTop (entryFrame m #[(.int p1), (.int p2), (.int p3), (.int p4), (.int p5)] maxLocals)) t := fun t k => castTop (ef_lw m p1 p2 p3 p4 p5) k
  obtain ⟨T1, h1, X1, e1, E1, A1, D1, -, st1⟩ := newO X0 hx hZ hown (hw _ (List.mem_of_getElem? (i := 1) rfl)) (hw _ (List.mem_of_getElem? (i := 2) rfl)) (hw _ (List.mem_of_getElem? (i := 3) rfl)) e0 (g := (mkF m 46 #[.val (.int p1), .val (.int p2), .val (.int p3), .val (.int p4), .val (.int p5), .val (.int (lw_k p1 p2 p3 p4 p5)), .val (.int (lw_n p1 p2 p3 p4 p5)), .val (.int (lw_u p1 p2 p3 p4 p5)), .val (.double (lw_scale p1 p2 p3 p4 p5)), .second, .unset, .unset, .unset, .unset, .unset, .unset, .unset, .unset, .unset, .unset, .unset, .unset, .unset, .unset] [])) rfl (hb hby at_46) (by decide) (by decide)
  obtain ⟨ad1, g1⟩ : ∃ z, z = (h0).size := ⟨_, rfl⟩
  rw [← g1] at A1 D1 st1
  have F1_0 : Fld Z h1 ad1 "com/example/gavelflow/gavelflow/market/PoissonArrivals" "rate" "D" (.double (0 : UInt64)) := (D1 (Or.inr (hw _ (List.mem_of_getElem? (i := 25) rfl))) (ty := .double) (by decide))
  have Z1 : n0 ≤ h1.size := Nat.le_trans Z0 E1.1
  have gn1 : n0 ≤ ad1 := Nat.le_trans Z0 (Nat.le_of_eq g1.symm)
  obtain ⟨_, _, ⟨T2, L2, k2, n2⟩, -, X2, ⟨Lc2, hQ2, l2, y2, z2⟩, st2⟩ := X1.specialBack hx (y := (⟨"com/example/gavelflow/gavelflow/market/PoissonArrivals", "<init>", "(D)V"⟩ : MethodName)) rfl hown (mvT hZ (hw _ (List.mem_of_getElem? (i := 4) rfl))) (mvT hZ (hw _ (List.mem_of_getElem? (i := 5) rfl))) (mvT hZ (hw _ (List.mem_of_getElem? (i := 6) rfl))) (by decide) (backOf (W := 1) (rm_ip l Z a0 hw [] ad1 (FP.dmul (FP.i2d (lw_u p1 p2 p3 p4 p5)) (lw_scale p1 p2 p3 p4 p5))  (h1) n0 Z1 F1_0 A1 gn1 (own_ok (own_ra p1 p2 p3 p4 p5).1 (own_ra p1 p2 p3 p4 p5).2).1 (own_ok (own_ra p1 p2 p3 p4 p5).1 (own_ra p1 p2 p3 p4 p5).2).2.1 (own_ok (own_ra p1 p2 p3 p4 p5).1 (own_ra p1 p2 p3 p4 p5).2).2.2) hZ (hw _ (List.mem_of_getElem? (i := 6) rfl)) (hw _ (List.mem_of_getElem? (i := 3) rfl)) (by decide) (by decide)) (g := (mkF m 56 #[.val (.int p1), .val (.int p2), .val (.int p3), .val (.int p4), .val (.int p5), .val (.int (lw_k p1 p2 p3 p4 p5)), .val (.int (lw_n p1 p2 p3 p4 p5)), .val (.int (lw_u p1 p2 p3 p4 p5)), .val (.double (lw_scale p1 p2 p3 p4 p5)), .second, .unset, .unset, .unset, .unset, .unset, .unset, .unset, .unset, .unset, .unset, .unset, .unset, .unset, .unset] [(.double (FP.dmul (FP.i2d (lw_u p1 p2 p3 p4 p5)) (lw_scale p1 p2 p3 p4 p5))), (.ref ad1), (.ref ad1)])) rfl (by rw [hml]; rfl) (Steps.refl _) (a := ad1) (argsL := [(.double (FP.dmul (FP.i2d (lw_u p1 p2 p3 p4 p5)) (lw_scale p1 p2 p3 p4 p5)))]) (rest := [(.ref ad1)]) (lenOf pd_4 rfl) rfl (by show 2 * 0 + _ ≤ _; exact Nat.le_of_eq rfl) (hb hby at_56) (fun _ _ => ⟨rfl, e1, (by decide : 1 + 0 ≤ _), (by decide : 1 + 0 ≤ _)⟩)
  dsimp only [Pt.U, Pt.locs, Pt.cells, Pt.slots] at X2 l2 y2 z2 st2 hQ2
  subst l2 y2 z2
  obtain ⟨rfl, N2, K2, p2_0, p2_1⟩ := hQ2
  have Nn2 := Fr.app N0 N2
  have Z2 : n0 ≤ T2.heap.size := Nat.le_trans Z1 K2.1
  obtain ⟨T3, h3, X3, e3, E3, A3, D3, -, st3⟩ := newO X2 hx hZ hown (hw _ (List.mem_of_getElem? (i := 26) rfl)) (hw _ (List.mem_of_getElem? (i := 27) rfl)) (hw _ (List.mem_of_getElem? (i := 28) rfl)) rfl (g := (mkF m 61 #[.val (.int p1), .val (.int p2), .val (.int p3), .val (.int p4), .val (.int p5), .val (.int (lw_k p1 p2 p3 p4 p5)), .val (.int (lw_n p1 p2 p3 p4 p5)), .val (.int (lw_u p1 p2 p3 p4 p5)), .val (.double (lw_scale p1 p2 p3 p4 p5)), .second, .val (.ref ad1), .unset, .unset, .unset, .unset, .unset, .unset, .unset, .unset, .unset, .unset, .unset, .unset, .unset] [])) rfl (hb hby at_61) (by decide) (by decide)
  obtain ⟨ad3, g3⟩ : ∃ z, z = (T2.heap).size := ⟨_, rfl⟩
  rw [← g3] at A3 D3 st3
  have ne_ad1_ad3 : ad1 ≠ ad3 := Nat.ne_of_lt (Nat.lt_of_lt_of_le (p2_0.lt) (Nat.le_of_eq g3.symm))
  have q4 : Exa Z h3 ad1 "com/example/gavelflow/gavelflow/market/PoissonArrivals" := (p2_0.ext E3)
  have q5 : Fld Z h3 ad1 "com/example/gavelflow/gavelflow/market/PoissonArrivals" "rate" "D" (.double (FP.dmul (FP.i2d (lw_u p1 p2 p3 p4 p5)) (lw_scale p1 p2 p3 p4 p5))) := (p2_1.ext E3)
  have F3_0 : Fld Z h3 ad3 "com/example/gavelflow/gavelflow/market/Discounting" "forceOfInterest" "D" (.double (0 : UInt64)) := (D3 (Or.inr (hw _ (List.mem_of_getElem? (i := 35) rfl))) (ty := .double) (by decide))
  have Z3 : n0 ≤ h3.size := Nat.le_trans Z2 E3.1
  have gn3 : n0 ≤ ad3 := Nat.le_trans Z2 (Nat.le_of_eq g3.symm)
  obtain ⟨_, _, ⟨T6, L6, k6, n6⟩, -, X6, ⟨Lc6, hQ6, l6, y6, z6⟩, st6⟩ := X3.specialBack hx (y := (⟨"com/example/gavelflow/gavelflow/market/Discounting", "<init>", "(D)V"⟩ : MethodName)) rfl hown (mvT hZ (hw _ (List.mem_of_getElem? (i := 29) rfl))) (mvT hZ (hw _ (List.mem_of_getElem? (i := 30) rfl))) (mvT hZ (hw _ (List.mem_of_getElem? (i := 31) rfl))) (by decide) (backOf (W := 1) (rm_idd l Z a0 hw [] ad3 (FP.dmul (FP.i2d ((lw_n p1 p2 p3 p4 p5) - (lw_u p1 p2 p3 p4 p5))) (lw_scale p1 p2 p3 p4 p5))  (h3) n0 Z3 F3_0 A3 gn3 (own_ok (own_fo p1 p2 p3 p4 p5).1 (own_fo p1 p2 p3 p4 p5).2).1 (own_ok (own_fo p1 p2 p3 p4 p5).1 (own_fo p1 p2 p3 p4 p5).2).2.1 (own_ok (own_fo p1 p2 p3 p4 p5).1 (own_fo p1 p2 p3 p4 p5).2).2.2) hZ (hw _ (List.mem_of_getElem? (i := 31) rfl)) (hw _ (List.mem_of_getElem? (i := 28) rfl)) (by decide) (by decide)) (g := (mkF m 74 #[.val (.int p1), .val (.int p2), .val (.int p3), .val (.int p4), .val (.int p5), .val (.int (lw_k p1 p2 p3 p4 p5)), .val (.int (lw_n p1 p2 p3 p4 p5)), .val (.int (lw_u p1 p2 p3 p4 p5)), .val (.double (lw_scale p1 p2 p3 p4 p5)), .second, .val (.ref ad1), .unset, .unset, .unset, .unset, .unset, .unset, .unset, .unset, .unset, .unset, .unset, .unset, .unset] [(.double (FP.dmul (FP.i2d ((lw_n p1 p2 p3 p4 p5) - (lw_u p1 p2 p3 p4 p5))) (lw_scale p1 p2 p3 p4 p5))), (.ref ad3), (.ref ad3)])) rfl (by rw [hml]; rfl) (Steps.refl _) (a := ad3) (argsL := [(.double (FP.dmul (FP.i2d ((lw_n p1 p2 p3 p4 p5) - (lw_u p1 p2 p3 p4 p5))) (lw_scale p1 p2 p3 p4 p5)))]) (rest := [(.ref ad3)]) (lenOf pd_4 rfl) rfl (by show 2 * 0 + _ ≤ _; exact Nat.le_of_eq rfl) (hb hby at_74) (fun _ _ => ⟨rfl, e3, (by decide : 2 + 0 ≤ _), (by decide : 2 + 0 ≤ _)⟩)
  dsimp only [Pt.U, Pt.locs, Pt.cells, Pt.slots] at X6 l6 y6 z6 st6 hQ6
  subst l6 y6 z6
  obtain ⟨rfl, N6, K6, p6_0, p6_1⟩ := hQ6
  have Nn6 := Fr.app Nn2 N6
  have q7 : Exa Z T6.heap ad1 "com/example/gavelflow/gavelflow/market/PoissonArrivals" := (q4.keep K6)
  have q8 : Fld Z T6.heap ad1 "com/example/gavelflow/gavelflow/market/PoissonArrivals" "rate" "D" (.double (FP.dmul (FP.i2d (lw_u p1 p2 p3 p4 p5)) (lw_scale p1 p2 p3 p4 p5))) := (q5.keep K6 (fun q => ne_ad1_ad3 (List.mem_singleton.mp q)))
  have Z6 : n0 ≤ T6.heap.size := Nat.le_trans Z3 K6.1
  obtain ⟨cq9, kq9, qa9, qb9, qc9⟩ := isOf hZ rfl q7
  obtain ⟨_, _, ⟨T9, L9, k9, n9⟩, -, X9, ⟨Lc9, hQ9, l9, y9, z9⟩, st9⟩ := X6.virtualBack hx (y := (⟨"com/example/gavelflow/gavelflow/market/PoissonArrivals", "discountToNextArrival", "(Lcom/example/gavelflow/gavelflow/market/Discounting;)D"⟩ : MethodName)) (z := (⟨"com/example/gavelflow/gavelflow/market/PoissonArrivals", "discountToNextArrival", "(Lcom/example/gavelflow/gavelflow/market/Discounting;)D"⟩ : MethodName)) hown (mvT hZ (hw _ (List.mem_of_getElem? (i := 36) rfl))) (mvT hZ (hw _ (List.mem_of_getElem? (i := 37) rfl))) (notFace_of_selects (args := #[]) (mvT hZ (hw _ (List.mem_of_getElem? (i := 39) rfl)))) (mvT hZ (hw _ (List.mem_of_getElem? (i := 39) rfl))) (mvT hZ (hw _ (List.mem_of_getElem? (i := 38) rfl))) (by decide) (backOf (W := 0) (rm_dt l Z a0 hw [] ad1 ad3 (FP.dmul (FP.i2d (lw_u p1 p2 p3 p4 p5)) (lw_scale p1 p2 p3 p4 p5)) (FP.dmul (FP.i2d ((lw_n p1 p2 p3 p4 p5) - (lw_u p1 p2 p3 p4 p5))) (lw_scale p1 p2 p3 p4 p5)) (T6.heap) n0 Z6 p6_0 q8 p6_1 (own_s1 p1 p2 p3 p4 p5).nn (own_g1 p1 p2 p3 p4 p5)) hZ (hw _ (List.mem_of_getElem? (i := 40) rfl)) (hw _ (List.mem_of_getElem? (i := 3) rfl)) (by decide) (by decide)) qa9 qc9 (g := (mkF m 83 #[.val (.int p1), .val (.int p2), .val (.int p3), .val (.int p4), .val (.int p5), .val (.int (lw_k p1 p2 p3 p4 p5)), .val (.int (lw_n p1 p2 p3 p4 p5)), .val (.int (lw_u p1 p2 p3 p4 p5)), .val (.double (lw_scale p1 p2 p3 p4 p5)), .second, .val (.ref ad1), .val (.ref ad3), .unset, .unset, .unset, .unset, .unset, .unset, .unset, .unset, .unset, .unset, .unset, .unset] [(.ref ad3), (.ref ad1)])) rfl (by rw [hml]; rfl) (Steps.refl _) (argsL := [(.ref ad3)]) (rest := []) (lenOf pd_5 rfl) rfl (by show 2 * 0 + _ ≤ _; exact Nat.le_of_eq rfl) (hb hby at_83) (fun _ _ => ⟨rfl, rfl, (by decide : 2 + 0 ≤ _), (by decide : 2 + 0 ≤ _)⟩)
  dsimp only [Pt.U, Pt.locs, Pt.cells, Pt.slots] at X9 l9 y9 z9 st9 hQ9
  subst l9 y9 z9
  obtain ⟨rfl, N9, e9⟩ := hQ9
  have Nn9 := Fr.app Nn6 N9
  obtain ⟨T10, h10, X10, e10, E10, A10, D10, -, st10⟩ := newO X9 hx hZ hown (hw _ (List.mem_of_getElem? (i := 1) rfl)) (hw _ (List.mem_of_getElem? (i := 2) rfl)) (hw _ (List.mem_of_getElem? (i := 3) rfl)) e9 (g := (mkF m 127 #[.val (.int p1), .val (.int p2), .val (.int p3), .val (.int p4), .val (.int p5), .val (.int (lw_k p1 p2 p3 p4 p5)), .val (.int (lw_n p1 p2 p3 p4 p5)), .val (.int (lw_u p1 p2 p3 p4 p5)), .val (.double (lw_scale p1 p2 p3 p4 p5)), .second, .val (.ref ad1), .val (.ref ad3), .val (.double (lw_g p1 p2 p3 p4 p5)), .second, .val (.int (1 : Int32)), .val (.double (lw_ra p1 p2 p3 p4 p5)), .second, .val (.double (lw_rb p1 p2 p3 p4 p5)), .second, .unset, .unset, .unset, .unset, .unset] [])) rfl (hb hby at_127) (by decide) (by decide)
  obtain ⟨ad10, g10⟩ : ∃ z, z = (T6.heap).size := ⟨_, rfl⟩
  rw [← g10] at A10 D10 st10
  have ne_ad1_ad10 : ad1 ≠ ad10 := Nat.ne_of_lt (Nat.lt_of_lt_of_le (q7.lt) (Nat.le_of_eq g10.symm))
  have ne_ad3_ad10 : ad3 ≠ ad10 := Nat.ne_of_lt (Nat.lt_of_lt_of_le (p6_0.lt) (Nat.le_of_eq g10.symm))
  have q11 : Exa Z h10 ad1 "com/example/gavelflow/gavelflow/market/PoissonArrivals" := (q7.ext E10)
  have q12 : Fld Z h10 ad1 "com/example/gavelflow/gavelflow/market/PoissonArrivals" "rate" "D" (.double (FP.dmul (FP.i2d (lw_u p1 p2 p3 p4 p5)) (lw_scale p1 p2 p3 p4 p5))) := (q8.ext E10)
  have q13 : Exa Z h10 ad3 "com/example/gavelflow/gavelflow/market/Discounting" := (p6_0.ext E10)
  have q14 : Fld Z h10 ad3 "com/example/gavelflow/gavelflow/market/Discounting" "forceOfInterest" "D" (.double (FP.dmul (FP.i2d ((lw_n p1 p2 p3 p4 p5) - (lw_u p1 p2 p3 p4 p5))) (lw_scale p1 p2 p3 p4 p5))) := (p6_1.ext E10)
  have F10_0 : Fld Z h10 ad10 "com/example/gavelflow/gavelflow/market/PoissonArrivals" "rate" "D" (.double (0 : UInt64)) := (D10 (Or.inr (hw _ (List.mem_of_getElem? (i := 25) rfl))) (ty := .double) (by decide))
  have Z10 : n0 ≤ h10.size := Nat.le_trans Z6 E10.1
  have gn10 : n0 ≤ ad10 := Nat.le_trans Z6 (Nat.le_of_eq g10.symm)
  obtain ⟨_, _, ⟨T15, L15, k15, n15⟩, -, X15, ⟨Lc15, hQ15, l15, y15, z15⟩, st15⟩ := X10.specialBack hx (y := (⟨"com/example/gavelflow/gavelflow/market/PoissonArrivals", "<init>", "(D)V"⟩ : MethodName)) rfl hown (mvT hZ (hw _ (List.mem_of_getElem? (i := 4) rfl))) (mvT hZ (hw _ (List.mem_of_getElem? (i := 5) rfl))) (mvT hZ (hw _ (List.mem_of_getElem? (i := 6) rfl))) (by decide) (backOf (W := 1) (rm_ip l Z a0 hw [] ad10 (lw_ra p1 p2 p3 p4 p5)  (h10) n0 Z10 F10_0 A10 gn10 (own_ok (own_r2 p1 p2 p3 p4 p5).1 (own_r2 p1 p2 p3 p4 p5).2).1 (own_ok (own_r2 p1 p2 p3 p4 p5).1 (own_r2 p1 p2 p3 p4 p5).2).2.1 (own_ok (own_r2 p1 p2 p3 p4 p5).1 (own_r2 p1 p2 p3 p4 p5).2).2.2) hZ (hw _ (List.mem_of_getElem? (i := 6) rfl)) (hw _ (List.mem_of_getElem? (i := 3) rfl)) (by decide) (by decide)) (g := (mkF m 133 #[.val (.int p1), .val (.int p2), .val (.int p3), .val (.int p4), .val (.int p5), .val (.int (lw_k p1 p2 p3 p4 p5)), .val (.int (lw_n p1 p2 p3 p4 p5)), .val (.int (lw_u p1 p2 p3 p4 p5)), .val (.double (lw_scale p1 p2 p3 p4 p5)), .second, .val (.ref ad1), .val (.ref ad3), .val (.double (lw_g p1 p2 p3 p4 p5)), .second, .val (.int (1 : Int32)), .val (.double (lw_ra p1 p2 p3 p4 p5)), .second, .val (.double (lw_rb p1 p2 p3 p4 p5)), .second, .unset, .unset, .unset, .unset, .unset] [(.double (lw_ra p1 p2 p3 p4 p5)), (.ref ad10), (.ref ad10)])) rfl (by rw [hml]; rfl) (Steps.refl _) (a := ad10) (argsL := [(.double (lw_ra p1 p2 p3 p4 p5))]) (rest := [(.ref ad10)]) (lenOf pd_4 rfl) rfl (by show 2 * 0 + _ ≤ _; exact Nat.le_of_eq rfl) (hb hby at_133) (fun _ _ => ⟨rfl, e10, (by decide : 3 + 0 ≤ _), (by decide : 3 + 0 ≤ _)⟩)
  dsimp only [Pt.U, Pt.locs, Pt.cells, Pt.slots] at X15 l15 y15 z15 st15 hQ15
  subst l15 y15 z15
  obtain ⟨rfl, N15, K15, p15_0, p15_1⟩ := hQ15
  have Nn15 := Fr.app Nn9 N15
  have q16 : Exa Z T15.heap ad1 "com/example/gavelflow/gavelflow/market/PoissonArrivals" := (q11.keep K15)
  have q17 : Fld Z T15.heap ad1 "com/example/gavelflow/gavelflow/market/PoissonArrivals" "rate" "D" (.double (FP.dmul (FP.i2d (lw_u p1 p2 p3 p4 p5)) (lw_scale p1 p2 p3 p4 p5))) := (q12.keep K15 (fun q => ne_ad1_ad10 (List.mem_singleton.mp q)))
  have q18 : Exa Z T15.heap ad3 "com/example/gavelflow/gavelflow/market/Discounting" := (q13.keep K15)
  have q19 : Fld Z T15.heap ad3 "com/example/gavelflow/gavelflow/market/Discounting" "forceOfInterest" "D" (.double (FP.dmul (FP.i2d ((lw_n p1 p2 p3 p4 p5) - (lw_u p1 p2 p3 p4 p5))) (lw_scale p1 p2 p3 p4 p5))) := (q14.keep K15 (fun q => ne_ad3_ad10 (List.mem_singleton.mp q)))
  have Z15 : n0 ≤ T15.heap.size := Nat.le_trans Z10 K15.1
  obtain ⟨T20, h20, X20, e20, E20, A20, D20, -, st20⟩ := newO X15 hx hZ hown (hw _ (List.mem_of_getElem? (i := 26) rfl)) (hw _ (List.mem_of_getElem? (i := 27) rfl)) (hw _ (List.mem_of_getElem? (i := 28) rfl)) rfl (g := (mkF m 138 #[.val (.int p1), .val (.int p2), .val (.int p3), .val (.int p4), .val (.int p5), .val (.int (lw_k p1 p2 p3 p4 p5)), .val (.int (lw_n p1 p2 p3 p4 p5)), .val (.int (lw_u p1 p2 p3 p4 p5)), .val (.double (lw_scale p1 p2 p3 p4 p5)), .second, .val (.ref ad1), .val (.ref ad3), .val (.double (lw_g p1 p2 p3 p4 p5)), .second, .val (.int (1 : Int32)), .val (.double (lw_ra p1 p2 p3 p4 p5)), .second, .val (.double (lw_rb p1 p2 p3 p4 p5)), .second, .val (.ref ad10), .unset, .unset, .unset, .unset] [])) rfl (hb hby at_138) (by decide) (by decide)
  obtain ⟨ad20, g20⟩ : ∃ z, z = (T15.heap).size := ⟨_, rfl⟩
  rw [← g20] at A20 D20 st20
  have ne_ad1_ad20 : ad1 ≠ ad20 := Nat.ne_of_lt (Nat.lt_of_lt_of_le (q16.lt) (Nat.le_of_eq g20.symm))
  have ne_ad3_ad20 : ad3 ≠ ad20 := Nat.ne_of_lt (Nat.lt_of_lt_of_le (q18.lt) (Nat.le_of_eq g20.symm))
  have ne_ad10_ad20 : ad10 ≠ ad20 := Nat.ne_of_lt (Nat.lt_of_lt_of_le (p15_0.lt) (Nat.le_of_eq g20.symm))
  have q21 : Exa Z h20 ad1 "com/example/gavelflow/gavelflow/market/PoissonArrivals" := (q16.ext E20)
  have q22 : Fld Z h20 ad1 "com/example/gavelflow/gavelflow/market/PoissonArrivals" "rate" "D" (.double (FP.dmul (FP.i2d (lw_u p1 p2 p3 p4 p5)) (lw_scale p1 p2 p3 p4 p5))) := (q17.ext E20)
  have q23 : Exa Z h20 ad3 "com/example/gavelflow/gavelflow/market/Discounting" := (q18.ext E20)
  have q24 : Fld Z h20 ad3 "com/example/gavelflow/gavelflow/market/Discounting" "forceOfInterest" "D" (.double (FP.dmul (FP.i2d ((lw_n p1 p2 p3 p4 p5) - (lw_u p1 p2 p3 p4 p5))) (lw_scale p1 p2 p3 p4 p5))) := (q19.ext E20)
  have q25 : Exa Z h20 ad10 "com/example/gavelflow/gavelflow/market/PoissonArrivals" := (p15_0.ext E20)
  have q26 : Fld Z h20 ad10 "com/example/gavelflow/gavelflow/market/PoissonArrivals" "rate" "D" (.double (lw_ra p1 p2 p3 p4 p5)) := (p15_1.ext E20)
  have F20_0 : Fld Z h20 ad20 "com/example/gavelflow/gavelflow/market/Discounting" "forceOfInterest" "D" (.double (0 : UInt64)) := (D20 (Or.inr (hw _ (List.mem_of_getElem? (i := 35) rfl))) (ty := .double) (by decide))
  have Z20 : n0 ≤ h20.size := Nat.le_trans Z15 E20.1
  have gn20 : n0 ≤ ad20 := Nat.le_trans Z15 (Nat.le_of_eq g20.symm)
  obtain ⟨_, _, ⟨T27, L27, k27, n27⟩, -, X27, ⟨Lc27, hQ27, l27, y27, z27⟩, st27⟩ := X20.specialBack hx (y := (⟨"com/example/gavelflow/gavelflow/market/Discounting", "<init>", "(D)V"⟩ : MethodName)) rfl hown (mvT hZ (hw _ (List.mem_of_getElem? (i := 29) rfl))) (mvT hZ (hw _ (List.mem_of_getElem? (i := 30) rfl))) (mvT hZ (hw _ (List.mem_of_getElem? (i := 31) rfl))) (by decide) (backOf (W := 1) (rm_idd l Z a0 hw [] ad20 (lw_rb p1 p2 p3 p4 p5)  (h20) n0 Z20 F20_0 A20 gn20 (own_ok (own_r3 p1 p2 p3 p4 p5).1 (own_r3 p1 p2 p3 p4 p5).2).1 (own_ok (own_r3 p1 p2 p3 p4 p5).1 (own_r3 p1 p2 p3 p4 p5).2).2.1 (own_ok (own_r3 p1 p2 p3 p4 p5).1 (own_r3 p1 p2 p3 p4 p5).2).2.2) hZ (hw _ (List.mem_of_getElem? (i := 31) rfl)) (hw _ (List.mem_of_getElem? (i := 28) rfl)) (by decide) (by decide)) (g := (mkF m 144 #[.val (.int p1), .val (.int p2), .val (.int p3), .val (.int p4), .val (.int p5), .val (.int (lw_k p1 p2 p3 p4 p5)), .val (.int (lw_n p1 p2 p3 p4 p5)), .val (.int (lw_u p1 p2 p3 p4 p5)), .val (.double (lw_scale p1 p2 p3 p4 p5)), .second, .val (.ref ad1), .val (.ref ad3), .val (.double (lw_g p1 p2 p3 p4 p5)), .second, .val (.int (1 : Int32)), .val (.double (lw_ra p1 p2 p3 p4 p5)), .second, .val (.double (lw_rb p1 p2 p3 p4 p5)), .second, .val (.ref ad10), .unset, .unset, .unset, .unset] [(.double (lw_rb p1 p2 p3 p4 p5)), (.ref ad20), (.ref ad20)])) rfl (by rw [hml]; rfl) (Steps.refl _) (a := ad20) (argsL := [(.double (lw_rb p1 p2 p3 p4 p5))]) (rest := [(.ref ad20)]) (lenOf pd_4 rfl) rfl (by show 2 * 0 + _ ≤ _; exact Nat.le_of_eq rfl) (hb hby at_144) (fun _ _ => ⟨rfl, e20, (by decide : 4 + 0 ≤ _), (by decide : 4 + 0 ≤ _)⟩)
  dsimp only [Pt.U, Pt.locs, Pt.cells, Pt.slots] at X27 l27 y27 z27 st27 hQ27
  subst l27 y27 z27
  obtain ⟨rfl, N27, K27, p27_0, p27_1⟩ := hQ27
  have Nn27 := Fr.app Nn15 N27
  have q28 : Exa Z T27.heap ad1 "com/example/gavelflow/gavelflow/market/PoissonArrivals" := (q21.keep K27)
  have q29 : Fld Z T27.heap ad1 "com/example/gavelflow/gavelflow/market/PoissonArrivals" "rate" "D" (.double (FP.dmul (FP.i2d (lw_u p1 p2 p3 p4 p5)) (lw_scale p1 p2 p3 p4 p5))) := (q22.keep K27 (fun q => ne_ad1_ad20 (List.mem_singleton.mp q)))
  have q30 : Exa Z T27.heap ad3 "com/example/gavelflow/gavelflow/market/Discounting" := (q23.keep K27)
  have q31 : Fld Z T27.heap ad3 "com/example/gavelflow/gavelflow/market/Discounting" "forceOfInterest" "D" (.double (FP.dmul (FP.i2d ((lw_n p1 p2 p3 p4 p5) - (lw_u p1 p2 p3 p4 p5))) (lw_scale p1 p2 p3 p4 p5))) := (q24.keep K27 (fun q => ne_ad3_ad20 (List.mem_singleton.mp q)))
  have q32 : Exa Z T27.heap ad10 "com/example/gavelflow/gavelflow/market/PoissonArrivals" := (q25.keep K27)
  have q33 : Fld Z T27.heap ad10 "com/example/gavelflow/gavelflow/market/PoissonArrivals" "rate" "D" (.double (lw_ra p1 p2 p3 p4 p5)) := (q26.keep K27 (fun q => ne_ad10_ad20 (List.mem_singleton.mp q)))
  have Z27 : n0 ≤ T27.heap.size := Nat.le_trans Z20 K27.1
  obtain ⟨cq34, kq34, qa34, qb34, qc34⟩ := isOf hZ rfl q32
  obtain ⟨_, _, ⟨T34, L34, k34, n34⟩, -, X34, ⟨Lc34, hQ34, l34, y34, z34⟩, st34⟩ := X27.virtualBack hx (y := (⟨"com/example/gavelflow/gavelflow/market/PoissonArrivals", "discountToNextArrival", "(Lcom/example/gavelflow/gavelflow/market/Discounting;)D"⟩ : MethodName)) (z := (⟨"com/example/gavelflow/gavelflow/market/PoissonArrivals", "discountToNextArrival", "(Lcom/example/gavelflow/gavelflow/market/Discounting;)D"⟩ : MethodName)) hown (mvT hZ (hw _ (List.mem_of_getElem? (i := 36) rfl))) (mvT hZ (hw _ (List.mem_of_getElem? (i := 37) rfl))) (notFace_of_selects (args := #[]) (mvT hZ (hw _ (List.mem_of_getElem? (i := 39) rfl)))) (mvT hZ (hw _ (List.mem_of_getElem? (i := 39) rfl))) (mvT hZ (hw _ (List.mem_of_getElem? (i := 38) rfl))) (by decide) (backOf (W := 0) (rm_dt l Z a0 hw [] ad10 ad20 (lw_ra p1 p2 p3 p4 p5) (lw_rb p1 p2 p3 p4 p5) (T27.heap) n0 Z27 p27_0 q33 p27_1 (own_s2 p1 p2 p3 p4 p5).nn (own_g2 p1 p2 p3 p4 p5)) hZ (hw _ (List.mem_of_getElem? (i := 40) rfl)) (hw _ (List.mem_of_getElem? (i := 3) rfl)) (by decide) (by decide)) qa34 qc34 (g := (mkF m 153 #[.val (.int p1), .val (.int p2), .val (.int p3), .val (.int p4), .val (.int p5), .val (.int (lw_k p1 p2 p3 p4 p5)), .val (.int (lw_n p1 p2 p3 p4 p5)), .val (.int (lw_u p1 p2 p3 p4 p5)), .val (.double (lw_scale p1 p2 p3 p4 p5)), .second, .val (.ref ad1), .val (.ref ad3), .val (.double (lw_g p1 p2 p3 p4 p5)), .second, .val (.int (1 : Int32)), .val (.double (lw_ra p1 p2 p3 p4 p5)), .second, .val (.double (lw_rb p1 p2 p3 p4 p5)), .second, .val (.ref ad10), .val (.ref ad20), .unset, .unset, .unset] [(.ref ad20), (.ref ad10)])) rfl (by rw [hml]; rfl) (Steps.refl _) (argsL := [(.ref ad20)]) (rest := []) (lenOf pd_5 rfl) rfl (by show 2 * 0 + _ ≤ _; exact Nat.le_of_eq rfl) (hb hby at_153) (fun _ _ => ⟨rfl, rfl, (by decide : 4 + 0 ≤ _), (by decide : 4 + 0 ≤ _)⟩)
  dsimp only [Pt.U, Pt.locs, Pt.cells, Pt.slots] at X34 l34 y34 z34 st34 hQ34
  subst l34 y34 z34
  obtain ⟨rfl, N34, e34⟩ := hQ34
  have Nn34 := Fr.app Nn27 N34
  obtain ⟨fs, hr, hrun, hended, hW, hsame⟩ := X34.leave (v := some (.int (1 : Int32))) (fun h => by rw [Bd.returns] at h; cases h)
  refine ⟨_, _, pre0 _ ?_, hrun, hended, _, _, rfl, ?_, ⟨_, rfl⟩, hW, hsame.mono (Nat.le_of_ble_eq_true rfl) (Nat.le_of_ble_eq_true rfl)⟩
  · show Steps p.tables e below (s₁.setTop (mkF m 0 #[.val (.int p1), .val (.int p2), .val (.int p3), .val (.int p4), .val (.int p5), .unset, .unset, .unset, .unset, .unset, .unset, .unset, .unset, .unset, .unset, .unset, .unset, .unset, .unset, .unset, .unset, .unset, .unset, .unset] [])) _
    refine XS.iconst X0.here hx rfl (hb hby at_0) ?_
    show Steps p.tables e below (s₁.setTop (mkF m 1 #[.val (.int p1), .val (.int p2), .val (.int p3), .val (.int p4), .val (.int p5), .unset, .unset, .unset, .unset, .unset, .unset, .unset, .unset, .unset, .unset, .unset, .unset, .unset, .unset, .unset, .unset, .unset, .unset, .unset] [(.int (1 : Int32))])) _
    refine XS.iloadN X0.here hx rfl (hb hby at_1) rfl ?_
    show Steps p.tables e below (s₁.setTop (mkF m 2 #[.val (.int p1), .val (.int p2), .val (.int p3), .val (.int p4), .val (.int p5), .unset, .unset, .unset, .unset, .unset, .unset, .unset, .unset, .unset, .unset, .unset, .unset, .unset, .unset, .unset, .unset, .unset, .unset, .unset] [(.int p1), (.int (1 : Int32))])) _
    refine XS.bipush X0.here hx rfl (hb hby at_2) ?_
    show Steps p.tables e below (s₁.setTop (mkF m 4 #[.val (.int p1), .val (.int p2), .val (.int p3), .val (.int p4), .val (.int p5), .unset, .unset, .unset, .unset, .unset, .unset, .unset, .unset, .unset, .unset, .unset, .unset, .unset, .unset, .unset, .unset, .unset, .unset, .unset] [(.int (15 : Int32)), (.int p1), (.int (1 : Int32))])) _
    refine XS.iand X0.here hx rfl (hb hby at_4) rfl ?_
    show Steps p.tables e below (s₁.setTop (mkF m 5 #[.val (.int p1), .val (.int p2), .val (.int p3), .val (.int p4), .val (.int p5), .unset, .unset, .unset, .unset, .unset, .unset, .unset, .unset, .unset, .unset, .unset, .unset, .unset, .unset, .unset, .unset, .unset, .unset, .unset] [(.int (p1 &&& (15 : Int32))), (.int (1 : Int32))])) _
    refine XS.iadd X0.here hx rfl (hb hby at_5) rfl ?_
    show Steps p.tables e below (s₁.setTop (mkF m 6 #[.val (.int p1), .val (.int p2), .val (.int p3), .val (.int p4), .val (.int p5), .unset, .unset, .unset, .unset, .unset, .unset, .unset, .unset, .unset, .unset, .unset, .unset, .unset, .unset, .unset, .unset, .unset, .unset, .unset] [(.int ((1 : Int32) + (p1 &&& (15 : Int32))))])) _
    refine XS.istore X0.here hx rfl (hb hby at_6) rfl (l' := #[.val (.int p1), .val (.int p2), .val (.int p3), .val (.int p4), .val (.int p5), .val (.int (lw_k p1 p2 p3 p4 p5)), .unset, .unset, .unset, .unset, .unset, .unset, .unset, .unset, .unset, .unset, .unset, .unset, .unset, .unset, .unset, .unset, .unset, .unset]) rfl ?_
    show Steps p.tables e below (s₁.setTop (mkF m 8 #[.val (.int p1), .val (.int p2), .val (.int p3), .val (.int p4), .val (.int p5), .val (.int (lw_k p1 p2 p3 p4 p5)), .unset, .unset, .unset, .unset, .unset, .unset, .unset, .unset, .unset, .unset, .unset, .unset, .unset, .unset, .unset, .unset, .unset, .unset] [])) _
    refine XS.iconst X0.here hx rfl (hb hby at_8) ?_
    show Steps p.tables e below (s₁.setTop (mkF m 9 #[.val (.int p1), .val (.int p2), .val (.int p3), .val (.int p4), .val (.int p5), .val (.int (lw_k p1 p2 p3 p4 p5)), .unset, .unset, .unset, .unset, .unset, .unset, .unset, .unset, .unset, .unset, .unset, .unset, .unset, .unset, .unset, .unset, .unset, .unset] [(.int (1 : Int32))])) _
    refine XS.iload X0.here hx rfl (hb hby at_9) rfl ?_
    show Steps p.tables e below (s₁.setTop (mkF m 11 #[.val (.int p1), .val (.int p2), .val (.int p3), .val (.int p4), .val (.int p5), .val (.int (lw_k p1 p2 p3 p4 p5)), .unset, .unset, .unset, .unset, .unset, .unset, .unset, .unset, .unset, .unset, .unset, .unset, .unset, .unset, .unset, .unset, .unset, .unset] [(.int (lw_k p1 p2 p3 p4 p5)), (.int (1 : Int32))])) _
    refine XT.ishl X0.here hx rfl (hb hby at_11) rfl ?_
    show Steps p.tables e below (s₁.setTop (mkF m 12 #[.val (.int p1), .val (.int p2), .val (.int p3), .val (.int p4), .val (.int p5), .val (.int (lw_k p1 p2 p3 p4 p5)), .unset, .unset, .unset, .unset, .unset, .unset, .unset, .unset, .unset, .unset, .unset, .unset, .unset, .unset, .unset, .unset, .unset, .unset] [(.int ((1 : Int32) <<< ((lw_k p1 p2 p3 p4 p5) &&& 31)))])) _
    refine XS.istore X0.here hx rfl (hb hby at_12) rfl (l' := #[.val (.int p1), .val (.int p2), .val (.int p3), .val (.int p4), .val (.int p5), .val (.int (lw_k p1 p2 p3 p4 p5)), .val (.int (lw_n p1 p2 p3 p4 p5)), .unset, .unset, .unset, .unset, .unset, .unset, .unset, .unset, .unset, .unset, .unset, .unset, .unset, .unset, .unset, .unset, .unset]) rfl ?_
    show Steps p.tables e below (s₁.setTop (mkF m 14 #[.val (.int p1), .val (.int p2), .val (.int p3), .val (.int p4), .val (.int p5), .val (.int (lw_k p1 p2 p3 p4 p5)), .val (.int (lw_n p1 p2 p3 p4 p5)), .unset, .unset, .unset, .unset, .unset, .unset, .unset, .unset, .unset, .unset, .unset, .unset, .unset, .unset, .unset, .unset, .unset] [])) _
    refine XS.iconst X0.here hx rfl (hb hby at_14) ?_
    show Steps p.tables e below (s₁.setTop (mkF m 15 #[.val (.int p1), .val (.int p2), .val (.int p3), .val (.int p4), .val (.int p5), .val (.int (lw_k p1 p2 p3 p4 p5)), .val (.int (lw_n p1 p2 p3 p4 p5)), .unset, .unset, .unset, .unset, .unset, .unset, .unset, .unset, .unset, .unset, .unset, .unset, .unset, .unset, .unset, .unset, .unset] [(.int (1 : Int32))])) _
    refine XS.iloadN X0.here hx rfl (hb hby at_15) rfl ?_
    show Steps p.tables e below (s₁.setTop (mkF m 16 #[.val (.int p1), .val (.int p2), .val (.int p3), .val (.int p4), .val (.int p5), .val (.int (lw_k p1 p2 p3 p4 p5)), .val (.int (lw_n p1 p2 p3 p4 p5)), .unset, .unset, .unset, .unset, .unset, .unset, .unset, .unset, .unset, .unset, .unset, .unset, .unset, .unset, .unset, .unset, .unset] [(.int p2), (.int (1 : Int32))])) _
    refine X0.ldcI hx hown (mvT hZ (hw _ (List.mem_of_getElem? (i := 0) rfl))) (g := (mkF m 16 #[.val (.int p1), .val (.int p2), .val (.int p3), .val (.int p4), .val (.int p5), .val (.int (lw_k p1 p2 p3 p4 p5)), .val (.int (lw_n p1 p2 p3 p4 p5)), .unset, .unset, .unset, .unset, .unset, .unset, .unset, .unset, .unset, .unset, .unset, .unset, .unset, .unset, .unset, .unset, .unset] [(.int p2), (.int (1 : Int32))])) rfl (hb hby at_16) ?_
    show Steps p.tables e below (s₁.setTop (mkF m 18 #[.val (.int p1), .val (.int p2), .val (.int p3), .val (.int p4), .val (.int p5), .val (.int (lw_k p1 p2 p3 p4 p5)), .val (.int (lw_n p1 p2 p3 p4 p5)), .unset, .unset, .unset, .unset, .unset, .unset, .unset, .unset, .unset, .unset, .unset, .unset, .unset, .unset, .unset, .unset, .unset] [(.int (2147483647 : Int32)), (.int p2), (.int (1 : Int32))])) _
    refine XS.iand X0.here hx rfl (hb hby at_18) rfl ?_
    show Steps p.tables e below (s₁.setTop (mkF m 19 #[.val (.int p1), .val (.int p2), .val (.int p3), .val (.int p4), .val (.int p5), .val (.int (lw_k p1 p2 p3 p4 p5)), .val (.int (lw_n p1 p2 p3 p4 p5)), .unset, .unset, .unset, .unset, .unset, .unset, .unset, .unset, .unset, .unset, .unset, .unset, .unset, .unset, .unset, .unset, .unset] [(.int (p2 &&& (2147483647 : Int32))), (.int (1 : Int32))])) _
    refine XS.iload X0.here hx rfl (hb hby at_19) rfl ?_
    show Steps p.tables e below (s₁.setTop (mkF m 21 #[.val (.int p1), .val (.int p2), .val (.int p3), .val (.int p4), .val (.int p5), .val (.int (lw_k p1 p2 p3 p4 p5)), .val (.int (lw_n p1 p2 p3 p4 p5)), .unset, .unset, .unset, .unset, .unset, .unset, .unset, .unset, .unset, .unset, .unset, .unset, .unset, .unset, .unset, .unset, .unset] [(.int (lw_n p1 p2 p3 p4 p5)), (.int (p2 &&& (2147483647 : Int32))), (.int (1 : Int32))])) _
    refine XS.iconst X0.here hx rfl (hb hby at_21) ?_
    show Steps p.tables e below (s₁.setTop (mkF m 22 #[.val (.int p1), .val (.int p2), .val (.int p3), .val (.int p4), .val (.int p5), .val (.int (lw_k p1 p2 p3 p4 p5)), .val (.int (lw_n p1 p2 p3 p4 p5)), .unset, .unset, .unset, .unset, .unset, .unset, .unset, .unset, .unset, .unset, .unset, .unset, .unset, .unset, .unset, .unset, .unset] [(.int (1 : Int32)), (.int (lw_n p1 p2 p3 p4 p5)), (.int (p2 &&& (2147483647 : Int32))), (.int (1 : Int32))])) _
    refine XS.isub X0.here hx rfl (hb hby at_22) rfl ?_
    show Steps p.tables e below (s₁.setTop (mkF m 23 #[.val (.int p1), .val (.int p2), .val (.int p3), .val (.int p4), .val (.int p5), .val (.int (lw_k p1 p2 p3 p4 p5)), .val (.int (lw_n p1 p2 p3 p4 p5)), .unset, .unset, .unset, .unset, .unset, .unset, .unset, .unset, .unset, .unset, .unset, .unset, .unset, .unset, .unset, .unset, .unset] [(.int ((lw_n p1 p2 p3 p4 p5) - (1 : Int32))), (.int (p2 &&& (2147483647 : Int32))), (.int (1 : Int32))])) _
    refine XS.irem X0.here hx rfl (hb hby at_23) rfl (own_n1 p1 p2 p3 p4 p5) ?_
    show Steps p.tables e below (s₁.setTop (mkF m 24 #[.val (.int p1), .val (.int p2), .val (.int p3), .val (.int p4), .val (.int p5), .val (.int (lw_k p1 p2 p3 p4 p5)), .val (.int (lw_n p1 p2 p3 p4 p5)), .unset, .unset, .unset, .unset, .unset, .unset, .unset, .unset, .unset, .unset, .unset, .unset, .unset, .unset, .unset, .unset, .unset] [(.int ((p2 &&& (2147483647 : Int32)) - (p2 &&& (2147483647 : Int32)) / ((lw_n p1 p2 p3 p4 p5) - (1 : Int32)) * ((lw_n p1 p2 p3 p4 p5) - (1 : Int32)))), (.int (1 : Int32))])) _
    refine XS.iadd X0.here hx rfl (hb hby at_24) rfl ?_
    show Steps p.tables e below (s₁.setTop (mkF m 25 #[.val (.int p1), .val (.int p2), .val (.int p3), .val (.int p4), .val (.int p5), .val (.int (lw_k p1 p2 p3 p4 p5)), .val (.int (lw_n p1 p2 p3 p4 p5)), .unset, .unset, .unset, .unset, .unset, .unset, .unset, .unset, .unset, .unset, .unset, .unset, .unset, .unset, .unset, .unset, .unset] [(.int ((1 : Int32) + ((p2 &&& (2147483647 : Int32)) - (p2 &&& (2147483647 : Int32)) / ((lw_n p1 p2 p3 p4 p5) - (1 : Int32)) * ((lw_n p1 p2 p3 p4 p5) - (1 : Int32)))))])) _
    refine XS.istore X0.here hx rfl (hb hby at_25) rfl (l' := #[.val (.int p1), .val (.int p2), .val (.int p3), .val (.int p4), .val (.int p5), .val (.int (lw_k p1 p2 p3 p4 p5)), .val (.int (lw_n p1 p2 p3 p4 p5)), .val (.int (lw_u p1 p2 p3 p4 p5)), .unset, .unset, .unset, .unset, .unset, .unset, .unset, .unset, .unset, .unset, .unset, .unset, .unset, .unset, .unset, .unset]) rfl ?_
    show Steps p.tables e below (s₁.setTop (mkF m 27 #[.val (.int p1), .val (.int p2), .val (.int p3), .val (.int p4), .val (.int p5), .val (.int (lw_k p1 p2 p3 p4 p5)), .val (.int (lw_n p1 p2 p3 p4 p5)), .val (.int (lw_u p1 p2 p3 p4 p5)), .unset, .unset, .unset, .unset, .unset, .unset, .unset, .unset, .unset, .unset, .unset, .unset, .unset, .unset, .unset, .unset] [])) _
    refine XT.lconst X0.here hx rfl (hb hby at_27) ?_
    show Steps p.tables e below (s₁.setTop (mkF m 28 #[.val (.int p1), .val (.int p2), .val (.int p3), .val (.int p4), .val (.int p5), .val (.int (lw_k p1 p2 p3 p4 p5)), .val (.int (lw_n p1 p2 p3 p4 p5)), .val (.int (lw_u p1 p2 p3 p4 p5)), .unset, .unset, .unset, .unset, .unset, .unset, .unset, .unset, .unset, .unset, .unset, .unset, .unset, .unset, .unset, .unset] [(.long (1 : Int64))])) _
    refine XS.iloadN X0.here hx rfl (hb hby at_28) rfl ?_
    show Steps p.tables e below (s₁.setTop (mkF m 29 #[.val (.int p1), .val (.int p2), .val (.int p3), .val (.int p4), .val (.int p5), .val (.int (lw_k p1 p2 p3 p4 p5)), .val (.int (lw_n p1 p2 p3 p4 p5)), .val (.int (lw_u p1 p2 p3 p4 p5)), .unset, .unset, .unset, .unset, .unset, .unset, .unset, .unset, .unset, .unset, .unset, .unset, .unset, .unset, .unset, .unset] [(.int p3), (.long (1 : Int64))])) _
    refine XS.bipush X0.here hx rfl (hb hby at_29) ?_
    show Steps p.tables e below (s₁.setTop (mkF m 31 #[.val (.int p1), .val (.int p2), .val (.int p3), .val (.int p4), .val (.int p5), .val (.int (lw_k p1 p2 p3 p4 p5)), .val (.int (lw_n p1 p2 p3 p4 p5)), .val (.int (lw_u p1 p2 p3 p4 p5)), .unset, .unset, .unset, .unset, .unset, .unset, .unset, .unset, .unset, .unset, .unset, .unset, .unset, .unset, .unset, .unset] [(.int (31 : Int32)), (.int p3), (.long (1 : Int64))])) _
    refine XS.iand X0.here hx rfl (hb hby at_31) rfl ?_
    show Steps p.tables e below (s₁.setTop (mkF m 32 #[.val (.int p1), .val (.int p2), .val (.int p3), .val (.int p4), .val (.int p5), .val (.int (lw_k p1 p2 p3 p4 p5)), .val (.int (lw_n p1 p2 p3 p4 p5)), .val (.int (lw_u p1 p2 p3 p4 p5)), .unset, .unset, .unset, .unset, .unset, .unset, .unset, .unset, .unset, .unset, .unset, .unset, .unset, .unset, .unset, .unset] [(.int (p3 &&& (31 : Int32))), (.long (1 : Int64))])) _
    refine XT.lshl X0.here hx rfl (hb hby at_32) rfl ?_
    show Steps p.tables e below (s₁.setTop (mkF m 33 #[.val (.int p1), .val (.int p2), .val (.int p3), .val (.int p4), .val (.int p5), .val (.int (lw_k p1 p2 p3 p4 p5)), .val (.int (lw_n p1 p2 p3 p4 p5)), .val (.int (lw_u p1 p2 p3 p4 p5)), .unset, .unset, .unset, .unset, .unset, .unset, .unset, .unset, .unset, .unset, .unset, .unset, .unset, .unset, .unset, .unset] [(.long ((1 : Int64) <<< (Int32.toInt64 (p3 &&& (31 : Int32)) &&& 63)))])) _
    refine XS.l2dS X0.here hx rfl (hb hby at_33) rfl rfl ?_
    show Steps p.tables e below (s₁.setTop (mkF m 34 #[.val (.int p1), .val (.int p2), .val (.int p3), .val (.int p4), .val (.int p5), .val (.int (lw_k p1 p2 p3 p4 p5)), .val (.int (lw_n p1 p2 p3 p4 p5)), .val (.int (lw_u p1 p2 p3 p4 p5)), .unset, .unset, .unset, .unset, .unset, .unset, .unset, .unset, .unset, .unset, .unset, .unset, .unset, .unset, .unset, .unset] [(.double (FP.l2d ((1 : Int64) <<< (Int32.toInt64 (p3 &&& (31 : Int32)) &&& 63))))])) _
    refine XT.lconst X0.here hx rfl (hb hby at_34) ?_
    show Steps p.tables e below (s₁.setTop (mkF m 35 #[.val (.int p1), .val (.int p2), .val (.int p3), .val (.int p4), .val (.int p5), .val (.int (lw_k p1 p2 p3 p4 p5)), .val (.int (lw_n p1 p2 p3 p4 p5)), .val (.int (lw_u p1 p2 p3 p4 p5)), .unset, .unset, .unset, .unset, .unset, .unset, .unset, .unset, .unset, .unset, .unset, .unset, .unset, .unset, .unset, .unset] [(.long (1 : Int64)), (.double (FP.l2d ((1 : Int64) <<< (Int32.toInt64 (p3 &&& (31 : Int32)) &&& 63))))])) _
    refine XS.iloadN X0.here hx rfl (hb hby at_35) rfl ?_
    show Steps p.tables e below (s₁.setTop (mkF m 36 #[.val (.int p1), .val (.int p2), .val (.int p3), .val (.int p4), .val (.int p5), .val (.int (lw_k p1 p2 p3 p4 p5)), .val (.int (lw_n p1 p2 p3 p4 p5)), .val (.int (lw_u p1 p2 p3 p4 p5)), .unset, .unset, .unset, .unset, .unset, .unset, .unset, .unset, .unset, .unset, .unset, .unset, .unset, .unset, .unset, .unset] [(.int p3), (.long (1 : Int64)), (.double (FP.l2d ((1 : Int64) <<< (Int32.toInt64 (p3 &&& (31 : Int32)) &&& 63))))])) _
    refine XS.iconst X0.here hx rfl (hb hby at_36) ?_
    show Steps p.tables e below (s₁.setTop (mkF m 37 #[.val (.int p1), .val (.int p2), .val (.int p3), .val (.int p4), .val (.int p5), .val (.int (lw_k p1 p2 p3 p4 p5)), .val (.int (lw_n p1 p2 p3 p4 p5)), .val (.int (lw_u p1 p2 p3 p4 p5)), .unset, .unset, .unset, .unset, .unset, .unset, .unset, .unset, .unset, .unset, .unset, .unset, .unset, .unset, .unset, .unset] [(.int (5 : Int32)), (.int p3), (.long (1 : Int64)), (.double (FP.l2d ((1 : Int64) <<< (Int32.toInt64 (p3 &&& (31 : Int32)) &&& 63))))])) _
    refine XT.iushr X0.here hx rfl (hb hby at_37) rfl ?_
    show Steps p.tables e below (s₁.setTop (mkF m 38 #[.val (.int p1), .val (.int p2), .val (.int p3), .val (.int p4), .val (.int p5), .val (.int (lw_k p1 p2 p3 p4 p5)), .val (.int (lw_n p1 p2 p3 p4 p5)), .val (.int (lw_u p1 p2 p3 p4 p5)), .unset, .unset, .unset, .unset, .unset, .unset, .unset, .unset, .unset, .unset, .unset, .unset, .unset, .unset, .unset, .unset] [(.int (XT.ushr p3 (5 : Int32))), (.long (1 : Int64)), (.double (FP.l2d ((1 : Int64) <<< (Int32.toInt64 (p3 &&& (31 : Int32)) &&& 63))))])) _
    refine XS.bipush X0.here hx rfl (hb hby at_38) ?_
    show Steps p.tables e below (s₁.setTop (mkF m 40 #[.val (.int p1), .val (.int p2), .val (.int p3), .val (.int p4), .val (.int p5), .val (.int (lw_k p1 p2 p3 p4 p5)), .val (.int (lw_n p1 p2 p3 p4 p5)), .val (.int (lw_u p1 p2 p3 p4 p5)), .unset, .unset, .unset, .unset, .unset, .unset, .unset, .unset, .unset, .unset, .unset, .unset, .unset, .unset, .unset, .unset] [(.int (31 : Int32)), (.int (XT.ushr p3 (5 : Int32))), (.long (1 : Int64)), (.double (FP.l2d ((1 : Int64) <<< (Int32.toInt64 (p3 &&& (31 : Int32)) &&& 63))))])) _
    refine XS.iand X0.here hx rfl (hb hby at_40) rfl ?_
    show Steps p.tables e below (s₁.setTop (mkF m 41 #[.val (.int p1), .val (.int p2), .val (.int p3), .val (.int p4), .val (.int p5), .val (.int (lw_k p1 p2 p3 p4 p5)), .val (.int (lw_n p1 p2 p3 p4 p5)), .val (.int (lw_u p1 p2 p3 p4 p5)), .unset, .unset, .unset, .unset, .unset, .unset, .unset, .unset, .unset, .unset, .unset, .unset, .unset, .unset, .unset, .unset] [(.int ((XT.ushr p3 (5 : Int32)) &&& (31 : Int32))), (.long (1 : Int64)), (.double (FP.l2d ((1 : Int64) <<< (Int32.toInt64 (p3 &&& (31 : Int32)) &&& 63))))])) _
    refine XT.lshl X0.here hx rfl (hb hby at_41) rfl ?_
    show Steps p.tables e below (s₁.setTop (mkF m 42 #[.val (.int p1), .val (.int p2), .val (.int p3), .val (.int p4), .val (.int p5), .val (.int (lw_k p1 p2 p3 p4 p5)), .val (.int (lw_n p1 p2 p3 p4 p5)), .val (.int (lw_u p1 p2 p3 p4 p5)), .unset, .unset, .unset, .unset, .unset, .unset, .unset, .unset, .unset, .unset, .unset, .unset, .unset, .unset, .unset, .unset] [(.long ((1 : Int64) <<< (Int32.toInt64 ((XT.ushr p3 (5 : Int32)) &&& (31 : Int32)) &&& 63))), (.double (FP.l2d ((1 : Int64) <<< (Int32.toInt64 (p3 &&& (31 : Int32)) &&& 63))))])) _
    refine XS.l2dS X0.here hx rfl (hb hby at_42) rfl rfl ?_
    show Steps p.tables e below (s₁.setTop (mkF m 43 #[.val (.int p1), .val (.int p2), .val (.int p3), .val (.int p4), .val (.int p5), .val (.int (lw_k p1 p2 p3 p4 p5)), .val (.int (lw_n p1 p2 p3 p4 p5)), .val (.int (lw_u p1 p2 p3 p4 p5)), .unset, .unset, .unset, .unset, .unset, .unset, .unset, .unset, .unset, .unset, .unset, .unset, .unset, .unset, .unset, .unset] [(.double (FP.l2d ((1 : Int64) <<< (Int32.toInt64 ((XT.ushr p3 (5 : Int32)) &&& (31 : Int32)) &&& 63)))), (.double (FP.l2d ((1 : Int64) <<< (Int32.toInt64 (p3 &&& (31 : Int32)) &&& 63))))])) _
    refine XS.ddivS X0.here hx rfl (hb hby at_43) rfl (own_sc p1 p2 p3 p4 p5).nn rfl ?_
    show Steps p.tables e below (s₁.setTop (mkF m 44 #[.val (.int p1), .val (.int p2), .val (.int p3), .val (.int p4), .val (.int p5), .val (.int (lw_k p1 p2 p3 p4 p5)), .val (.int (lw_n p1 p2 p3 p4 p5)), .val (.int (lw_u p1 p2 p3 p4 p5)), .unset, .unset, .unset, .unset, .unset, .unset, .unset, .unset, .unset, .unset, .unset, .unset, .unset, .unset, .unset, .unset] [(.double (FP.ddiv (FP.l2d ((1 : Int64) <<< (Int32.toInt64 (p3 &&& (31 : Int32)) &&& 63))) (FP.l2d ((1 : Int64) <<< (Int32.toInt64 ((XT.ushr p3 (5 : Int32)) &&& (31 : Int32)) &&& 63)))))])) _
    refine XS.dstore X0.here hx rfl (hb hby at_44) rfl (l' := #[.val (.int p1), .val (.int p2), .val (.int p3), .val (.int p4), .val (.int p5), .val (.int (lw_k p1 p2 p3 p4 p5)), .val (.int (lw_n p1 p2 p3 p4 p5)), .val (.int (lw_u p1 p2 p3 p4 p5)), .val (.double (lw_scale p1 p2 p3 p4 p5)), .second, .unset, .unset, .unset, .unset, .unset, .unset, .unset, .unset, .unset, .unset, .unset, .unset, .unset, .unset]) rfl ?_
    show Steps p.tables e below (s₁.setTop (mkF m 46 #[.val (.int p1), .val (.int p2), .val (.int p3), .val (.int p4), .val (.int p5), .val (.int (lw_k p1 p2 p3 p4 p5)), .val (.int (lw_n p1 p2 p3 p4 p5)), .val (.int (lw_u p1 p2 p3 p4 p5)), .val (.double (lw_scale p1 p2 p3 p4 p5)), .second, .unset, .unset, .unset, .unset, .unset, .unset, .unset, .unset, .unset, .unset, .unset, .unset, .unset, .unset] [])) _
    refine st1 _ ?_
    show Steps p.tables e below (T1.setTop (mkF m 49 #[.val (.int p1), .val (.int p2), .val (.int p3), .val (.int p4), .val (.int p5), .val (.int (lw_k p1 p2 p3 p4 p5)), .val (.int (lw_n p1 p2 p3 p4 p5)), .val (.int (lw_u p1 p2 p3 p4 p5)), .val (.double (lw_scale p1 p2 p3 p4 p5)), .second, .unset, .unset, .unset, .unset, .unset, .unset, .unset, .unset, .unset, .unset, .unset, .unset, .unset, .unset] [(.ref ad1)])) _
    refine XS.dup X1.here hx rfl (hb hby at_49) rfl rfl ?_
    show Steps p.tables e below (T1.setTop (mkF m 50 #[.val (.int p1), .val (.int p2), .val (.int p3), .val (.int p4), .val (.int p5), .val (.int (lw_k p1 p2 p3 p4 p5)), .val (.int (lw_n p1 p2 p3 p4 p5)), .val (.int (lw_u p1 p2 p3 p4 p5)), .val (.double (lw_scale p1 p2 p3 p4 p5)), .second, .unset, .unset, .unset, .unset, .unset, .unset, .unset, .unset, .unset, .unset, .unset, .unset, .unset, .unset] [(.ref ad1), (.ref ad1)])) _
    refine XS.iload X1.here hx rfl (hb hby at_50) rfl ?_
    show Steps p.tables e below (T1.setTop (mkF m 52 #[.val (.int p1), .val (.int p2), .val (.int p3), .val (.int p4), .val (.int p5), .val (.int (lw_k p1 p2 p3 p4 p5)), .val (.int (lw_n p1 p2 p3 p4 p5)), .val (.int (lw_u p1 p2 p3 p4 p5)), .val (.double (lw_scale p1 p2 p3 p4 p5)), .second, .unset, .unset, .unset, .unset, .unset, .unset, .unset, .unset, .unset, .unset, .unset, .unset, .unset, .unset] [(.int (lw_u p1 p2 p3 p4 p5)), (.ref ad1), (.ref ad1)])) _
    refine XS.i2dS X1.here hx rfl (hb hby at_52) rfl rfl ?_
    show Steps p.tables e below (T1.setTop (mkF m 53 #[.val (.int p1), .val (.int p2), .val (.int p3), .val (.int p4), .val (.int p5), .val (.int (lw_k p1 p2 p3 p4 p5)), .val (.int (lw_n p1 p2 p3 p4 p5)), .val (.int (lw_u p1 p2 p3 p4 p5)), .val (.double (lw_scale p1 p2 p3 p4 p5)), .second, .unset, .unset, .unset, .unset, .unset, .unset, .unset, .unset, .unset, .unset, .unset, .unset, .unset, .unset] [(.double (FP.i2d (lw_u p1 p2 p3 p4 p5))), (.ref ad1), (.ref ad1)])) _
    refine XS.dload X1.here hx rfl (hb hby at_53) rfl ?_
    show Steps p.tables e below (T1.setTop (mkF m 55 #[.val (.int p1), .val (.int p2), .val (.int p3), .val (.int p4), .val (.int p5), .val (.int (lw_k p1 p2 p3 p4 p5)), .val (.int (lw_n p1 p2 p3 p4 p5)), .val (.int (lw_u p1 p2 p3 p4 p5)), .val (.double (lw_scale p1 p2 p3 p4 p5)), .second, .unset, .unset, .unset, .unset, .unset, .unset, .unset, .unset, .unset, .unset, .unset, .unset, .unset, .unset] [(.double (lw_scale p1 p2 p3 p4 p5)), (.double (FP.i2d (lw_u p1 p2 p3 p4 p5))), (.ref ad1), (.ref ad1)])) _
    refine XS.dmulS X1.here hx rfl (hb hby at_55) rfl (own_ra p1 p2 p3 p4 p5).1.nn rfl ?_
    show Steps p.tables e below (T1.setTop (mkF m 56 #[.val (.int p1), .val (.int p2), .val (.int p3), .val (.int p4), .val (.int p5), .val (.int (lw_k p1 p2 p3 p4 p5)), .val (.int (lw_n p1 p2 p3 p4 p5)), .val (.int (lw_u p1 p2 p3 p4 p5)), .val (.double (lw_scale p1 p2 p3 p4 p5)), .second, .unset, .unset, .unset, .unset, .unset, .unset, .unset, .unset, .unset, .unset, .unset, .unset, .unset, .unset] [(.double (FP.dmul (FP.i2d (lw_u p1 p2 p3 p4 p5)) (lw_scale p1 p2 p3 p4 p5))), (.ref ad1), (.ref ad1)])) _
    refine st2.trans ?_
    show Steps p.tables e below (T2.setTop (mkF m 59 #[.val (.int p1), .val (.int p2), .val (.int p3), .val (.int p4), .val (.int p5), .val (.int (lw_k p1 p2 p3 p4 p5)), .val (.int (lw_n p1 p2 p3 p4 p5)), .val (.int (lw_u p1 p2 p3 p4 p5)), .val (.double (lw_scale p1 p2 p3 p4 p5)), .second, .unset, .unset, .unset, .unset, .unset, .unset, .unset, .unset, .unset, .unset, .unset, .unset, .unset, .unset] [(.ref ad1)])) _
    refine XS.astore X2.here hx rfl (hb hby at_59) rfl rfl (l' := #[.val (.int p1), .val (.int p2), .val (.int p3), .val (.int p4), .val (.int p5), .val (.int (lw_k p1 p2 p3 p4 p5)), .val (.int (lw_n p1 p2 p3 p4 p5)), .val (.int (lw_u p1 p2 p3 p4 p5)), .val (.double (lw_scale p1 p2 p3 p4 p5)), .second, .val (.ref ad1), .unset, .unset, .unset, .unset, .unset, .unset, .unset, .unset, .unset, .unset, .unset, .unset, .unset]) rfl ?_
    show Steps p.tables e below (T2.setTop (mkF m 61 #[.val (.int p1), .val (.int p2), .val (.int p3), .val (.int p4), .val (.int p5), .val (.int (lw_k p1 p2 p3 p4 p5)), .val (.int (lw_n p1 p2 p3 p4 p5)), .val (.int (lw_u p1 p2 p3 p4 p5)), .val (.double (lw_scale p1 p2 p3 p4 p5)), .second, .val (.ref ad1), .unset, .unset, .unset, .unset, .unset, .unset, .unset, .unset, .unset, .unset, .unset, .unset, .unset] [])) _
    refine st3 _ ?_
    show Steps p.tables e below (T3.setTop (mkF m 64 #[.val (.int p1), .val (.int p2), .val (.int p3), .val (.int p4), .val (.int p5), .val (.int (lw_k p1 p2 p3 p4 p5)), .val (.int (lw_n p1 p2 p3 p4 p5)), .val (.int (lw_u p1 p2 p3 p4 p5)), .val (.double (lw_scale p1 p2 p3 p4 p5)), .second, .val (.ref ad1), .unset, .unset, .unset, .unset, .unset, .unset, .unset, .unset, .unset, .unset, .unset, .unset, .unset] [(.ref ad3)])) _
    refine XS.dup X3.here hx rfl (hb hby at_64) rfl rfl ?_
    show Steps p.tables e below (T3.setTop (mkF m 65 #[.val (.int p1), .val (.int p2), .val (.int p3), .val (.int p4), .val (.int p5), .val (.int (lw_k p1 p2 p3 p4 p5)), .val (.int (lw_n p1 p2 p3 p4 p5)), .val (.int (lw_u p1 p2 p3 p4 p5)), .val (.double (lw_scale p1 p2 p3 p4 p5)), .second, .val (.ref ad1), .unset, .unset, .unset, .unset, .unset, .unset, .unset, .unset, .unset, .unset, .unset, .unset, .unset] [(.ref ad3), (.ref ad3)])) _
    refine XS.iload X3.here hx rfl (hb hby at_65) rfl ?_
    show Steps p.tables e below (T3.setTop (mkF m 67 #[.val (.int p1), .val (.int p2), .val (.int p3), .val (.int p4), .val (.int p5), .val (.int (lw_k p1 p2 p3 p4 p5)), .val (.int (lw_n p1 p2 p3 p4 p5)), .val (.int (lw_u p1 p2 p3 p4 p5)), .val (.double (lw_scale p1 p2 p3 p4 p5)), .second, .val (.ref ad1), .unset, .unset, .unset, .unset, .unset, .unset, .unset, .unset, .unset, .unset, .unset, .unset, .unset] [(.int (lw_n p1 p2 p3 p4 p5)), (.ref ad3), (.ref ad3)])) _
    refine XS.iload X3.here hx rfl (hb hby at_67) rfl ?_
    show Steps p.tables e below (T3.setTop (mkF m 69 #[.val (.int p1), .val (.int p2), .val (.int p3), .val (.int p4), .val (.int p5), .val (.int (lw_k p1 p2 p3 p4 p5)), .val (.int (lw_n p1 p2 p3 p4 p5)), .val (.int (lw_u p1 p2 p3 p4 p5)), .val (.double (lw_scale p1 p2 p3 p4 p5)), .second, .val (.ref ad1), .unset, .unset, .unset, .unset, .unset, .unset, .unset, .unset, .unset, .unset, .unset, .unset, .unset] [(.int (lw_u p1 p2 p3 p4 p5)), (.int (lw_n p1 p2 p3 p4 p5)), (.ref ad3), (.ref ad3)])) _
    refine XS.isub X3.here hx rfl (hb hby at_69) rfl ?_
    show Steps p.tables e below (T3.setTop (mkF m 70 #[.val (.int p1), .val (.int p2), .val (.int p3), .val (.int p4), .val (.int p5), .val (.int (lw_k p1 p2 p3 p4 p5)), .val (.int (lw_n p1 p2 p3 p4 p5)), .val (.int (lw_u p1 p2 p3 p4 p5)), .val (.double (lw_scale p1 p2 p3 p4 p5)), .second, .val (.ref ad1), .unset, .unset, .unset, .unset, .unset, .unset, .unset, .unset, .unset, .unset, .unset, .unset, .unset] [(.int ((lw_n p1 p2 p3 p4 p5) - (lw_u p1 p2 p3 p4 p5))), (.ref ad3), (.ref ad3)])) _
    refine XS.i2dS X3.here hx rfl (hb hby at_70) rfl rfl ?_
    show Steps p.tables e below (T3.setTop (mkF m 71 #[.val (.int p1), .val (.int p2), .val (.int p3), .val (.int p4), .val (.int p5), .val (.int (lw_k p1 p2 p3 p4 p5)), .val (.int (lw_n p1 p2 p3 p4 p5)), .val (.int (lw_u p1 p2 p3 p4 p5)), .val (.double (lw_scale p1 p2 p3 p4 p5)), .second, .val (.ref ad1), .unset, .unset, .unset, .unset, .unset, .unset, .unset, .unset, .unset, .unset, .unset, .unset, .unset] [(.double (FP.i2d ((lw_n p1 p2 p3 p4 p5) - (lw_u p1 p2 p3 p4 p5)))), (.ref ad3), (.ref ad3)])) _
    refine XS.dload X3.here hx rfl (hb hby at_71) rfl ?_
    show Steps p.tables e below (T3.setTop (mkF m 73 #[.val (.int p1), .val (.int p2), .val (.int p3), .val (.int p4), .val (.int p5), .val (.int (lw_k p1 p2 p3 p4 p5)), .val (.int (lw_n p1 p2 p3 p4 p5)), .val (.int (lw_u p1 p2 p3 p4 p5)), .val (.double (lw_scale p1 p2 p3 p4 p5)), .second, .val (.ref ad1), .unset, .unset, .unset, .unset, .unset, .unset, .unset, .unset, .unset, .unset, .unset, .unset, .unset] [(.double (lw_scale p1 p2 p3 p4 p5)), (.double (FP.i2d ((lw_n p1 p2 p3 p4 p5) - (lw_u p1 p2 p3 p4 p5)))), (.ref ad3), (.ref ad3)])) _
    refine XS.dmulS X3.here hx rfl (hb hby at_73) rfl (own_fo p1 p2 p3 p4 p5).1.nn rfl ?_
    show Steps p.tables e below (T3.setTop (mkF m 74 #[.val (.int p1), .val (.int p2), .val (.int p3), .val (.int p4), .val (.int p5), .val (.int (lw_k p1 p2 p3 p4 p5)), .val (.int (lw_n p1 p2 p3 p4 p5)), .val (.int (lw_u p1 p2 p3 p4 p5)), .val (.double (lw_scale p1 p2 p3 p4 p5)), .second, .val (.ref ad1), .unset, .unset, .unset, .unset, .unset, .unset, .unset, .unset, .unset, .unset, .unset, .unset, .unset] [(.double (FP.dmul (FP.i2d ((lw_n p1 p2 p3 p4 p5) - (lw_u p1 p2 p3 p4 p5))) (lw_scale p1 p2 p3 p4 p5))), (.ref ad3), (.ref ad3)])) _
    refine st6.trans ?_
    show Steps p.tables e below (T6.setTop (mkF m 77 #[.val (.int p1), .val (.int p2), .val (.int p3), .val (.int p4), .val (.int p5), .val (.int (lw_k p1 p2 p3 p4 p5)), .val (.int (lw_n p1 p2 p3 p4 p5)), .val (.int (lw_u p1 p2 p3 p4 p5)), .val (.double (lw_scale p1 p2 p3 p4 p5)), .second, .val (.ref ad1), .unset, .unset, .unset, .unset, .unset, .unset, .unset, .unset, .unset, .unset, .unset, .unset, .unset] [(.ref ad3)])) _
    refine XS.astore X6.here hx rfl (hb hby at_77) rfl rfl (l' := #[.val (.int p1), .val (.int p2), .val (.int p3), .val (.int p4), .val (.int p5), .val (.int (lw_k p1 p2 p3 p4 p5)), .val (.int (lw_n p1 p2 p3 p4 p5)), .val (.int (lw_u p1 p2 p3 p4 p5)), .val (.double (lw_scale p1 p2 p3 p4 p5)), .second, .val (.ref ad1), .val (.ref ad3), .unset, .unset, .unset, .unset, .unset, .unset, .unset, .unset, .unset, .unset, .unset, .unset]) rfl ?_
    show Steps p.tables e below (T6.setTop (mkF m 79 #[.val (.int p1), .val (.int p2), .val (.int p3), .val (.int p4), .val (.int p5), .val (.int (lw_k p1 p2 p3 p4 p5)), .val (.int (lw_n p1 p2 p3 p4 p5)), .val (.int (lw_u p1 p2 p3 p4 p5)), .val (.double (lw_scale p1 p2 p3 p4 p5)), .second, .val (.ref ad1), .val (.ref ad3), .unset, .unset, .unset, .unset, .unset, .unset, .unset, .unset, .unset, .unset, .unset, .unset] [])) _
    refine XS.aload X6.here hx rfl (hb hby at_79) rfl rfl ?_
    show Steps p.tables e below (T6.setTop (mkF m 81 #[.val (.int p1), .val (.int p2), .val (.int p3), .val (.int p4), .val (.int p5), .val (.int (lw_k p1 p2 p3 p4 p5)), .val (.int (lw_n p1 p2 p3 p4 p5)), .val (.int (lw_u p1 p2 p3 p4 p5)), .val (.double (lw_scale p1 p2 p3 p4 p5)), .second, .val (.ref ad1), .val (.ref ad3), .unset, .unset, .unset, .unset, .unset, .unset, .unset, .unset, .unset, .unset, .unset, .unset] [(.ref ad1)])) _
    refine XS.aload X6.here hx rfl (hb hby at_81) rfl rfl ?_
    show Steps p.tables e below (T6.setTop (mkF m 83 #[.val (.int p1), .val (.int p2), .val (.int p3), .val (.int p4), .val (.int p5), .val (.int (lw_k p1 p2 p3 p4 p5)), .val (.int (lw_n p1 p2 p3 p4 p5)), .val (.int (lw_u p1 p2 p3 p4 p5)), .val (.double (lw_scale p1 p2 p3 p4 p5)), .second, .val (.ref ad1), .val (.ref ad3), .unset, .unset, .unset, .unset, .unset, .unset, .unset, .unset, .unset, .unset, .unset, .unset] [(.ref ad3), (.ref ad1)])) _
    refine st9.trans ?_
    show Steps p.tables e below (T9.setTop (mkF m 86 #[.val (.int p1), .val (.int p2), .val (.int p3), .val (.int p4), .val (.int p5), .val (.int (lw_k p1 p2 p3 p4 p5)), .val (.int (lw_n p1 p2 p3 p4 p5)), .val (.int (lw_u p1 p2 p3 p4 p5)), .val (.double (lw_scale p1 p2 p3 p4 p5)), .second, .val (.ref ad1), .val (.ref ad3), .unset, .unset, .unset, .unset, .unset, .unset, .unset, .unset, .unset, .unset, .unset, .unset] [(.double (FP.ddiv (FP.dmul (FP.i2d (lw_u p1 p2 p3 p4 p5)) (lw_scale p1 p2 p3 p4 p5)) (FP.dadd (FP.dmul (FP.i2d (lw_u p1 p2 p3 p4 p5)) (lw_scale p1 p2 p3 p4 p5)) (FP.dmul (FP.i2d ((lw_n p1 p2 p3 p4 p5) - (lw_u p1 p2 p3 p4 p5))) (lw_scale p1 p2 p3 p4 p5)))))])) _
    refine XS.dstore X9.here hx rfl (hb hby at_86) rfl (l' := #[.val (.int p1), .val (.int p2), .val (.int p3), .val (.int p4), .val (.int p5), .val (.int (lw_k p1 p2 p3 p4 p5)), .val (.int (lw_n p1 p2 p3 p4 p5)), .val (.int (lw_u p1 p2 p3 p4 p5)), .val (.double (lw_scale p1 p2 p3 p4 p5)), .second, .val (.ref ad1), .val (.ref ad3), .val (.double (lw_g p1 p2 p3 p4 p5)), .second, .unset, .unset, .unset, .unset, .unset, .unset, .unset, .unset, .unset, .unset]) rfl ?_
    show Steps p.tables e below (T9.setTop (mkF m 88 #[.val (.int p1), .val (.int p2), .val (.int p3), .val (.int p4), .val (.int p5), .val (.int (lw_k p1 p2 p3 p4 p5)), .val (.int (lw_n p1 p2 p3 p4 p5)), .val (.int (lw_u p1 p2 p3 p4 p5)), .val (.double (lw_scale p1 p2 p3 p4 p5)), .second, .val (.ref ad1), .val (.ref ad3), .val (.double (lw_g p1 p2 p3 p4 p5)), .second, .unset, .unset, .unset, .unset, .unset, .unset, .unset, .unset, .unset, .unset] [])) _
    refine XS.dload X9.here hx rfl (hb hby at_88) rfl ?_
    show Steps p.tables e below (T9.setTop (mkF m 90 #[.val (.int p1), .val (.int p2), .val (.int p3), .val (.int p4), .val (.int p5), .val (.int (lw_k p1 p2 p3 p4 p5)), .val (.int (lw_n p1 p2 p3 p4 p5)), .val (.int (lw_u p1 p2 p3 p4 p5)), .val (.double (lw_scale p1 p2 p3 p4 p5)), .second, .val (.ref ad1), .val (.ref ad3), .val (.double (lw_g p1 p2 p3 p4 p5)), .second, .unset, .unset, .unset, .unset, .unset, .unset, .unset, .unset, .unset, .unset] [(.double (lw_g p1 p2 p3 p4 p5))])) _
    refine XS.iload X9.here hx rfl (hb hby at_90) rfl ?_
    show Steps p.tables e below (T9.setTop (mkF m 92 #[.val (.int p1), .val (.int p2), .val (.int p3), .val (.int p4), .val (.int p5), .val (.int (lw_k p1 p2 p3 p4 p5)), .val (.int (lw_n p1 p2 p3 p4 p5)), .val (.int (lw_u p1 p2 p3 p4 p5)), .val (.double (lw_scale p1 p2 p3 p4 p5)), .second, .val (.ref ad1), .val (.ref ad3), .val (.double (lw_g p1 p2 p3 p4 p5)), .second, .unset, .unset, .unset, .unset, .unset, .unset, .unset, .unset, .unset, .unset] [(.int (lw_u p1 p2 p3 p4 p5)), (.double (lw_g p1 p2 p3 p4 p5))])) _
    refine XS.i2dS X9.here hx rfl (hb hby at_92) rfl rfl ?_
    show Steps p.tables e below (T9.setTop (mkF m 93 #[.val (.int p1), .val (.int p2), .val (.int p3), .val (.int p4), .val (.int p5), .val (.int (lw_k p1 p2 p3 p4 p5)), .val (.int (lw_n p1 p2 p3 p4 p5)), .val (.int (lw_u p1 p2 p3 p4 p5)), .val (.double (lw_scale p1 p2 p3 p4 p5)), .second, .val (.ref ad1), .val (.ref ad3), .val (.double (lw_g p1 p2 p3 p4 p5)), .second, .unset, .unset, .unset, .unset, .unset, .unset, .unset, .unset, .unset, .unset] [(.double (FP.i2d (lw_u p1 p2 p3 p4 p5))), (.double (lw_g p1 p2 p3 p4 p5))])) _
    refine XS.iload X9.here hx rfl (hb hby at_93) rfl ?_
    show Steps p.tables e below (T9.setTop (mkF m 95 #[.val (.int p1), .val (.int p2), .val (.int p3), .val (.int p4), .val (.int p5), .val (.int (lw_k p1 p2 p3 p4 p5)), .val (.int (lw_n p1 p2 p3 p4 p5)), .val (.int (lw_u p1 p2 p3 p4 p5)), .val (.double (lw_scale p1 p2 p3 p4 p5)), .second, .val (.ref ad1), .val (.ref ad3), .val (.double (lw_g p1 p2 p3 p4 p5)), .second, .unset, .unset, .unset, .unset, .unset, .unset, .unset, .unset, .unset, .unset] [(.int (lw_n p1 p2 p3 p4 p5)), (.double (FP.i2d (lw_u p1 p2 p3 p4 p5))), (.double (lw_g p1 p2 p3 p4 p5))])) _
    refine XS.i2dS X9.here hx rfl (hb hby at_95) rfl rfl ?_
    show Steps p.tables e below (T9.setTop (mkF m 96 #[.val (.int p1), .val (.int p2), .val (.int p3), .val (.int p4), .val (.int p5), .val (.int (lw_k p1 p2 p3 p4 p5)), .val (.int (lw_n p1 p2 p3 p4 p5)), .val (.int (lw_u p1 p2 p3 p4 p5)), .val (.double (lw_scale p1 p2 p3 p4 p5)), .second, .val (.ref ad1), .val (.ref ad3), .val (.double (lw_g p1 p2 p3 p4 p5)), .second, .unset, .unset, .unset, .unset, .unset, .unset, .unset, .unset, .unset, .unset] [(.double (FP.i2d (lw_n p1 p2 p3 p4 p5))), (.double (FP.i2d (lw_u p1 p2 p3 p4 p5))), (.double (lw_g p1 p2 p3 p4 p5))])) _
    refine XS.ddivS X9.here hx rfl (hb hby at_96) rfl (own_un p1 p2 p3 p4 p5) rfl ?_
    show Steps p.tables e below (T9.setTop (mkF m 97 #[.val (.int p1), .val (.int p2), .val (.int p3), .val (.int p4), .val (.int p5), .val (.int (lw_k p1 p2 p3 p4 p5)), .val (.int (lw_n p1 p2 p3 p4 p5)), .val (.int (lw_u p1 p2 p3 p4 p5)), .val (.double (lw_scale p1 p2 p3 p4 p5)), .second, .val (.ref ad1), .val (.ref ad3), .val (.double (lw_g p1 p2 p3 p4 p5)), .second, .unset, .unset, .unset, .unset, .unset, .unset, .unset, .unset, .unset, .unset] [(.double (FP.ddiv (FP.i2d (lw_u p1 p2 p3 p4 p5)) (FP.i2d (lw_n p1 p2 p3 p4 p5)))), (.double (lw_g p1 p2 p3 p4 p5))])) _
    refine XS.dcmpS X9.here hx rfl (hb hby at_97) rfl rfl ?_
    show Steps p.tables e below (T9.setTop (mkF m 98 #[.val (.int p1), .val (.int p2), .val (.int p3), .val (.int p4), .val (.int p5), .val (.int (lw_k p1 p2 p3 p4 p5)), .val (.int (lw_n p1 p2 p3 p4 p5)), .val (.int (lw_u p1 p2 p3 p4 p5)), .val (.double (lw_scale p1 p2 p3 p4 p5)), .second, .val (.ref ad1), .val (.ref ad3), .val (.double (lw_g p1 p2 p3 p4 p5)), .second, .unset, .unset, .unset, .unset, .unset, .unset, .unset, .unset, .unset, .unset] [(.int (cmpValue (FP.dcmp (lw_g p1 p2 p3 p4 p5) (FP.ddiv (FP.i2d (lw_u p1 p2 p3 p4 p5)) (FP.i2d (lw_n p1 p2 p3 p4 p5)))) .l))])) _
    refine XS.ifNo X9.here hx rfl (hb hby at_98) rfl (own_e1 p1 p2 p3 p4 p5) ?_
    show Steps p.tables e below (T9.setTop (mkF m 101 #[.val (.int p1), .val (.int p2), .val (.int p3), .val (.int p4), .val (.int p5), .val (.int (lw_k p1 p2 p3 p4 p5)), .val (.int (lw_n p1 p2 p3 p4 p5)), .val (.int (lw_u p1 p2 p3 p4 p5)), .val (.double (lw_scale p1 p2 p3 p4 p5)), .second, .val (.ref ad1), .val (.ref ad3), .val (.double (lw_g p1 p2 p3 p4 p5)), .second, .unset, .unset, .unset, .unset, .unset, .unset, .unset, .unset, .unset, .unset] [])) _
    refine XS.iconst X9.here hx rfl (hb hby at_101) ?_
    show Steps p.tables e below (T9.setTop (mkF m 102 #[.val (.int p1), .val (.int p2), .val (.int p3), .val (.int p4), .val (.int p5), .val (.int (lw_k p1 p2 p3 p4 p5)), .val (.int (lw_n p1 p2 p3 p4 p5)), .val (.int (lw_u p1 p2 p3 p4 p5)), .val (.double (lw_scale p1 p2 p3 p4 p5)), .second, .val (.ref ad1), .val (.ref ad3), .val (.double (lw_g p1 p2 p3 p4 p5)), .second, .unset, .unset, .unset, .unset, .unset, .unset, .unset, .unset, .unset, .unset] [(.int (1 : Int32))])) _
    refine XS.goto X9.here hx rfl (pc0 := 102) (pc' := 106) rfl (hb hby at_102) (by decide) (by decide) ?_
    show Steps p.tables e below (T9.setTop (mkF m 106 #[.val (.int p1), .val (.int p2), .val (.int p3), .val (.int p4), .val (.int p5), .val (.int (lw_k p1 p2 p3 p4 p5)), .val (.int (lw_n p1 p2 p3 p4 p5)), .val (.int (lw_u p1 p2 p3 p4 p5)), .val (.double (lw_scale p1 p2 p3 p4 p5)), .second, .val (.ref ad1), .val (.ref ad3), .val (.double (lw_g p1 p2 p3 p4 p5)), .second, .unset, .unset, .unset, .unset, .unset, .unset, .unset, .unset, .unset, .unset] [(.int (1 : Int32))])) _
    refine XS.istore X9.here hx rfl (hb hby at_106) rfl (l' := #[.val (.int p1), .val (.int p2), .val (.int p3), .val (.int p4), .val (.int p5), .val (.int (lw_k p1 p2 p3 p4 p5)), .val (.int (lw_n p1 p2 p3 p4 p5)), .val (.int (lw_u p1 p2 p3 p4 p5)), .val (.double (lw_scale p1 p2 p3 p4 p5)), .second, .val (.ref ad1), .val (.ref ad3), .val (.double (lw_g p1 p2 p3 p4 p5)), .second, .val (.int (1 : Int32)), .unset, .unset, .unset, .unset, .unset, .unset, .unset, .unset, .unset]) rfl ?_
    show Steps p.tables e below (T9.setTop (mkF m 108 #[.val (.int p1), .val (.int p2), .val (.int p3), .val (.int p4), .val (.int p5), .val (.int (lw_k p1 p2 p3 p4 p5)), .val (.int (lw_n p1 p2 p3 p4 p5)), .val (.int (lw_u p1 p2 p3 p4 p5)), .val (.double (lw_scale p1 p2 p3 p4 p5)), .second, .val (.ref ad1), .val (.ref ad3), .val (.double (lw_g p1 p2 p3 p4 p5)), .second, .val (.int (1 : Int32)), .unset, .unset, .unset, .unset, .unset, .unset, .unset, .unset, .unset] [])) _
    refine XS.dconst1 X9.here hx rfl (hb hby at_108) rfl ?_
    show Steps p.tables e below (T9.setTop (mkF m 109 #[.val (.int p1), .val (.int p2), .val (.int p3), .val (.int p4), .val (.int p5), .val (.int (lw_k p1 p2 p3 p4 p5)), .val (.int (lw_n p1 p2 p3 p4 p5)), .val (.int (lw_u p1 p2 p3 p4 p5)), .val (.double (lw_scale p1 p2 p3 p4 p5)), .second, .val (.ref ad1), .val (.ref ad3), .val (.double (lw_g p1 p2 p3 p4 p5)), .second, .val (.int (1 : Int32)), .unset, .unset, .unset, .unset, .unset, .unset, .unset, .unset, .unset] [(.double (4607182418800017408 : UInt64))])) _
    refine XS.iloadN X9.here hx rfl (hb hby at_109) rfl ?_
    show Steps p.tables e below (T9.setTop (mkF m 110 #[.val (.int p1), .val (.int p2), .val (.int p3), .val (.int p4), .val (.int p5), .val (.int (lw_k p1 p2 p3 p4 p5)), .val (.int (lw_n p1 p2 p3 p4 p5)), .val (.int (lw_u p1 p2 p3 p4 p5)), .val (.double (lw_scale p1 p2 p3 p4 p5)), .second, .val (.ref ad1), .val (.ref ad3), .val (.double (lw_g p1 p2 p3 p4 p5)), .second, .val (.int (1 : Int32)), .unset, .unset, .unset, .unset, .unset, .unset, .unset, .unset, .unset] [(.int p4), (.double (4607182418800017408 : UInt64))])) _
    refine X9.ldcI hx hown (mvT hZ (hw _ (List.mem_of_getElem? (i := 0) rfl))) (g := (mkF m 110 #[.val (.int p1), .val (.int p2), .val (.int p3), .val (.int p4), .val (.int p5), .val (.int (lw_k p1 p2 p3 p4 p5)), .val (.int (lw_n p1 p2 p3 p4 p5)), .val (.int (lw_u p1 p2 p3 p4 p5)), .val (.double (lw_scale p1 p2 p3 p4 p5)), .second, .val (.ref ad1), .val (.ref ad3), .val (.double (lw_g p1 p2 p3 p4 p5)), .second, .val (.int (1 : Int32)), .unset, .unset, .unset, .unset, .unset, .unset, .unset, .unset, .unset] [(.int p4), (.double (4607182418800017408 : UInt64))])) rfl (hb hby at_110) ?_
    show Steps p.tables e below (T9.setTop (mkF m 112 #[.val (.int p1), .val (.int p2), .val (.int p3), .val (.int p4), .val (.int p5), .val (.int (lw_k p1 p2 p3 p4 p5)), .val (.int (lw_n p1 p2 p3 p4 p5)), .val (.int (lw_u p1 p2 p3 p4 p5)), .val (.double (lw_scale p1 p2 p3 p4 p5)), .second, .val (.ref ad1), .val (.ref ad3), .val (.double (lw_g p1 p2 p3 p4 p5)), .second, .val (.int (1 : Int32)), .unset, .unset, .unset, .unset, .unset, .unset, .unset, .unset, .unset] [(.int (2147483647 : Int32)), (.int p4), (.double (4607182418800017408 : UInt64))])) _
    refine XS.iand X9.here hx rfl (hb hby at_112) rfl ?_
    show Steps p.tables e below (T9.setTop (mkF m 113 #[.val (.int p1), .val (.int p2), .val (.int p3), .val (.int p4), .val (.int p5), .val (.int (lw_k p1 p2 p3 p4 p5)), .val (.int (lw_n p1 p2 p3 p4 p5)), .val (.int (lw_u p1 p2 p3 p4 p5)), .val (.double (lw_scale p1 p2 p3 p4 p5)), .second, .val (.ref ad1), .val (.ref ad3), .val (.double (lw_g p1 p2 p3 p4 p5)), .second, .val (.int (1 : Int32)), .unset, .unset, .unset, .unset, .unset, .unset, .unset, .unset, .unset] [(.int (p4 &&& (2147483647 : Int32))), (.double (4607182418800017408 : UInt64))])) _
    refine XS.i2dS X9.here hx rfl (hb hby at_113) rfl rfl ?_
    show Steps p.tables e below (T9.setTop (mkF m 114 #[.val (.int p1), .val (.int p2), .val (.int p3), .val (.int p4), .val (.int p5), .val (.int (lw_k p1 p2 p3 p4 p5)), .val (.int (lw_n p1 p2 p3 p4 p5)), .val (.int (lw_u p1 p2 p3 p4 p5)), .val (.double (lw_scale p1 p2 p3 p4 p5)), .second, .val (.ref ad1), .val (.ref ad3), .val (.double (lw_g p1 p2 p3 p4 p5)), .second, .val (.int (1 : Int32)), .unset, .unset, .unset, .unset, .unset, .unset, .unset, .unset, .unset] [(.double (FP.i2d (p4 &&& (2147483647 : Int32)))), (.double (4607182418800017408 : UInt64))])) _
    refine XS.daddS X9.here hx rfl (hb hby at_114) rfl (own_r2 p1 p2 p3 p4 p5).1.nn rfl ?_
    show Steps p.tables e below (T9.setTop (mkF m 115 #[.val (.int p1), .val (.int p2), .val (.int p3), .val (.int p4), .val (.int p5), .val (.int (lw_k p1 p2 p3 p4 p5)), .val (.int (lw_n p1 p2 p3 p4 p5)), .val (.int (lw_u p1 p2 p3 p4 p5)), .val (.double (lw_scale p1 p2 p3 p4 p5)), .second, .val (.ref ad1), .val (.ref ad3), .val (.double (lw_g p1 p2 p3 p4 p5)), .second, .val (.int (1 : Int32)), .unset, .unset, .unset, .unset, .unset, .unset, .unset, .unset, .unset] [(.double (FP.dadd (4607182418800017408 : UInt64) (FP.i2d (p4 &&& (2147483647 : Int32)))))])) _
    refine XS.dstore X9.here hx rfl (hb hby at_115) rfl (l' := #[.val (.int p1), .val (.int p2), .val (.int p3), .val (.int p4), .val (.int p5), .val (.int (lw_k p1 p2 p3 p4 p5)), .val (.int (lw_n p1 p2 p3 p4 p5)), .val (.int (lw_u p1 p2 p3 p4 p5)), .val (.double (lw_scale p1 p2 p3 p4 p5)), .second, .val (.ref ad1), .val (.ref ad3), .val (.double (lw_g p1 p2 p3 p4 p5)), .second, .val (.int (1 : Int32)), .val (.double (lw_ra p1 p2 p3 p4 p5)), .second, .unset, .unset, .unset, .unset, .unset, .unset, .unset]) rfl ?_
    show Steps p.tables e below (T9.setTop (mkF m 117 #[.val (.int p1), .val (.int p2), .val (.int p3), .val (.int p4), .val (.int p5), .val (.int (lw_k p1 p2 p3 p4 p5)), .val (.int (lw_n p1 p2 p3 p4 p5)), .val (.int (lw_u p1 p2 p3 p4 p5)), .val (.double (lw_scale p1 p2 p3 p4 p5)), .second, .val (.ref ad1), .val (.ref ad3), .val (.double (lw_g p1 p2 p3 p4 p5)), .second, .val (.int (1 : Int32)), .val (.double (lw_ra p1 p2 p3 p4 p5)), .second, .unset, .unset, .unset, .unset, .unset, .unset, .unset] [])) _
    refine XS.dconst1 X9.here hx rfl (hb hby at_117) rfl ?_
    show Steps p.tables e below (T9.setTop (mkF m 118 #[.val (.int p1), .val (.int p2), .val (.int p3), .val (.int p4), .val (.int p5), .val (.int (lw_k p1 p2 p3 p4 p5)), .val (.int (lw_n p1 p2 p3 p4 p5)), .val (.int (lw_u p1 p2 p3 p4 p5)), .val (.double (lw_scale p1 p2 p3 p4 p5)), .second, .val (.ref ad1), .val (.ref ad3), .val (.double (lw_g p1 p2 p3 p4 p5)), .second, .val (.int (1 : Int32)), .val (.double (lw_ra p1 p2 p3 p4 p5)), .second, .unset, .unset, .unset, .unset, .unset, .unset, .unset] [(.double (4607182418800017408 : UInt64))])) _
    refine XS.iload X9.here hx rfl (hb hby at_118) rfl ?_
    show Steps p.tables e below (T9.setTop (mkF m 120 #[.val (.int p1), .val (.int p2), .val (.int p3), .val (.int p4), .val (.int p5), .val (.int (lw_k p1 p2 p3 p4 p5)), .val (.int (lw_n p1 p2 p3 p4 p5)), .val (.int (lw_u p1 p2 p3 p4 p5)), .val (.double (lw_scale p1 p2 p3 p4 p5)), .second, .val (.ref ad1), .val (.ref ad3), .val (.double (lw_g p1 p2 p3 p4 p5)), .second, .val (.int (1 : Int32)), .val (.double (lw_ra p1 p2 p3 p4 p5)), .second, .unset, .unset, .unset, .unset, .unset, .unset, .unset] [(.int p5), (.double (4607182418800017408 : UInt64))])) _
    refine X9.ldcI hx hown (mvT hZ (hw _ (List.mem_of_getElem? (i := 0) rfl))) (g := (mkF m 120 #[.val (.int p1), .val (.int p2), .val (.int p3), .val (.int p4), .val (.int p5), .val (.int (lw_k p1 p2 p3 p4 p5)), .val (.int (lw_n p1 p2 p3 p4 p5)), .val (.int (lw_u p1 p2 p3 p4 p5)), .val (.double (lw_scale p1 p2 p3 p4 p5)), .second, .val (.ref ad1), .val (.ref ad3), .val (.double (lw_g p1 p2 p3 p4 p5)), .second, .val (.int (1 : Int32)), .val (.double (lw_ra p1 p2 p3 p4 p5)), .second, .unset, .unset, .unset, .unset, .unset, .unset, .unset] [(.int p5), (.double (4607182418800017408 : UInt64))])) rfl (hb hby at_120) ?_
    show Steps p.tables e below (T9.setTop (mkF m 122 #[.val (.int p1), .val (.int p2), .val (.int p3), .val (.int p4), .val (.int p5), .val (.int (lw_k p1 p2 p3 p4 p5)), .val (.int (lw_n p1 p2 p3 p4 p5)), .val (.int (lw_u p1 p2 p3 p4 p5)), .val (.double (lw_scale p1 p2 p3 p4 p5)), .second, .val (.ref ad1), .val (.ref ad3), .val (.double (lw_g p1 p2 p3 p4 p5)), .second, .val (.int (1 : Int32)), .val (.double (lw_ra p1 p2 p3 p4 p5)), .second, .unset, .unset, .unset, .unset, .unset, .unset, .unset] [(.int (2147483647 : Int32)), (.int p5), (.double (4607182418800017408 : UInt64))])) _
    refine XS.iand X9.here hx rfl (hb hby at_122) rfl ?_
    show Steps p.tables e below (T9.setTop (mkF m 123 #[.val (.int p1), .val (.int p2), .val (.int p3), .val (.int p4), .val (.int p5), .val (.int (lw_k p1 p2 p3 p4 p5)), .val (.int (lw_n p1 p2 p3 p4 p5)), .val (.int (lw_u p1 p2 p3 p4 p5)), .val (.double (lw_scale p1 p2 p3 p4 p5)), .second, .val (.ref ad1), .val (.ref ad3), .val (.double (lw_g p1 p2 p3 p4 p5)), .second, .val (.int (1 : Int32)), .val (.double (lw_ra p1 p2 p3 p4 p5)), .second, .unset, .unset, .unset, .unset, .unset, .unset, .unset] [(.int (p5 &&& (2147483647 : Int32))), (.double (4607182418800017408 : UInt64))])) _
    refine XS.i2dS X9.here hx rfl (hb hby at_123) rfl rfl ?_
    show Steps p.tables e below (T9.setTop (mkF m 124 #[.val (.int p1), .val (.int p2), .val (.int p3), .val (.int p4), .val (.int p5), .val (.int (lw_k p1 p2 p3 p4 p5)), .val (.int (lw_n p1 p2 p3 p4 p5)), .val (.int (lw_u p1 p2 p3 p4 p5)), .val (.double (lw_scale p1 p2 p3 p4 p5)), .second, .val (.ref ad1), .val (.ref ad3), .val (.double (lw_g p1 p2 p3 p4 p5)), .second, .val (.int (1 : Int32)), .val (.double (lw_ra p1 p2 p3 p4 p5)), .second, .unset, .unset, .unset, .unset, .unset, .unset, .unset] [(.double (FP.i2d (p5 &&& (2147483647 : Int32)))), (.double (4607182418800017408 : UInt64))])) _
    refine XS.daddS X9.here hx rfl (hb hby at_124) rfl (own_r3 p1 p2 p3 p4 p5).1.nn rfl ?_
    show Steps p.tables e below (T9.setTop (mkF m 125 #[.val (.int p1), .val (.int p2), .val (.int p3), .val (.int p4), .val (.int p5), .val (.int (lw_k p1 p2 p3 p4 p5)), .val (.int (lw_n p1 p2 p3 p4 p5)), .val (.int (lw_u p1 p2 p3 p4 p5)), .val (.double (lw_scale p1 p2 p3 p4 p5)), .second, .val (.ref ad1), .val (.ref ad3), .val (.double (lw_g p1 p2 p3 p4 p5)), .second, .val (.int (1 : Int32)), .val (.double (lw_ra p1 p2 p3 p4 p5)), .second, .unset, .unset, .unset, .unset, .unset, .unset, .unset] [(.double (FP.dadd (4607182418800017408 : UInt64) (FP.i2d (p5 &&& (2147483647 : Int32)))))])) _
    refine XS.dstore X9.here hx rfl (hb hby at_125) rfl (l' := #[.val (.int p1), .val (.int p2), .val (.int p3), .val (.int p4), .val (.int p5), .val (.int (lw_k p1 p2 p3 p4 p5)), .val (.int (lw_n p1 p2 p3 p4 p5)), .val (.int (lw_u p1 p2 p3 p4 p5)), .val (.double (lw_scale p1 p2 p3 p4 p5)), .second, .val (.ref ad1), .val (.ref ad3), .val (.double (lw_g p1 p2 p3 p4 p5)), .second, .val (.int (1 : Int32)), .val (.double (lw_ra p1 p2 p3 p4 p5)), .second, .val (.double (lw_rb p1 p2 p3 p4 p5)), .second, .unset, .unset, .unset, .unset, .unset]) rfl ?_
    show Steps p.tables e below (T9.setTop (mkF m 127 #[.val (.int p1), .val (.int p2), .val (.int p3), .val (.int p4), .val (.int p5), .val (.int (lw_k p1 p2 p3 p4 p5)), .val (.int (lw_n p1 p2 p3 p4 p5)), .val (.int (lw_u p1 p2 p3 p4 p5)), .val (.double (lw_scale p1 p2 p3 p4 p5)), .second, .val (.ref ad1), .val (.ref ad3), .val (.double (lw_g p1 p2 p3 p4 p5)), .second, .val (.int (1 : Int32)), .val (.double (lw_ra p1 p2 p3 p4 p5)), .second, .val (.double (lw_rb p1 p2 p3 p4 p5)), .second, .unset, .unset, .unset, .unset, .unset] [])) _
    refine st10 _ ?_
    show Steps p.tables e below (T10.setTop (mkF m 130 #[.val (.int p1), .val (.int p2), .val (.int p3), .val (.int p4), .val (.int p5), .val (.int (lw_k p1 p2 p3 p4 p5)), .val (.int (lw_n p1 p2 p3 p4 p5)), .val (.int (lw_u p1 p2 p3 p4 p5)), .val (.double (lw_scale p1 p2 p3 p4 p5)), .second, .val (.ref ad1), .val (.ref ad3), .val (.double (lw_g p1 p2 p3 p4 p5)), .second, .val (.int (1 : Int32)), .val (.double (lw_ra p1 p2 p3 p4 p5)), .second, .val (.double (lw_rb p1 p2 p3 p4 p5)), .second, .unset, .unset, .unset, .unset, .unset] [(.ref ad10)])) _
    refine XS.dup X10.here hx rfl (hb hby at_130) rfl rfl ?_
    show Steps p.tables e below (T10.setTop (mkF m 131 #[.val (.int p1), .val (.int p2), .val (.int p3), .val (.int p4), .val (.int p5), .val (.int (lw_k p1 p2 p3 p4 p5)), .val (.int (lw_n p1 p2 p3 p4 p5)), .val (.int (lw_u p1 p2 p3 p4 p5)), .val (.double (lw_scale p1 p2 p3 p4 p5)), .second, .val (.ref ad1), .val (.ref ad3), .val (.double (lw_g p1 p2 p3 p4 p5)), .second, .val (.int (1 : Int32)), .val (.double (lw_ra p1 p2 p3 p4 p5)), .second, .val (.double (lw_rb p1 p2 p3 p4 p5)), .second, .unset, .unset, .unset, .unset, .unset] [(.ref ad10), (.ref ad10)])) _
    refine XS.dload X10.here hx rfl (hb hby at_131) rfl ?_
    show Steps p.tables e below (T10.setTop (mkF m 133 #[.val (.int p1), .val (.int p2), .val (.int p3), .val (.int p4), .val (.int p5), .val (.int (lw_k p1 p2 p3 p4 p5)), .val (.int (lw_n p1 p2 p3 p4 p5)), .val (.int (lw_u p1 p2 p3 p4 p5)), .val (.double (lw_scale p1 p2 p3 p4 p5)), .second, .val (.ref ad1), .val (.ref ad3), .val (.double (lw_g p1 p2 p3 p4 p5)), .second, .val (.int (1 : Int32)), .val (.double (lw_ra p1 p2 p3 p4 p5)), .second, .val (.double (lw_rb p1 p2 p3 p4 p5)), .second, .unset, .unset, .unset, .unset, .unset] [(.double (lw_ra p1 p2 p3 p4 p5)), (.ref ad10), (.ref ad10)])) _
    refine st15.trans ?_
    show Steps p.tables e below (T15.setTop (mkF m 136 #[.val (.int p1), .val (.int p2), .val (.int p3), .val (.int p4), .val (.int p5), .val (.int (lw_k p1 p2 p3 p4 p5)), .val (.int (lw_n p1 p2 p3 p4 p5)), .val (.int (lw_u p1 p2 p3 p4 p5)), .val (.double (lw_scale p1 p2 p3 p4 p5)), .second, .val (.ref ad1), .val (.ref ad3), .val (.double (lw_g p1 p2 p3 p4 p5)), .second, .val (.int (1 : Int32)), .val (.double (lw_ra p1 p2 p3 p4 p5)), .second, .val (.double (lw_rb p1 p2 p3 p4 p5)), .second, .unset, .unset, .unset, .unset, .unset] [(.ref ad10)])) _
    refine XS.astore X15.here hx rfl (hb hby at_136) rfl rfl (l' := #[.val (.int p1), .val (.int p2), .val (.int p3), .val (.int p4), .val (.int p5), .val (.int (lw_k p1 p2 p3 p4 p5)), .val (.int (lw_n p1 p2 p3 p4 p5)), .val (.int (lw_u p1 p2 p3 p4 p5)), .val (.double (lw_scale p1 p2 p3 p4 p5)), .second, .val (.ref ad1), .val (.ref ad3), .val (.double (lw_g p1 p2 p3 p4 p5)), .second, .val (.int (1 : Int32)), .val (.double (lw_ra p1 p2 p3 p4 p5)), .second, .val (.double (lw_rb p1 p2 p3 p4 p5)), .second, .val (.ref ad10), .unset, .unset, .unset, .unset]) rfl ?_
    show Steps p.tables e below (T15.setTop (mkF m 138 #[.val (.int p1), .val (.int p2), .val (.int p3), .val (.int p4), .val (.int p5), .val (.int (lw_k p1 p2 p3 p4 p5)), .val (.int (lw_n p1 p2 p3 p4 p5)), .val (.int (lw_u p1 p2 p3 p4 p5)), .val (.double (lw_scale p1 p2 p3 p4 p5)), .second, .val (.ref ad1), .val (.ref ad3), .val (.double (lw_g p1 p2 p3 p4 p5)), .second, .val (.int (1 : Int32)), .val (.double (lw_ra p1 p2 p3 p4 p5)), .second, .val (.double (lw_rb p1 p2 p3 p4 p5)), .second, .val (.ref ad10), .unset, .unset, .unset, .unset] [])) _
    refine st20 _ ?_
    show Steps p.tables e below (T20.setTop (mkF m 141 #[.val (.int p1), .val (.int p2), .val (.int p3), .val (.int p4), .val (.int p5), .val (.int (lw_k p1 p2 p3 p4 p5)), .val (.int (lw_n p1 p2 p3 p4 p5)), .val (.int (lw_u p1 p2 p3 p4 p5)), .val (.double (lw_scale p1 p2 p3 p4 p5)), .second, .val (.ref ad1), .val (.ref ad3), .val (.double (lw_g p1 p2 p3 p4 p5)), .second, .val (.int (1 : Int32)), .val (.double (lw_ra p1 p2 p3 p4 p5)), .second, .val (.double (lw_rb p1 p2 p3 p4 p5)), .second, .val (.ref ad10), .unset, .unset, .unset, .unset] [(.ref ad20)])) _
    refine XS.dup X20.here hx rfl (hb hby at_141) rfl rfl ?_
    show Steps p.tables e below (T20.setTop (mkF m 142 #[.val (.int p1), .val (.int p2), .val (.int p3), .val (.int p4), .val (.int p5), .val (.int (lw_k p1 p2 p3 p4 p5)), .val (.int (lw_n p1 p2 p3 p4 p5)), .val (.int (lw_u p1 p2 p3 p4 p5)), .val (.double (lw_scale p1 p2 p3 p4 p5)), .second, .val (.ref ad1), .val (.ref ad3), .val (.double (lw_g p1 p2 p3 p4 p5)), .second, .val (.int (1 : Int32)), .val (.double (lw_ra p1 p2 p3 p4 p5)), .second, .val (.double (lw_rb p1 p2 p3 p4 p5)), .second, .val (.ref ad10), .unset, .unset, .unset, .unset] [(.ref ad20), (.ref ad20)])) _
    refine XS.dload X20.here hx rfl (hb hby at_142) rfl ?_
    show Steps p.tables e below (T20.setTop (mkF m 144 #[.val (.int p1), .val (.int p2), .val (.int p3), .val (.int p4), .val (.int p5), .val (.int (lw_k p1 p2 p3 p4 p5)), .val (.int (lw_n p1 p2 p3 p4 p5)), .val (.int (lw_u p1 p2 p3 p4 p5)), .val (.double (lw_scale p1 p2 p3 p4 p5)), .second, .val (.ref ad1), .val (.ref ad3), .val (.double (lw_g p1 p2 p3 p4 p5)), .second, .val (.int (1 : Int32)), .val (.double (lw_ra p1 p2 p3 p4 p5)), .second, .val (.double (lw_rb p1 p2 p3 p4 p5)), .second, .val (.ref ad10), .unset, .unset, .unset, .unset] [(.double (lw_rb p1 p2 p3 p4 p5)), (.ref ad20), (.ref ad20)])) _
    refine st27.trans ?_
    show Steps p.tables e below (T27.setTop (mkF m 147 #[.val (.int p1), .val (.int p2), .val (.int p3), .val (.int p4), .val (.int p5), .val (.int (lw_k p1 p2 p3 p4 p5)), .val (.int (lw_n p1 p2 p3 p4 p5)), .val (.int (lw_u p1 p2 p3 p4 p5)), .val (.double (lw_scale p1 p2 p3 p4 p5)), .second, .val (.ref ad1), .val (.ref ad3), .val (.double (lw_g p1 p2 p3 p4 p5)), .second, .val (.int (1 : Int32)), .val (.double (lw_ra p1 p2 p3 p4 p5)), .second, .val (.double (lw_rb p1 p2 p3 p4 p5)), .second, .val (.ref ad10), .unset, .unset, .unset, .unset] [(.ref ad20)])) _
    refine XS.astore X27.here hx rfl (hb hby at_147) rfl rfl (l' := #[.val (.int p1), .val (.int p2), .val (.int p3), .val (.int p4), .val (.int p5), .val (.int (lw_k p1 p2 p3 p4 p5)), .val (.int (lw_n p1 p2 p3 p4 p5)), .val (.int (lw_u p1 p2 p3 p4 p5)), .val (.double (lw_scale p1 p2 p3 p4 p5)), .second, .val (.ref ad1), .val (.ref ad3), .val (.double (lw_g p1 p2 p3 p4 p5)), .second, .val (.int (1 : Int32)), .val (.double (lw_ra p1 p2 p3 p4 p5)), .second, .val (.double (lw_rb p1 p2 p3 p4 p5)), .second, .val (.ref ad10), .val (.ref ad20), .unset, .unset, .unset]) rfl ?_
    show Steps p.tables e below (T27.setTop (mkF m 149 #[.val (.int p1), .val (.int p2), .val (.int p3), .val (.int p4), .val (.int p5), .val (.int (lw_k p1 p2 p3 p4 p5)), .val (.int (lw_n p1 p2 p3 p4 p5)), .val (.int (lw_u p1 p2 p3 p4 p5)), .val (.double (lw_scale p1 p2 p3 p4 p5)), .second, .val (.ref ad1), .val (.ref ad3), .val (.double (lw_g p1 p2 p3 p4 p5)), .second, .val (.int (1 : Int32)), .val (.double (lw_ra p1 p2 p3 p4 p5)), .second, .val (.double (lw_rb p1 p2 p3 p4 p5)), .second, .val (.ref ad10), .val (.ref ad20), .unset, .unset, .unset] [])) _
    refine XS.aload X27.here hx rfl (hb hby at_149) rfl rfl ?_
    show Steps p.tables e below (T27.setTop (mkF m 151 #[.val (.int p1), .val (.int p2), .val (.int p3), .val (.int p4), .val (.int p5), .val (.int (lw_k p1 p2 p3 p4 p5)), .val (.int (lw_n p1 p2 p3 p4 p5)), .val (.int (lw_u p1 p2 p3 p4 p5)), .val (.double (lw_scale p1 p2 p3 p4 p5)), .second, .val (.ref ad1), .val (.ref ad3), .val (.double (lw_g p1 p2 p3 p4 p5)), .second, .val (.int (1 : Int32)), .val (.double (lw_ra p1 p2 p3 p4 p5)), .second, .val (.double (lw_rb p1 p2 p3 p4 p5)), .second, .val (.ref ad10), .val (.ref ad20), .unset, .unset, .unset] [(.ref ad10)])) _
    refine XS.aload X27.here hx rfl (hb hby at_151) rfl rfl ?_
    show Steps p.tables e below (T27.setTop (mkF m 153 #[.val (.int p1), .val (.int p2), .val (.int p3), .val (.int p4), .val (.int p5), .val (.int (lw_k p1 p2 p3 p4 p5)), .val (.int (lw_n p1 p2 p3 p4 p5)), .val (.int (lw_u p1 p2 p3 p4 p5)), .val (.double (lw_scale p1 p2 p3 p4 p5)), .second, .val (.ref ad1), .val (.ref ad3), .val (.double (lw_g p1 p2 p3 p4 p5)), .second, .val (.int (1 : Int32)), .val (.double (lw_ra p1 p2 p3 p4 p5)), .second, .val (.double (lw_rb p1 p2 p3 p4 p5)), .second, .val (.ref ad10), .val (.ref ad20), .unset, .unset, .unset] [(.ref ad20), (.ref ad10)])) _
    refine st34.trans ?_
    show Steps p.tables e below (T34.setTop (mkF m 156 #[.val (.int p1), .val (.int p2), .val (.int p3), .val (.int p4), .val (.int p5), .val (.int (lw_k p1 p2 p3 p4 p5)), .val (.int (lw_n p1 p2 p3 p4 p5)), .val (.int (lw_u p1 p2 p3 p4 p5)), .val (.double (lw_scale p1 p2 p3 p4 p5)), .second, .val (.ref ad1), .val (.ref ad3), .val (.double (lw_g p1 p2 p3 p4 p5)), .second, .val (.int (1 : Int32)), .val (.double (lw_ra p1 p2 p3 p4 p5)), .second, .val (.double (lw_rb p1 p2 p3 p4 p5)), .second, .val (.ref ad10), .val (.ref ad20), .unset, .unset, .unset] [(.double (FP.ddiv (lw_ra p1 p2 p3 p4 p5) (FP.dadd (lw_ra p1 p2 p3 p4 p5) (lw_rb p1 p2 p3 p4 p5))))])) _
    refine XS.dstore X34.here hx rfl (hb hby at_156) rfl (l' := #[.val (.int p1), .val (.int p2), .val (.int p3), .val (.int p4), .val (.int p5), .val (.int (lw_k p1 p2 p3 p4 p5)), .val (.int (lw_n p1 p2 p3 p4 p5)), .val (.int (lw_u p1 p2 p3 p4 p5)), .val (.double (lw_scale p1 p2 p3 p4 p5)), .second, .val (.ref ad1), .val (.ref ad3), .val (.double (lw_g p1 p2 p3 p4 p5)), .second, .val (.int (1 : Int32)), .val (.double (lw_ra p1 p2 p3 p4 p5)), .second, .val (.double (lw_rb p1 p2 p3 p4 p5)), .second, .val (.ref ad10), .val (.ref ad20), .val (.double (lw_g2 p1 p2 p3 p4 p5)), .second, .unset]) rfl ?_
    show Steps p.tables e below (T34.setTop (mkF m 158 #[.val (.int p1), .val (.int p2), .val (.int p3), .val (.int p4), .val (.int p5), .val (.int (lw_k p1 p2 p3 p4 p5)), .val (.int (lw_n p1 p2 p3 p4 p5)), .val (.int (lw_u p1 p2 p3 p4 p5)), .val (.double (lw_scale p1 p2 p3 p4 p5)), .second, .val (.ref ad1), .val (.ref ad3), .val (.double (lw_g p1 p2 p3 p4 p5)), .second, .val (.int (1 : Int32)), .val (.double (lw_ra p1 p2 p3 p4 p5)), .second, .val (.double (lw_rb p1 p2 p3 p4 p5)), .second, .val (.ref ad10), .val (.ref ad20), .val (.double (lw_g2 p1 p2 p3 p4 p5)), .second, .unset] [])) _
    refine XS.dconst0 X34.here hx rfl (hb hby at_158) rfl ?_
    show Steps p.tables e below (T34.setTop (mkF m 159 #[.val (.int p1), .val (.int p2), .val (.int p3), .val (.int p4), .val (.int p5), .val (.int (lw_k p1 p2 p3 p4 p5)), .val (.int (lw_n p1 p2 p3 p4 p5)), .val (.int (lw_u p1 p2 p3 p4 p5)), .val (.double (lw_scale p1 p2 p3 p4 p5)), .second, .val (.ref ad1), .val (.ref ad3), .val (.double (lw_g p1 p2 p3 p4 p5)), .second, .val (.int (1 : Int32)), .val (.double (lw_ra p1 p2 p3 p4 p5)), .second, .val (.double (lw_rb p1 p2 p3 p4 p5)), .second, .val (.ref ad10), .val (.ref ad20), .val (.double (lw_g2 p1 p2 p3 p4 p5)), .second, .unset] [(.double (0 : UInt64))])) _
    refine XS.dload X34.here hx rfl (hb hby at_159) rfl ?_
    show Steps p.tables e below (T34.setTop (mkF m 161 #[.val (.int p1), .val (.int p2), .val (.int p3), .val (.int p4), .val (.int p5), .val (.int (lw_k p1 p2 p3 p4 p5)), .val (.int (lw_n p1 p2 p3 p4 p5)), .val (.int (lw_u p1 p2 p3 p4 p5)), .val (.double (lw_scale p1 p2 p3 p4 p5)), .second, .val (.ref ad1), .val (.ref ad3), .val (.double (lw_g p1 p2 p3 p4 p5)), .second, .val (.int (1 : Int32)), .val (.double (lw_ra p1 p2 p3 p4 p5)), .second, .val (.double (lw_rb p1 p2 p3 p4 p5)), .second, .val (.ref ad10), .val (.ref ad20), .val (.double (lw_g2 p1 p2 p3 p4 p5)), .second, .unset] [(.double (lw_g2 p1 p2 p3 p4 p5)), (.double (0 : UInt64))])) _
    refine XS.dcmpS X34.here hx rfl (hb hby at_161) rfl rfl ?_
    show Steps p.tables e below (T34.setTop (mkF m 162 #[.val (.int p1), .val (.int p2), .val (.int p3), .val (.int p4), .val (.int p5), .val (.int (lw_k p1 p2 p3 p4 p5)), .val (.int (lw_n p1 p2 p3 p4 p5)), .val (.int (lw_u p1 p2 p3 p4 p5)), .val (.double (lw_scale p1 p2 p3 p4 p5)), .second, .val (.ref ad1), .val (.ref ad3), .val (.double (lw_g p1 p2 p3 p4 p5)), .second, .val (.int (1 : Int32)), .val (.double (lw_ra p1 p2 p3 p4 p5)), .second, .val (.double (lw_rb p1 p2 p3 p4 p5)), .second, .val (.ref ad10), .val (.ref ad20), .val (.double (lw_g2 p1 p2 p3 p4 p5)), .second, .unset] [(.int (cmpValue (FP.dcmp (0 : UInt64) (lw_g2 p1 p2 p3 p4 p5)) .g))])) _
    refine XS.ifNo X34.here hx rfl (hb hby at_162) rfl (own_e2 p1 p2 p3 p4 p5) ?_
    show Steps p.tables e below (T34.setTop (mkF m 165 #[.val (.int p1), .val (.int p2), .val (.int p3), .val (.int p4), .val (.int p5), .val (.int (lw_k p1 p2 p3 p4 p5)), .val (.int (lw_n p1 p2 p3 p4 p5)), .val (.int (lw_u p1 p2 p3 p4 p5)), .val (.double (lw_scale p1 p2 p3 p4 p5)), .second, .val (.ref ad1), .val (.ref ad3), .val (.double (lw_g p1 p2 p3 p4 p5)), .second, .val (.int (1 : Int32)), .val (.double (lw_ra p1 p2 p3 p4 p5)), .second, .val (.double (lw_rb p1 p2 p3 p4 p5)), .second, .val (.ref ad10), .val (.ref ad20), .val (.double (lw_g2 p1 p2 p3 p4 p5)), .second, .unset] [])) _
    refine XS.dload X34.here hx rfl (hb hby at_165) rfl ?_
    show Steps p.tables e below (T34.setTop (mkF m 167 #[.val (.int p1), .val (.int p2), .val (.int p3), .val (.int p4), .val (.int p5), .val (.int (lw_k p1 p2 p3 p4 p5)), .val (.int (lw_n p1 p2 p3 p4 p5)), .val (.int (lw_u p1 p2 p3 p4 p5)), .val (.double (lw_scale p1 p2 p3 p4 p5)), .second, .val (.ref ad1), .val (.ref ad3), .val (.double (lw_g p1 p2 p3 p4 p5)), .second, .val (.int (1 : Int32)), .val (.double (lw_ra p1 p2 p3 p4 p5)), .second, .val (.double (lw_rb p1 p2 p3 p4 p5)), .second, .val (.ref ad10), .val (.ref ad20), .val (.double (lw_g2 p1 p2 p3 p4 p5)), .second, .unset] [(.double (lw_g2 p1 p2 p3 p4 p5))])) _
    refine XS.dconst1 X34.here hx rfl (hb hby at_167) rfl ?_
    show Steps p.tables e below (T34.setTop (mkF m 168 #[.val (.int p1), .val (.int p2), .val (.int p3), .val (.int p4), .val (.int p5), .val (.int (lw_k p1 p2 p3 p4 p5)), .val (.int (lw_n p1 p2 p3 p4 p5)), .val (.int (lw_u p1 p2 p3 p4 p5)), .val (.double (lw_scale p1 p2 p3 p4 p5)), .second, .val (.ref ad1), .val (.ref ad3), .val (.double (lw_g p1 p2 p3 p4 p5)), .second, .val (.int (1 : Int32)), .val (.double (lw_ra p1 p2 p3 p4 p5)), .second, .val (.double (lw_rb p1 p2 p3 p4 p5)), .second, .val (.ref ad10), .val (.ref ad20), .val (.double (lw_g2 p1 p2 p3 p4 p5)), .second, .unset] [(.double (4607182418800017408 : UInt64)), (.double (lw_g2 p1 p2 p3 p4 p5))])) _
    refine XS.dcmpS X34.here hx rfl (hb hby at_168) rfl rfl ?_
    show Steps p.tables e below (T34.setTop (mkF m 169 #[.val (.int p1), .val (.int p2), .val (.int p3), .val (.int p4), .val (.int p5), .val (.int (lw_k p1 p2 p3 p4 p5)), .val (.int (lw_n p1 p2 p3 p4 p5)), .val (.int (lw_u p1 p2 p3 p4 p5)), .val (.double (lw_scale p1 p2 p3 p4 p5)), .second, .val (.ref ad1), .val (.ref ad3), .val (.double (lw_g p1 p2 p3 p4 p5)), .second, .val (.int (1 : Int32)), .val (.double (lw_ra p1 p2 p3 p4 p5)), .second, .val (.double (lw_rb p1 p2 p3 p4 p5)), .second, .val (.ref ad10), .val (.ref ad20), .val (.double (lw_g2 p1 p2 p3 p4 p5)), .second, .unset] [(.int (cmpValue (FP.dcmp (lw_g2 p1 p2 p3 p4 p5) (4607182418800017408 : UInt64)) .g))])) _
    refine XS.ifNo X34.here hx rfl (hb hby at_169) rfl (own_e3 p1 p2 p3 p4 p5) ?_
    show Steps p.tables e below (T34.setTop (mkF m 172 #[.val (.int p1), .val (.int p2), .val (.int p3), .val (.int p4), .val (.int p5), .val (.int (lw_k p1 p2 p3 p4 p5)), .val (.int (lw_n p1 p2 p3 p4 p5)), .val (.int (lw_u p1 p2 p3 p4 p5)), .val (.double (lw_scale p1 p2 p3 p4 p5)), .second, .val (.ref ad1), .val (.ref ad3), .val (.double (lw_g p1 p2 p3 p4 p5)), .second, .val (.int (1 : Int32)), .val (.double (lw_ra p1 p2 p3 p4 p5)), .second, .val (.double (lw_rb p1 p2 p3 p4 p5)), .second, .val (.ref ad10), .val (.ref ad20), .val (.double (lw_g2 p1 p2 p3 p4 p5)), .second, .unset] [])) _
    refine XS.iconst X34.here hx rfl (hb hby at_172) ?_
    show Steps p.tables e below (T34.setTop (mkF m 173 #[.val (.int p1), .val (.int p2), .val (.int p3), .val (.int p4), .val (.int p5), .val (.int (lw_k p1 p2 p3 p4 p5)), .val (.int (lw_n p1 p2 p3 p4 p5)), .val (.int (lw_u p1 p2 p3 p4 p5)), .val (.double (lw_scale p1 p2 p3 p4 p5)), .second, .val (.ref ad1), .val (.ref ad3), .val (.double (lw_g p1 p2 p3 p4 p5)), .second, .val (.int (1 : Int32)), .val (.double (lw_ra p1 p2 p3 p4 p5)), .second, .val (.double (lw_rb p1 p2 p3 p4 p5)), .second, .val (.ref ad10), .val (.ref ad20), .val (.double (lw_g2 p1 p2 p3 p4 p5)), .second, .unset] [(.int (1 : Int32))])) _
    refine XS.goto X34.here hx rfl (pc0 := 173) (pc' := 177) rfl (hb hby at_173) (by decide) (by decide) ?_
    show Steps p.tables e below (T34.setTop (mkF m 177 #[.val (.int p1), .val (.int p2), .val (.int p3), .val (.int p4), .val (.int p5), .val (.int (lw_k p1 p2 p3 p4 p5)), .val (.int (lw_n p1 p2 p3 p4 p5)), .val (.int (lw_u p1 p2 p3 p4 p5)), .val (.double (lw_scale p1 p2 p3 p4 p5)), .second, .val (.ref ad1), .val (.ref ad3), .val (.double (lw_g p1 p2 p3 p4 p5)), .second, .val (.int (1 : Int32)), .val (.double (lw_ra p1 p2 p3 p4 p5)), .second, .val (.double (lw_rb p1 p2 p3 p4 p5)), .second, .val (.ref ad10), .val (.ref ad20), .val (.double (lw_g2 p1 p2 p3 p4 p5)), .second, .unset] [(.int (1 : Int32))])) _
    refine XS.istore X34.here hx rfl (hb hby at_177) rfl (l' := #[.val (.int p1), .val (.int p2), .val (.int p3), .val (.int p4), .val (.int p5), .val (.int (lw_k p1 p2 p3 p4 p5)), .val (.int (lw_n p1 p2 p3 p4 p5)), .val (.int (lw_u p1 p2 p3 p4 p5)), .val (.double (lw_scale p1 p2 p3 p4 p5)), .second, .val (.ref ad1), .val (.ref ad3), .val (.double (lw_g p1 p2 p3 p4 p5)), .second, .val (.int (1 : Int32)), .val (.double (lw_ra p1 p2 p3 p4 p5)), .second, .val (.double (lw_rb p1 p2 p3 p4 p5)), .second, .val (.ref ad10), .val (.ref ad20), .val (.double (lw_g2 p1 p2 p3 p4 p5)), .second, .val (.int (1 : Int32))]) rfl ?_
    show Steps p.tables e below (T34.setTop (mkF m 179 #[.val (.int p1), .val (.int p2), .val (.int p3), .val (.int p4), .val (.int p5), .val (.int (lw_k p1 p2 p3 p4 p5)), .val (.int (lw_n p1 p2 p3 p4 p5)), .val (.int (lw_u p1 p2 p3 p4 p5)), .val (.double (lw_scale p1 p2 p3 p4 p5)), .second, .val (.ref ad1), .val (.ref ad3), .val (.double (lw_g p1 p2 p3 p4 p5)), .second, .val (.int (1 : Int32)), .val (.double (lw_ra p1 p2 p3 p4 p5)), .second, .val (.double (lw_rb p1 p2 p3 p4 p5)), .second, .val (.ref ad10), .val (.ref ad20), .val (.double (lw_g2 p1 p2 p3 p4 p5)), .second, .val (.int (1 : Int32))] [])) _
    refine XS.iload X34.here hx rfl (hb hby at_179) rfl ?_
    show Steps p.tables e below (T34.setTop (mkF m 181 #[.val (.int p1), .val (.int p2), .val (.int p3), .val (.int p4), .val (.int p5), .val (.int (lw_k p1 p2 p3 p4 p5)), .val (.int (lw_n p1 p2 p3 p4 p5)), .val (.int (lw_u p1 p2 p3 p4 p5)), .val (.double (lw_scale p1 p2 p3 p4 p5)), .second, .val (.ref ad1), .val (.ref ad3), .val (.double (lw_g p1 p2 p3 p4 p5)), .second, .val (.int (1 : Int32)), .val (.double (lw_ra p1 p2 p3 p4 p5)), .second, .val (.double (lw_rb p1 p2 p3 p4 p5)), .second, .val (.ref ad10), .val (.ref ad20), .val (.double (lw_g2 p1 p2 p3 p4 p5)), .second, .val (.int (1 : Int32))] [(.int (1 : Int32))])) _
    refine XS.ifNo X34.here hx rfl (hb hby at_181) rfl (by decide) ?_
    show Steps p.tables e below (T34.setTop (mkF m 184 #[.val (.int p1), .val (.int p2), .val (.int p3), .val (.int p4), .val (.int p5), .val (.int (lw_k p1 p2 p3 p4 p5)), .val (.int (lw_n p1 p2 p3 p4 p5)), .val (.int (lw_u p1 p2 p3 p4 p5)), .val (.double (lw_scale p1 p2 p3 p4 p5)), .second, .val (.ref ad1), .val (.ref ad3), .val (.double (lw_g p1 p2 p3 p4 p5)), .second, .val (.int (1 : Int32)), .val (.double (lw_ra p1 p2 p3 p4 p5)), .second, .val (.double (lw_rb p1 p2 p3 p4 p5)), .second, .val (.ref ad10), .val (.ref ad20), .val (.double (lw_g2 p1 p2 p3 p4 p5)), .second, .val (.int (1 : Int32))] [])) _
    refine XS.iload X34.here hx rfl (hb hby at_184) rfl ?_
    show Steps p.tables e below (T34.setTop (mkF m 186 #[.val (.int p1), .val (.int p2), .val (.int p3), .val (.int p4), .val (.int p5), .val (.int (lw_k p1 p2 p3 p4 p5)), .val (.int (lw_n p1 p2 p3 p4 p5)), .val (.int (lw_u p1 p2 p3 p4 p5)), .val (.double (lw_scale p1 p2 p3 p4 p5)), .second, .val (.ref ad1), .val (.ref ad3), .val (.double (lw_g p1 p2 p3 p4 p5)), .second, .val (.int (1 : Int32)), .val (.double (lw_ra p1 p2 p3 p4 p5)), .second, .val (.double (lw_rb p1 p2 p3 p4 p5)), .second, .val (.ref ad10), .val (.ref ad20), .val (.double (lw_g2 p1 p2 p3 p4 p5)), .second, .val (.int (1 : Int32))] [(.int (1 : Int32))])) _
    refine XS.ifNo X34.here hx rfl (hb hby at_186) rfl (by decide) ?_
    show Steps p.tables e below (T34.setTop (mkF m 189 #[.val (.int p1), .val (.int p2), .val (.int p3), .val (.int p4), .val (.int p5), .val (.int (lw_k p1 p2 p3 p4 p5)), .val (.int (lw_n p1 p2 p3 p4 p5)), .val (.int (lw_u p1 p2 p3 p4 p5)), .val (.double (lw_scale p1 p2 p3 p4 p5)), .second, .val (.ref ad1), .val (.ref ad3), .val (.double (lw_g p1 p2 p3 p4 p5)), .second, .val (.int (1 : Int32)), .val (.double (lw_ra p1 p2 p3 p4 p5)), .second, .val (.double (lw_rb p1 p2 p3 p4 p5)), .second, .val (.ref ad10), .val (.ref ad20), .val (.double (lw_g2 p1 p2 p3 p4 p5)), .second, .val (.int (1 : Int32))] [])) _
    refine XS.iconst X34.here hx rfl (hb hby at_189) ?_
    show Steps p.tables e below (T34.setTop (mkF m 190 #[.val (.int p1), .val (.int p2), .val (.int p3), .val (.int p4), .val (.int p5), .val (.int (lw_k p1 p2 p3 p4 p5)), .val (.int (lw_n p1 p2 p3 p4 p5)), .val (.int (lw_u p1 p2 p3 p4 p5)), .val (.double (lw_scale p1 p2 p3 p4 p5)), .second, .val (.ref ad1), .val (.ref ad3), .val (.double (lw_g p1 p2 p3 p4 p5)), .second, .val (.int (1 : Int32)), .val (.double (lw_ra p1 p2 p3 p4 p5)), .second, .val (.double (lw_rb p1 p2 p3 p4 p5)), .second, .val (.ref ad10), .val (.ref ad20), .val (.double (lw_g2 p1 p2 p3 p4 p5)), .second, .val (.int (1 : Int32))] [(.int (1 : Int32))])) _
    refine XS.goto X34.here hx rfl (pc0 := 190) (pc' := 194) rfl (hb hby at_190) (by decide) (by decide) ?_
    show Steps p.tables e below (T34.setTop (mkF m 194 #[.val (.int p1), .val (.int p2), .val (.int p3), .val (.int p4), .val (.int p5), .val (.int (lw_k p1 p2 p3 p4 p5)), .val (.int (lw_n p1 p2 p3 p4 p5)), .val (.int (lw_u p1 p2 p3 p4 p5)), .val (.double (lw_scale p1 p2 p3 p4 p5)), .second, .val (.ref ad1), .val (.ref ad3), .val (.double (lw_g p1 p2 p3 p4 p5)), .second, .val (.int (1 : Int32)), .val (.double (lw_ra p1 p2 p3 p4 p5)), .second, .val (.double (lw_rb p1 p2 p3 p4 p5)), .second, .val (.ref ad10), .val (.ref ad20), .val (.double (lw_g2 p1 p2 p3 p4 p5)), .second, .val (.int (1 : Int32))] [(.int (1 : Int32))])) _
    exact retN X34 hx (t := .boolean) Bd.returns (by simp) (hb hby at_194) hr
  · show Q_lw Z p1 p2 p3 p4 p5  h0 n0 _ T34.heap _
    exact ⟨rfl, Nn34⟩
set_option maxRecDepth 65536 in
set_option maxHeartbeats 40000000 in
theorem comes_1 {Post : Tables → Env → Array Value → State → Outcome → State → Prop} (hpost : ∀ tb e args s v u, (limb_1_1.after args s (.returned v) u = true ∧ limb_1_2.after args s (.returned v) u = true ∧ True) → FrameEnd s (.returned v) u (Jvm.fieldLocs frame_1_writes args s ++ Jvm.arrayLocs frame_1_arrays args s ++ Jvm.staticLocs frame_1_statics s) 16 128 → Post tb e args s (.returned v) u) :
    ArmFor flags0 classFile x code maxLocals ret World_1 tables_1 room_1 Calls_1 rest_1 Pre_1 Post := by
  intro l hfl _ _ p e ha hc hk s m args below hf hA hF happ hP
  obtain ⟨hcalls, hrest, hpre⟩ := hP
  obtain ⟨-, -, -, hnamed, -, -, -, hat⟩ := (Spec.applies_iff hf).mp happ
  obtain ⟨hg, hn⟩ := and_e (Cond.before_iff.mp (show (Jvm.Cond.and given_1 narrow_1).before args s = true from hpre))
  obtain ⟨h1, g0⟩ := and_e hg
  obtain ⟨i0, g1⟩ := and_e g0
  obtain ⟨i1, g2⟩ := and_e g1
  obtain ⟨i2, g3⟩ := and_e g2
  obtain ⟨i3, g4⟩ := and_e g3
  obtain ⟨w0, w1, w2, w3, w4, rfl⟩ : ∃ w0 w1 w2 w3 w4 : Value, args = #[w0, w1, w2, w3, w4] := by
    have hs : args.size = 5 := by simpa [Cond.value, given_1] using h1
    obtain ⟨L⟩ := args
    match L, hs with
    | [w0, w1, w2, w3, w4], _ => exact ⟨w0, w1, w2, w3, w4, rfl⟩
  have hw := fun d (hd : d ∈ tables_1) => atoms_spec (ws := Jvm.Cond.code x code maxLocals ret :: tables_1) hat d (List.mem_cons_of_mem _ hd)
  obtain ⟨v0, e0⟩ := is_v i0
  obtain rfl : w0 = (.int v0) := Option.some.inj e0
  obtain ⟨v1, e1⟩ := is_v i1
  obtain rfl : w1 = (.int v1) := Option.some.inj e1
  obtain ⟨v2, e2⟩ := is_v i2
  obtain rfl : w2 = (.int v2) := Option.some.inj e2
  obtain ⟨v3, e3⟩ := is_v i3
  obtain rfl : w3 = (.int v3) := Option.some.inj e3
  obtain ⟨v4, e4⟩ := is_v g4
  obtain rfl : w4 = (.int v4) := Option.some.inj e4
  obtain ⟨n, o, h1, h2, h3, _, L, rfl, ⟨rfl, N⟩, hq⟩ := rm_lw l s _ hw tables_1 v0 v1 v2 v3 v4  s.heap s.heap.size (Nat.le_refl _)  p e ha hc hk s m _ below hf ((Spec.applies_iff_loose hf).mp happ).1 ⟨rfl, State.Warmed39.refl s, rfl⟩ trivial
  refine ⟨n, _, h1, h2, h3, hpost _ _ _ _ _ _ ⟨Cond.after_iff.mpr rfl, Cond.after_iff.mpr (eq_i res_at (Term.int_eval (1)) rfl), trivial⟩ ⟨hq.1, hq.2.1, (hq.2.2.sift fun y hy => Or.inr (N y hy)).mono (by decide) (by decide)⟩⟩
theorem main_1_1 : Claimed_1_1 := comes_1 fun _ _ _ _ _ _ h hF => ⟨h.1, hF⟩
theorem main_1_2 : Claimed_1_2 := comes_1 fun _ _ _ _ _ _ h hF => ⟨h.2.1, hF⟩
end Jvm.Pilot.@@N@@
namespace Jvm.Pilot.@@N@@
open Jvm Jvm.ClassFile Sem Op Lib Jvm.Free Jvm.Stand Jvm.Pilot.@@N@@.Jvm.D
/-! MADE BY PROGRAM (witnessworld.py) out of the Statement's table words and the real class files: 17 classes; the members and pool entries that the words name. The judged class is class 1, her method 1. -/
namespace start1
open Jvm.ClassFile
def u (s : String) : CpInfo := .utf8 (stringToUtf16 s)
/-- a pool by its gaps: so many unusable entries, then the entry; so many at the end -/
def gap : Nat → List CpInfo → List CpInfo
  | 0, r => r
  | n + 1, r => .unusable :: gap n r
def poolList (es : List (Nat × CpInfo)) (last : Nat) : List CpInfo := es.foldr (fun e r => gap e.1 (e.2 :: r)) (gap last [])
def pool (es : List (Nat × CpInfo)) (last : Nat) : Array CpInfo := ⟨poolList es last⟩
def fileOf (pool : Array CpInfo) (this : Nat) (attrs : Array Attribute := #[]) (ms : Array MethodInfo := #[]) (fl : Nat := 33) (sup : Nat := 0) (ifs : Array Nat := #[]) (fds : Array FieldInfo := #[]) : ClassFile where
  minorVersion := 0
  majorVersion := 65
  constantPool := pool
  accessFlags := fl
  thisClass := this
  superClass := sup
  interfaces := ifs
  fields := fds
  methods := ms
  attributes := attrs
def plain (name : String) (sup : Option ClassId) : Class where
  name := name
  kind := .ordinary
  loader := none
  accessFlags := 33
  super := sup
  interfaces := #[]
  cf := none
  fields := #[]
  methods := #[]
  instanceTypes := #[]
  staticTypes := #[]
  resolved := #[]
  callSites := []
  init := .initialized
  statics := none
  mirror := none

def pool0 : Array CpInfo := pool [(5, u "<init>"), (0, u "()V"), (1, .class_ 10), (1, u "java/lang/Object")] 113

def k0c0 : Code := { maxStack := 0, maxLocals := 1, code := object_method_1_code, exceptionTable := #[], attributes := #[] }
def k0m0 : Method := { name := "<init>", desc := "()V", sig := { parameters := [], returnType := none }, accessFlags := 1, code := some k0c0 }
/-- java/lang/Object -/
def k0 : Class := { plain "java/lang/Object" none with
  accessFlags := 33
  interfaces := #[]
  cf := some (fileOf pool0 8 #[] #[{ accessFlags := 1, nameIndex := 5, descriptorIndex := 6, attributes := #[] }] 33 0 #[] #[])
  fields := #[]
  methods := #[k0m0]
  instanceTypes := #[]
  staticTypes := #[]
  resolved := Array.replicate 124 none
  statics := none }

def pool1 : Array CpInfo := pool [(2, .class_ 4), (1, u "java/lang/Object"), (0, u "<init>"), (0, u "()V"), (0, .integer 2147483647), (0, .class_ 9), (0, u "com/example/gavelflow/gavelflow/market/PoissonArrivals"), (0, .methodref 8 11), (0, .nameAndType 5 12), (0, u "(D)V"), (0, .class_ 14), (0, u "com/example/gavelflow/gavelflow/market/Discounting"), (0, .methodref 13 11), (0, .methodref 8 17), (0, .nameAndType 18 19), (0, u "discountToNextArrival"), (0, u "(Lcom/example/gavelflow/gavelflow/market/Discounting;)D"), (0, .class_ 21), (0, u "com/example/gavelflow/gavelflow/market/PoissonArrivalsDiscountToNextArrivalPinLaw"), (2, u "law"), (0, u "(IIIII)Z")] 3

def k1m0 : Method := { name := "<init>", desc := "()V", sig := { parameters := [], returnType := none }, accessFlags := 1, code := none }
def k1c1 : Code := { maxStack := 6, maxLocals := 24, code := code, exceptionTable := #[], attributes := #[] }
def k1m1 : Method := { name := "law", desc := "(IIIII)Z", sig := { parameters := [.int, .int, .int, .int, .int], returnType := some .boolean }, accessFlags := 9, code := some k1c1 }
/-- com/example/gavelflow/gavelflow/market/PoissonArrivalsDiscountToNextArrivalPinLaw -/
def k1 : Class := { plain "com/example/gavelflow/gavelflow/market/PoissonArrivalsDiscountToNextArrivalPinLaw" (some 0) with
  accessFlags := 49
  interfaces := #[]
  cf := some (fileOf pool1 20 #[] #[{ accessFlags := 1, nameIndex := 5, descriptorIndex := 6, attributes := #[] }, { accessFlags := 9, nameIndex := 24, descriptorIndex := 25, attributes := #[] }] 49 2 #[] #[])
  fields := #[]
  methods := #[k1m0, k1m1]
  instanceTypes := #[]
  staticTypes := #[]
  resolved := Array.replicate 29 none
  statics := none }

def pool2 : Array CpInfo := pool [(1, .methodref 2 3), (0, .class_ 4), (0, .nameAndType 5 6), (0, u "java/lang/Object"), (0, u "<init>"), (0, u "()V"), (0, .class_ 8), (0, u "java/lang/Record")] 13

def k2c0 : Code := { maxStack := 1, maxLocals := 1, code := jdk_30_method_1_code, exceptionTable := #[], attributes := #[] }
def k2m0 : Method := { name := "<init>", desc := "()V", sig := { parameters := [], returnType := none }, accessFlags := 4, code := some k2c0 }
/-- java/lang/Record -/
def k2 : Class := { plain "java/lang/Record" (some 0) with
  accessFlags := 1057
  interfaces := #[]
  cf := some (fileOf pool2 7 #[] #[{ accessFlags := 4, nameIndex := 5, descriptorIndex := 6, attributes := #[] }] 1057 2 #[] #[])
  fields := #[]
  methods := #[k2m0]
  instanceTypes := #[]
  staticTypes := #[]
  resolved := Array.replicate 22 none
  statics := none }

def pool3 : Array CpInfo := pool [(1, .methodref 2 3), (0, .class_ 4), (0, .nameAndType 5 6), (0, u "java/lang/Record"), (0, u "<init>"), (0, u "()V"), (0, .methodref 8 9), (0, .class_ 10), (0, .nameAndType 11 12), (0, u "java/lang/Double"), (0, u "isFinite"), (0, u "(D)Z"), (9, .fieldref 23 24), (0, .class_ 25), (0, .nameAndType 26 27), (0, u "com/example/gavelflow/gavelflow/market/PoissonArrivals"), (0, u "rate"), (0, u "D"), (0, .methodref 29 30), (0, .class_ 31), (0, .nameAndType 32 33), (0, u "com/example/gavelflow/gavelflow/market/Discounting"), (0, u "forceOfInterest"), (0, u "()D"), (12, u "(D)V"), (4, u "discountToNextArrival"), (0, u "(Lcom/example/gavelflow/gavelflow/market/Discounting;)D")] 31

def k3c0 : Code := { maxStack := 4, maxLocals := 3, code := prog_18_method_1_code, exceptionTable := #[], attributes := #[] }
def k3m0 : Method := { name := "<init>", desc := "(D)V", sig := { parameters := [.double], returnType := none }, accessFlags := 1, code := some k3c0 }
def k3c1 : Code := { maxStack := 6, maxLocals := 2, code := prog_18_method_2_code, exceptionTable := #[], attributes := #[] }
def k3m1 : Method := { name := "discountToNextArrival", desc := "(Lcom/example/gavelflow/gavelflow/market/Discounting;)D", sig := { parameters := [(.object "com/example/gavelflow/gavelflow/market/Discounting")], returnType := some .double }, accessFlags := 1, code := some k3c1 }
/-- com/example/gavelflow/gavelflow/market/PoissonArrivals -/
def k3 : Class := { plain "com/example/gavelflow/gavelflow/market/PoissonArrivals" (some 2) with
  accessFlags := 49
  interfaces := #[]
  cf := some (fileOf pool3 23 #[] #[{ accessFlags := 1, nameIndex := 5, descriptorIndex := 46, attributes := #[] }, { accessFlags := 1, nameIndex := 51, descriptorIndex := 52, attributes := #[] }] 49 2 #[] #[{ accessFlags := 18, nameIndex := 26, descriptorIndex := 27, attributes := #[] }])
  fields := #[{ name := "rate", type := .double, accessFlags := 18, slot := 0, constantValue := 0 }]
  methods := #[k3m0, k3m1]
  instanceTypes := #[.double]
  staticTypes := #[]
  resolved := Array.replicate 84 none
  statics := none }

def pool4 : Array CpInfo := pool [(1, .class_ 2), (0, u "java/io/Serializable"), (0, .class_ 4), (0, u "java/lang/Object")] 2

/-- java/io/Serializable -/
def k4 : Class := { plain "java/io/Serializable" (some 0) with
  accessFlags := 1537
  interfaces := #[]
  cf := some (fileOf pool4 1 #[] #[] 1537 3 #[] #[])
  fields := #[]
  methods := #[]
  instanceTypes := #[]
  staticTypes := #[]
  resolved := Array.replicate 7 none
  statics := none }

def pool5 : Array CpInfo := pool [(2, .class_ 4), (1, u "java/lang/Object"), (0, u "<init>"), (0, u "()V"), (1, .class_ 10), (1, u "java/lang/Number"), (2, .class_ 14), (0, u "java/io/Serializable"), (0, u "serialVersionUID"), (0, u "J")] 20

def k5m0 : Method := { name := "<init>", desc := "()V", sig := { parameters := [], returnType := none }, accessFlags := 1, code := none }
/-- java/lang/Number -/
def k5 : Class := { plain "java/lang/Number" (some 0) with
  accessFlags := 1057
  interfaces := #[4]
  cf := some (fileOf pool5 8 #[] #[{ accessFlags := 1, nameIndex := 5, descriptorIndex := 6, attributes := #[] }] 1057 2 #[13] #[{ accessFlags := 26, nameIndex := 15, descriptorIndex := 16, attributes := #[] }])
  fields := #[{ name := "serialVersionUID", type := .long, accessFlags := 26, slot := 0, constantValue := 0 }]
  methods := #[k5m0]
  instanceTypes := #[]
  staticTypes := #[.long]
  resolved := Array.replicate 37 none
  statics := none }

def pool6 : Array CpInfo := pool [(1, .class_ 2), (0, u "java/lang/Comparable"), (0, .class_ 4), (0, u "java/lang/Object")] 7

/-- java/lang/Comparable -/
def k6 : Class := { plain "java/lang/Comparable" (some 0) with
  accessFlags := 1537
  interfaces := #[]
  cf := some (fileOf pool6 1 #[] #[] 1537 3 #[] #[])
  fields := #[]
  methods := #[]
  instanceTypes := #[]
  staticTypes := #[]
  resolved := Array.replicate 12 none
  statics := none }

def pool7 : Array CpInfo := pool [(1, .class_ 2), (0, u "java/lang/constant/Constable"), (0, .class_ 4), (0, u "java/lang/Object")] 6

/-- java/lang/constant/Constable -/
def k7 : Class := { plain "java/lang/constant/Constable" (some 0) with
  accessFlags := 1537
  interfaces := #[]
  cf := some (fileOf pool7 1 #[] #[] 1537 3 #[] #[])
  fields := #[]
  methods := #[]
  instanceTypes := #[]
  staticTypes := #[]
  resolved := Array.replicate 11 none
  statics := none }

def pool8 : Array CpInfo := pool [(1, .class_ 2), (0, u "java/lang/constant/ConstantDesc"), (0, .class_ 4), (0, u "java/lang/Object")] 32

/-- java/lang/constant/ConstantDesc -/
def k8 : Class := { plain "java/lang/constant/ConstantDesc" (some 0) with
  accessFlags := 1537
  interfaces := #[]
  cf := some (fileOf pool8 1 #[] #[] 1537 3 #[] #[])
  fields := #[]
  methods := #[]
  instanceTypes := #[]
  staticTypes := #[]
  resolved := Array.replicate 37 none
  statics := none }

def pool9 : Array CpInfo := pool [(1, .class_ 2), (0, u "java/lang/Double"), (10, u "isFinite"), (0, u "(D)Z"), (8, .class_ 25), (1, u "java/lang/Math"), (12, .methodref 23 39), (0, .nameAndType 40 41), (0, u "abs"), (0, u "(D)D"), (69, .double 9218868437227405311), (2, .class_ 116), (1, u "java/lang/Number"), (3, u "value"), (0, u "D"), (51, u "TYPE"), (0, u "Ljava/lang/Class;"), (0, .class_ 176), (0, u "java/lang/Comparable"), (0, .class_ 178), (0, u "java/lang/constant/Constable"), (0, .class_ 180), (0, u "java/lang/constant/ConstantDesc"), (0, u "POSITIVE_INFINITY"), (3, u "NEGATIVE_INFINITY"), (2, u "NaN"), (2, u "MAX_VALUE"), (0, u "MIN_NORMAL"), (0, u "MIN_VALUE"), (2, u "SIZE"), (0, u "I"), (1, u "PRECISION"), (1, u "MAX_EXPONENT"), (1, u "MIN_EXPONENT"), (1, u "BYTES"), (3, u "serialVersionUID"), (0, u "J")] 79

def k9c0 : Code := { maxStack := 4, maxLocals := 2, code := jdk_117_method_8_code, exceptionTable := #[], attributes := #[] }
def k9m0 : Method := { name := "isFinite", desc := "(D)Z", sig := { parameters := [.double], returnType := some .boolean }, accessFlags := 9, code := some k9c0 }
/-- java/lang/Double -/
def k9 : Class := { plain "java/lang/Double" (some 5) with
  accessFlags := 49
  interfaces := #[6, 7, 8]
  cf := some (fileOf pool9 1 #[] #[{ accessFlags := 9, nameIndex := 13, descriptorIndex := 14, attributes := #[] }] 49 114 #[175, 177, 179] #[{ accessFlags := 25, nameIndex := 181, descriptorIndex := 121, attributes := #[] }, { accessFlags := 25, nameIndex := 185, descriptorIndex := 121, attributes := #[] }, { accessFlags := 25, nameIndex := 188, descriptorIndex := 121, attributes := #[] }, { accessFlags := 25, nameIndex := 191, descriptorIndex := 121, attributes := #[] }, { accessFlags := 25, nameIndex := 192, descriptorIndex := 121, attributes := #[] }, { accessFlags := 25, nameIndex := 193, descriptorIndex := 121, attributes := #[] }, { accessFlags := 25, nameIndex := 196, descriptorIndex := 197, attributes := #[] }, { accessFlags := 25, nameIndex := 199, descriptorIndex := 197, attributes := #[] }, { accessFlags := 25, nameIndex := 201, descriptorIndex := 197, attributes := #[] }, { accessFlags := 25, nameIndex := 203, descriptorIndex := 197, attributes := #[] }, { accessFlags := 25, nameIndex := 205, descriptorIndex := 197, attributes := #[] }, { accessFlags := 25, nameIndex := 173, descriptorIndex := 174, attributes := #[] }, { accessFlags := 18, nameIndex := 120, descriptorIndex := 121, attributes := #[] }, { accessFlags := 26, nameIndex := 209, descriptorIndex := 210, attributes := #[] }])
  fields := #[{ name := "POSITIVE_INFINITY", type := .double, accessFlags := 25, slot := 0, constantValue := 0 }, { name := "NEGATIVE_INFINITY", type := .double, accessFlags := 25, slot := 1, constantValue := 0 }, { name := "NaN", type := .double, accessFlags := 25, slot := 2, constantValue := 0 }, { name := "MAX_VALUE", type := .double, accessFlags := 25, slot := 3, constantValue := 0 }, { name := "MIN_NORMAL", type := .double, accessFlags := 25, slot := 4, constantValue := 0 }, { name := "MIN_VALUE", type := .double, accessFlags := 25, slot := 5, constantValue := 0 }, { name := "SIZE", type := .int, accessFlags := 25, slot := 6, constantValue := 0 }, { name := "PRECISION", type := .int, accessFlags := 25, slot := 7, constantValue := 0 }, { name := "MAX_EXPONENT", type := .int, accessFlags := 25, slot := 8, constantValue := 0 }, { name := "MIN_EXPONENT", type := .int, accessFlags := 25, slot := 9, constantValue := 0 }, { name := "BYTES", type := .int, accessFlags := 25, slot := 10, constantValue := 0 }, { name := "TYPE", type := (.object "java/lang/Class"), accessFlags := 25, slot := 11, constantValue := 0 }, { name := "value", type := .double, accessFlags := 18, slot := 0, constantValue := 0 }, { name := "serialVersionUID", type := .long, accessFlags := 26, slot := 12, constantValue := 0 }]
  methods := #[k9m0]
  instanceTypes := #[.double]
  staticTypes := #[.double, .double, .double, .double, .double, .double, .int, .int, .int, .int, .int, (.object "java/lang/Class"), .long]
  resolved := Array.replicate 290 none
  statics := none }

def pool10 : Array CpInfo := pool [(1, .class_ 2), (0, u "java/lang/Math"), (1, .class_ 6), (1, u "java/lang/Object"), (0, u "<init>"), (0, u "()V"), (5, u "(D)D"), (83, .class_ 100), (1, u "java/lang/Math$RandomNumberGeneratorHolder"), (23, u "abs"), (47, u "negativeZeroFloatBits"), (0, u "J"), (2, u "negativeZeroDoubleBits"), (68, u "$assertionsDisabled"), (0, u "Z"), (91, u "twoToTheDoubleScaleDown"), (0, u "D"), (4, u "twoToTheDoubleScaleUp"), (9, u "E"), (3, u "PI"), (2, u "TAU"), (2, u "DEGREES_TO_RADIANS"), (0, u "RADIANS_TO_DEGREES")] 94

def k10m0 : Method := { name := "<init>", desc := "()V", sig := { parameters := [], returnType := none }, accessFlags := 2, code := none }
def k10c1 : Code := { maxStack := 4, maxLocals := 2, code := jdk_29_method_64_code, exceptionTable := #[], attributes := #[] }
def k10m1 : Method := { name := "abs", desc := "(D)D", sig := { parameters := [.double], returnType := some .double }, accessFlags := 9, code := some k10c1 }
/-- java/lang/Math -/
def k10 : Class := { plain "java/lang/Math" (some 0) with
  accessFlags := 49
  interfaces := #[]
  cf := some (fileOf pool10 1 #[.nestMembers #[98]] #[{ accessFlags := 2, nameIndex := 7, descriptorIndex := 8, attributes := #[] }, { accessFlags := 9, nameIndex := 124, descriptorIndex := 14, attributes := #[] }] 49 4 #[] #[{ accessFlags := 25, nameIndex := 354, descriptorIndex := 339, attributes := #[] }, { accessFlags := 25, nameIndex := 358, descriptorIndex := 339, attributes := #[] }, { accessFlags := 25, nameIndex := 361, descriptorIndex := 339, attributes := #[] }, { accessFlags := 26, nameIndex := 364, descriptorIndex := 339, attributes := #[] }, { accessFlags := 26, nameIndex := 365, descriptorIndex := 339, attributes := #[] }, { accessFlags := 26, nameIndex := 172, descriptorIndex := 173, attributes := #[] }, { accessFlags := 26, nameIndex := 176, descriptorIndex := 173, attributes := #[] }, { accessFlags := 8, nameIndex := 344, descriptorIndex := 339, attributes := #[] }, { accessFlags := 8, nameIndex := 338, descriptorIndex := 339, attributes := #[] }, { accessFlags := 4120, nameIndex := 245, descriptorIndex := 246, attributes := #[] }])
  fields := #[{ name := "E", type := .double, accessFlags := 25, slot := 0, constantValue := 0 }, { name := "PI", type := .double, accessFlags := 25, slot := 1, constantValue := 0 }, { name := "TAU", type := .double, accessFlags := 25, slot := 2, constantValue := 0 }, { name := "DEGREES_TO_RADIANS", type := .double, accessFlags := 26, slot := 3, constantValue := 0 }, { name := "RADIANS_TO_DEGREES", type := .double, accessFlags := 26, slot := 4, constantValue := 0 }, { name := "negativeZeroFloatBits", type := .long, accessFlags := 26, slot := 5, constantValue := 0 }, { name := "negativeZeroDoubleBits", type := .long, accessFlags := 26, slot := 6, constantValue := 0 }, { name := "twoToTheDoubleScaleUp", type := .double, accessFlags := 8, slot := 7, constantValue := 0 }, { name := "twoToTheDoubleScaleDown", type := .double, accessFlags := 8, slot := 8, constantValue := 0 }, { name := "$assertionsDisabled", type := .boolean, accessFlags := 4120, slot := 9, constantValue := 0 }]
  methods := #[k10m0, k10m1]
  instanceTypes := #[]
  staticTypes := #[.double, .double, .double, .double, .double, .long, .long, .double, .double, .boolean]
  resolved := Array.replicate 460 none
  statics := none }

def pool11 : Array CpInfo := pool [(1, .methodref 2 3), (0, .class_ 4), (0, .nameAndType 5 6), (0, u "java/lang/Record"), (0, u "<init>"), (0, u "()V"), (0, .methodref 8 9), (0, .class_ 10), (0, .nameAndType 11 12), (0, u "java/lang/Double"), (0, u "isFinite"), (0, u "(D)Z"), (9, .fieldref 23 24), (0, .class_ 25), (0, .nameAndType 26 27), (0, u "com/example/gavelflow/gavelflow/market/Discounting"), (0, u "forceOfInterest"), (0, u "D"), (9, u "(D)V"), (33, u "()D")] 36

def k11c0 : Code := { maxStack := 4, maxLocals := 3, code := prog_13_method_1_code, exceptionTable := #[], attributes := #[] }
def k11m0 : Method := { name := "<init>", desc := "(D)V", sig := { parameters := [.double], returnType := none }, accessFlags := 1, code := some k11c0 }
def k11c1 : Code := { maxStack := 2, maxLocals := 1, code := prog_13_method_10_code, exceptionTable := #[], attributes := #[] }
def k11m1 : Method := { name := "forceOfInterest", desc := "()D", sig := { parameters := [], returnType := some .double }, accessFlags := 1, code := some k11c1 }
/-- com/example/gavelflow/gavelflow/market/Discounting -/
def k11 : Class := { plain "com/example/gavelflow/gavelflow/market/Discounting" (some 2) with
  accessFlags := 49
  interfaces := #[]
  cf := some (fileOf pool11 23 #[] #[{ accessFlags := 1, nameIndex := 5, descriptorIndex := 37, attributes := #[] }, { accessFlags := 1, nameIndex := 26, descriptorIndex := 71, attributes := #[] }] 49 2 #[] #[{ accessFlags := 18, nameIndex := 26, descriptorIndex := 27, attributes := #[] }])
  fields := #[{ name := "forceOfInterest", type := .double, accessFlags := 18, slot := 0, constantValue := 0 }]
  methods := #[k11m0, k11m1]
  instanceTypes := #[.double]
  staticTypes := #[]
  resolved := Array.replicate 108 none
  statics := none }

def pool12 : Array CpInfo := pool [(1, u "java/lang/Cloneable"), (0, .class_ 1), (0, u "java/lang/Object"), (0, .class_ 3)] 3

/-- java/lang/Cloneable -/
def k12 : Class := { plain "java/lang/Cloneable" (some 0) with
  accessFlags := 1537
  interfaces := #[]
  cf := some (fileOf pool12 2 #[] #[] 1537 4 #[] #[])
  fields := #[]
  methods := #[]
  instanceTypes := #[]
  staticTypes := #[]
  resolved := Array.replicate 8 none
  statics := none }

/-- the primitive byte -/
def k13 : Class := { plain "byte" none with kind := .primitive 'B', accessFlags := 0x411 }
/-- [B -/
def k14 : Class := { plain "[B" (some 0) with kind := .array 13 .byte, interfaces := #[12, 4], accessFlags := 1041 }

/-- the primitive int -/
def k15 : Class := { plain "int" none with kind := .primitive 'I', accessFlags := 0x411 }
/-- [I -/
def k16 : Class := { plain "[I" (some 0) with kind := .array 15 .int, interfaces := #[12, 4], accessFlags := 1041 }

def heap : Heap := #[]
def classes : Array Class := #[k0, k1, k2, k3, k4, k5, k6, k7, k8, k9, k10, k11, k12, k13, k14, k15, k16]
def interned : List (Array UInt16 × Addr) := []
def slotsUsed : Nat := 0
def theMethod : MethodId := ⟨1, 1⟩
def args0 : Array Value := #[.int 3, .int 4, .int 5, .int 6, .int 7]
def aboutOver (below : List Frame) : State where
  vm := { classes := classes, interned := interned.toArray }
  heap := heap
  slotsUsed := slotsUsed
  threads := #[{ frames := .invoking theMethod args0 :: below }]
def below0 : List Frame := [.native { method := ⟨0, 0⟩, args := #[] }]
def about1 : State := aboutOver below0
def p0 : Program := .bare "" "" ""
def e0 : Env := launch0.env 0 0 0
theorem w_frames : about1.frames = Frame.invoking theMethod args0 :: below0 := rfl
set_option maxRecDepth 65536 in
theorem w_args : argsFit about1.vm theMethod args0 = true := by decide +kernel
set_option maxRecDepth 65536 in
theorem w_heap : heapFits about1 = true := by decide +kernel
set_option maxRecDepth 65536 in
theorem w_runnable : about1.curStatus? = some .runnable := by decide +kernel
set_option maxRecDepth 65536 in
theorem w_alone : about1.alone = true := by decide +kernel
set_option maxRecDepth 65536 in
theorem w_named : about1.methodNamed? x = some theMethod := by decide +kernel
set_option maxRecDepth 65536 in
theorem w_hears : about1.hears theMethod below0 = true := by decide +kernel
set_option maxRecDepth 65536 in
theorem w_ripe : about1.ripe theMethod args0 below0 = true := by decide +kernel
theorem w_running : about1.status = .running := rfl
set_option maxRecDepth 65536 in
theorem w_room : about1.hasRoom e0.platform room_1 = true :=
  launch0.hasRoom_least _ room_1 (by decide +kernel) (by decide +kernel) (by decide +kernel) (by decide +kernel) (by decide +kernel) (by decide +kernel)
theorem allAtoms_all (ts : List Jvm.Cond) (a : Array Jvm.Value) (st : Jvm.State) : (allAtoms ts).before a st = ts.all (fun c => c.before a st) := by
  induction ts with
  | nil => rfl
  | cons c t ih =>
    show (Jvm.Cond.and c (allAtoms t)).before a st = _
    rw [Jvm.Cond.before_and, ih, List.all_cons]
def words1 : List Jvm.Cond := Jvm.Cond.code x code maxLocals ret :: tables_1
/-- a 'code' word, met by the world's own term for the bytes: nothing is compared byte by byte -/
theorem code_word {y : MethodName} {bytes : ByteArray} {mx : Nat} {rt : Option FieldType} {a : Array Value} {s : State} {m : MethodId} {meth : Method} {c : Code} (h1 : s.methodNamed? y = some m) (h2 : s.vm.method? m = some meth) (h3 : meth.code = some c) (h4 : c.code = bytes)
    (h5 : (c.maxLocals == mx && c.exceptionTable.isEmpty && decide (c.maxStack ≤ mostOperands) && decide (meth.sig.returnType = rt) && !meth.locks && decide (parseMethodDescriptor y.desc = some meth.sig)) = true) : (Jvm.Cond.code y bytes mx rt).before a s = true := by
  simp only [Bool.and_eq_true, beq_iff_eq, Bool.not_eq_true', decide_eq_true_eq] at h5
  obtain ⟨⟨⟨⟨⟨g1, g2⟩, g3⟩, g4⟩, g5⟩, g6⟩ := h5
  simp [Cond.before, Cond.holds, Cond.value, h1, h2, h3, h4, g1, g2, g3, g4, g5, g6]
def isCode : Jvm.Cond → Bool
  | .code _ _ _ _ => true
  | _ => false
theorem all_split {L : List Jvm.Cond} {P : Jvm.Cond → Bool} (h1 : L.all (fun c => isCode c || P c) = true) (h2 : ∀ c ∈ L.filter isCode, P c = true) : L.all P = true := by
  refine List.all_eq_true.mpr fun c hc => ?_
  have h := List.all_eq_true.mp h1 c hc
  rcases Bool.eq_false_or_eq_true (isCode c) with hi | hi
  · exact h2 c (List.mem_filter.mpr ⟨hc, hi⟩)
  · simpa [hi] using h
set_option maxRecDepth 65536 in
theorem w_c0 : (Jvm.Cond.code x code maxLocals ret).before args0 about1 = true := code_word (m := ⟨1, 1⟩) (meth := k1m1) (c := k1c1) (by decide +kernel) rfl rfl rfl (by decide +kernel)
set_option maxRecDepth 65536 in
theorem w_c1 : (Jvm.Cond.code ({ cls := "com/example/gavelflow/gavelflow/market/PoissonArrivals", name := "<init>", desc := "(D)V" } : Jvm.MethodName) prog_18_method_1_code (3 : Nat) (Option.none : Option Jvm.ClassFile.FieldType)).before args0 about1 = true := code_word (m := ⟨3, 0⟩) (meth := k3m0) (c := k3c0) (by decide +kernel) rfl rfl rfl (by decide +kernel)
set_option maxRecDepth 65536 in
theorem w_c2 : (Jvm.Cond.code ({ cls := "java/lang/Record", name := "<init>", desc := "()V" } : Jvm.MethodName) jdk_30_method_1_code (1 : Nat) (Option.none : Option Jvm.ClassFile.FieldType)).before args0 about1 = true := code_word (m := ⟨2, 0⟩) (meth := k2m0) (c := k2c0) (by decide +kernel) rfl rfl rfl (by decide +kernel)
set_option maxRecDepth 65536 in
theorem w_c3 : (Jvm.Cond.code ({ cls := "java/lang/Object", name := "<init>", desc := "()V" } : Jvm.MethodName) object_method_1_code (1 : Nat) (Option.none : Option Jvm.ClassFile.FieldType)).before args0 about1 = true := code_word (m := ⟨0, 0⟩) (meth := k0m0) (c := k0c0) (by decide +kernel) rfl rfl rfl (by decide +kernel)
set_option maxRecDepth 65536 in
theorem w_c4 : (Jvm.Cond.code ({ cls := "java/lang/Double", name := "isFinite", desc := "(D)Z" } : Jvm.MethodName) jdk_117_method_8_code (2 : Nat) (Option.some Jvm.ClassFile.FieldType.boolean)).before args0 about1 = true := code_word (m := ⟨9, 0⟩) (meth := k9m0) (c := k9c0) (by decide +kernel) rfl rfl rfl (by decide +kernel)
set_option maxRecDepth 65536 in
theorem w_c5 : (Jvm.Cond.code ({ cls := "java/lang/Math", name := "abs", desc := "(D)D" } : Jvm.MethodName) jdk_29_method_64_code (2 : Nat) (Option.some Jvm.ClassFile.FieldType.double)).before args0 about1 = true := code_word (m := ⟨10, 1⟩) (meth := k10m1) (c := k10c1) (by decide +kernel) rfl rfl rfl (by decide +kernel)
set_option maxRecDepth 65536 in
theorem w_c6 : (Jvm.Cond.code ({ cls := "com/example/gavelflow/gavelflow/market/Discounting", name := "<init>", desc := "(D)V" } : Jvm.MethodName) prog_13_method_1_code (3 : Nat) (Option.none : Option Jvm.ClassFile.FieldType)).before args0 about1 = true := code_word (m := ⟨11, 0⟩) (meth := k11m0) (c := k11c0) (by decide +kernel) rfl rfl rfl (by decide +kernel)
set_option maxRecDepth 65536 in
theorem w_c7 : (Jvm.Cond.code ({ cls := "com/example/gavelflow/gavelflow/market/PoissonArrivals", name := "discountToNextArrival", desc := "(Lcom/example/gavelflow/gavelflow/market/Discounting;)D" } : Jvm.MethodName) prog_18_method_2_code (2 : Nat) (Option.some Jvm.ClassFile.FieldType.double)).before args0 about1 = true := code_word (m := ⟨3, 1⟩) (meth := k3m1) (c := k3c1) (by decide +kernel) rfl rfl rfl (by decide +kernel)
set_option maxRecDepth 65536 in
theorem w_c8 : (Jvm.Cond.code ({ cls := "com/example/gavelflow/gavelflow/market/Discounting", name := "forceOfInterest", desc := "()D" } : Jvm.MethodName) prog_13_method_10_code (1 : Nat) (Option.some Jvm.ClassFile.FieldType.double)).before args0 about1 = true := code_word (m := ⟨11, 1⟩) (meth := k11m1) (c := k11c1) (by decide +kernel) rfl rfl rfl (by decide +kernel)
def codes1 : List Jvm.Cond := [Jvm.Cond.code x code maxLocals ret, Jvm.Cond.code ({ cls := "com/example/gavelflow/gavelflow/market/PoissonArrivals", name := "<init>", desc := "(D)V" } : Jvm.MethodName) prog_18_method_1_code (3 : Nat) (Option.none : Option Jvm.ClassFile.FieldType), Jvm.Cond.code ({ cls := "java/lang/Record", name := "<init>", desc := "()V" } : Jvm.MethodName) jdk_30_method_1_code (1 : Nat) (Option.none : Option Jvm.ClassFile.FieldType), Jvm.Cond.code ({ cls := "java/lang/Object", name := "<init>", desc := "()V" } : Jvm.MethodName) object_method_1_code (1 : Nat) (Option.none : Option Jvm.ClassFile.FieldType), Jvm.Cond.code ({ cls := "java/lang/Double", name := "isFinite", desc := "(D)Z" } : Jvm.MethodName) jdk_117_method_8_code (2 : Nat) (Option.some Jvm.ClassFile.FieldType.boolean), Jvm.Cond.code ({ cls := "java/lang/Math", name := "abs", desc := "(D)D" } : Jvm.MethodName) jdk_29_method_64_code (2 : Nat) (Option.some Jvm.ClassFile.FieldType.double), Jvm.Cond.code ({ cls := "com/example/gavelflow/gavelflow/market/Discounting", name := "<init>", desc := "(D)V" } : Jvm.MethodName) prog_13_method_1_code (3 : Nat) (Option.none : Option Jvm.ClassFile.FieldType), Jvm.Cond.code ({ cls := "com/example/gavelflow/gavelflow/market/PoissonArrivals", name := "discountToNextArrival", desc := "(Lcom/example/gavelflow/gavelflow/market/Discounting;)D" } : Jvm.MethodName) prog_18_method_2_code (2 : Nat) (Option.some Jvm.ClassFile.FieldType.double), Jvm.Cond.code ({ cls := "com/example/gavelflow/gavelflow/market/Discounting", name := "forceOfInterest", desc := "()D" } : Jvm.MethodName) prog_13_method_10_code (1 : Nat) (Option.some Jvm.ClassFile.FieldType.double)]
set_option maxRecDepth 65536 in
theorem codes_eq : words1.filter isCode = codes1 := rfl
theorem w_codes : ∀ c ∈ words1.filter isCode, c.before args0 about1 = true := by
  rw [codes_eq]
  intro c hc
  simp only [codes1, List.mem_cons, List.not_mem_nil, or_false] at hc
  rcases hc with rfl | rfl | rfl | rfl | rfl | rfl | rfl | rfl | rfl
  · exact w_c0
  · exact w_c1
  · exact w_c2
  · exact w_c3
  · exact w_c4
  · exact w_c5
  · exact w_c6
  · exact w_c7
  · exact w_c8
set_option maxRecDepth 65536 in
theorem w_t1 : (words1.take 24).all (fun c => isCode c || c.before args0 about1) = true := by decide +kernel
set_option maxRecDepth 65536 in
theorem w_t2 : (words1.drop 24).all (fun c => isCode c || c.before args0 about1) = true := by decide +kernel
theorem w_tables : (allAtoms (Jvm.Cond.code x code maxLocals ret :: tables_1)).before args0 about1 = true := by
  rw [allAtoms_all]
  show words1.all (fun c => c.before args0 about1) = true
  refine all_split ?_ w_codes
  rw [← List.take_append_drop 24 words1, List.all_append, w_t1, w_t2]
  rfl
set_option maxRecDepth 65536 in
theorem w_case : (Jvm.Cond.and given_1 narrow_1).before args0 about1 = true := by decide +kernel
theorem w_applies : (headSpec (Jvm.Cond.code x code maxLocals ret :: tables_1) room_1).applies x e0.platform about1 = true :=
  (Spec.applies_iff w_frames).mpr ⟨w_running, w_runnable, w_alone, w_named, w_hears, w_ripe, w_room, w_tables⟩
theorem atStart : AtStart classFile x code maxLocals ret World_1 tables_1 room_1 Calls_1 rest_1 Pre_1 launch0 p0 e0 about1 theMethod args0 below0 :=
  ⟨lists_1, trivial, launch0.admits_env _ _ _, launch0.least_env, fairChoices_fair.cas, fairChoices_fair.clock, w_frames, w_args, w_heap, w_applies, trivial, trivial, w_case⟩
end start1
theorem witness_1 : WitnessClaimed_1 := ⟨start1.p0, start1.e0, start1.about1, start1.theMethod, start1.args0, start1.below0, start1.atStart⟩
end Jvm.Pilot.@@N@@
