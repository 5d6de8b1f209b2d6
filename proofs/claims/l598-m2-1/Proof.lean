import JvmDerived
import JvmDerived.Pilot.@@N@@Statement
import JvmDerived.Pilot.@@N@@Code
set_option linter.unusedVariables false
set_option linter.unusedSimpArgs false
@@BLOCK:NumsL.lean.txt@@
namespace Jvm.RoadKit
open Sem ClassFile Op Lib Jvm.Stand Jvm.Free Jvm.LawKit
section New
variable {p : Program} {l : Launch} {e : Env} {R : Room} {s : State} {m : MethodId} {args : Array Value} {below : List Frame} {meth : Method} {c : Code} {T : State} {locs : List Loc} {cells slots : Nat}
theorem retI (X : Stand p l e R s m args below meth c T locs cells slots) (hx : p.tables.exec = Jvm.exec) {pc : Nat} {Ls : Array Slot} {z : Int32} {rest : List Value} (hret : meth.sig.returnType = some .int) (hd : decode c.code pc = .ok (.ireturn, 1)) {fs : List Frame}
    (hl : ∀ (f : JFrame) (acts : List Action), f.method = m → f.locked = none → f.entered = [] → (doReturn e (T.setTop f) acts (some (.int z))).1 = T.setFrames fs) : Steps p.tables e below (T.setTop (mkF m pc Ls (.int z :: rest))) (T.setFrames fs) := by
  have hm' : T.vm.method? m = some meth := X.method'
  have hn : narrow .int (.int z) = .int z := rfl
  show Steps p.tables e below (T.setTop { method := m, pc := pc, locals := Ls, stack := _ :: rest, locked := none }) _
  jvm_step X.here [X.here.top, hx, hd, hm', hret, hn]
  first | (intro acts; rw [hl _ acts rfl rfl rfl]) | rw [hl _ _ rfl rfl rfl]
  exact Steps.refl _
end New
end Jvm.RoadKit
namespace Jvm.Pilot.@@N@@
open Jvm Jvm.ClassFile Sem Op Lib Jvm.Free Jvm.Stand Jvm.LawKit Jvm.RoadKit Bundle Jvm.Pilot.@@N@@.Jvm.D
/-! own text: doubles as whole numbers of 2^-1074 (own_Fin), what a double can hold (own_Rep), and the four operations by bounds -/
def own_Rep (z : Int) : Prop := ∃ (s : Bool) (c : Nat) (q : Int), FP.Core.fits FP.Core.b64 (.fin s c q) ∧ FP.Core.zval FP.Core.b64 (.fin s c q) = z
def own_Fin (a : UInt64) (z : Int) : Prop := FP.Core.DFin a ∧ FP.Core.zval FP.Core.b64 (FP.Core.val64 a) = z
def own_U : Int := ((FP.Core.one64 : Nat) : Int)
theorem own_U_pos : 0 < own_U := Int.natCast_pos.mpr FP.Core.one64_pos
theorem own_U_lit : own_U = 202402253307310618352495346718917307049556649764142118356901358027430339567995346891960383701437124495187077864316811911389808737385793476867013399940738509921517424276566361364466907742093216341239767678472745068562007483424692698618103355649159556340810056512358769552333414615230502532186327508646006263307707741093494784 := by decide +kernel
theorem own_Fin.rep {a : UInt64} {z : Int} (h : own_Fin a z) : own_Rep z := by
  obtain ⟨⟨s, c, q, e⟩, h⟩ := h
  refine ⟨s, c, q, ?_, ?_⟩
  · rw [← e]; exact FP.Core.val64_fits a
  · rw [← e]; exact h
theorem own_Fin.ne {a : UInt64} {z : Int} (h : own_Fin a z) : FP.Core.val64 a ≠ .nan := h.1.ne_nan
theorem own_Fin.nn {a : UInt64} {z : Int} (h : own_Fin a z) : Jvm.Free.Fl.NoNaN64 a := Jvm.Free.Fl.val64_no.mpr h.ne
def own_Val (a : UInt64) (z : Int) : Prop := FP.Core.val64 a ≠ .nan ∧ FP.Core.zval FP.Core.b64 (FP.Core.val64 a) = z
theorem own_Fin.v {a : UInt64} {z : Int} (h : own_Fin a z) : own_Val a z := ⟨h.ne, h.2⟩
theorem own_Val.nn {a : UInt64} {z : Int} (h : own_Val a z) : Jvm.Free.Fl.NoNaN64 a := Jvm.Free.Fl.val64_no.mpr h.1
theorem own_Fin.cast {a : UInt64} {z w : Int} (h : own_Fin a z) (e : z = w) : own_Fin a w := e ▸ h
theorem own_signed_le (s : Bool) (n : Nat) : FP.Core.signed s n ≤ (n : Int) ∧ -(n : Int) ≤ FP.Core.signed s n := by
  cases s <;> simp only [FP.Core.signed, if_true, Bool.false_eq_true, if_false] <;> omega
theorem own_zval_inf (f : FP.Core.Fmt) (s : Bool) : FP.Core.zval f (.inf s) = FP.Core.signed s (f.tails * 2 ^ (f.exps - 2)) := rfl
theorem own_zval_fin (f : FP.Core.Fmt) (s : Bool) (c : Nat) (q : Int) : FP.Core.zval f (.fin s c q) = FP.Core.signed s (FP.Core.inUnits c q f.qmin) := rfl
theorem own_Rep.lt {z : Int} (h : own_Rep z) : z < ((FP.Core.b64.tails * 2 ^ (FP.Core.b64.exps - 2) : Nat) : Int) ∧ -((FP.Core.b64.tails * 2 ^ (FP.Core.b64.exps - 2) : Nat) : Int) < z := by
  obtain ⟨s, c, q, hf, rfl⟩ := h
  have h1 := FP.Core.zmag_lt_top FP.Core.good_b64 hf
  have h2 := own_signed_le s (FP.Core.inUnits c q FP.Core.b64.qmin)
  rw [own_zval_fin]
  generalize FP.Core.inUnits c q FP.Core.b64.qmin = n at *
  generalize FP.Core.b64.tails * 2 ^ (FP.Core.b64.exps - 2) = t at *
  omega
theorem own_fin_of {r : UInt64} {lo hi : Int} (hn : FP.Core.val64 r ≠ .nan) (rl : own_Rep lo) (rh : own_Rep hi) (h1 : lo ≤ FP.Core.zval FP.Core.b64 (FP.Core.val64 r)) (h2 : FP.Core.zval FP.Core.b64 (FP.Core.val64 r) ≤ hi) :
    ∃ z, own_Fin r z ∧ lo ≤ z ∧ z ≤ hi := by
  refine ⟨_, ⟨?_, rfl⟩, h1, h2⟩
  have a := rl.lt
  have b := rh.lt
  cases hv : FP.Core.val64 r with
  | nan => exact absurd hv hn
  | fin s c q => exact ⟨s, c, q, hv⟩
  | inf s =>
    exfalso
    rw [hv, own_zval_inf] at h1 h2
    generalize FP.Core.b64.tails * 2 ^ (FP.Core.b64.exps - 2) = t at *
    cases s <;> simp only [FP.Core.signed, if_true, Bool.false_eq_true, if_false] at h1 h2 <;> omega
theorem own_add {a b : UInt64} {x y lo hi : Int} (ha : own_Fin a x) (hb : own_Fin b y) (rl : own_Rep lo) (rh : own_Rep hi) (h1 : lo ≤ x + y) (h2 : x + y ≤ hi) : ∃ z, own_Fin (FP.dadd a b) z ∧ lo ≤ z ∧ z ≤ hi := by
  obtain ⟨s1, c1, q1, f1, e1⟩ := id rl
  obtain ⟨s2, c2, q2, f2, e2⟩ := id rh
  have ev : FP.Core.val64 (FP.dadd a b) = _ := FP.Core.val64_dadd a b
  refine own_fin_of ((FP.Core.notNaN_iff _).mp (FP.Core.dadd_out ha.1.notNaN hb.1)) rl rh ?_ ?_
  · rw [ev, ← e1]
    exact FP.Core.sum_ge FP.Core.good_b64 ha.1 hb.1 (FP.Core.val64_fits a) (FP.Core.val64_fits b) f1 (fun q => nomatch q) (by rw [e1, ha.2, hb.2]; exact h1)
  · rw [ev, ← e2]
    exact FP.Core.sum_le FP.Core.good_b64 ha.1 hb.1 (FP.Core.val64_fits a) (FP.Core.val64_fits b) f2 (fun q => nomatch q) (by rw [e2, ha.2, hb.2]; exact h2)
theorem own_add_e {a b : UInt64} {x y : Int} (ha : own_Fin a x) (hb : own_Fin b y) (r : own_Rep (x + y)) : own_Fin (FP.dadd a b) (x + y) := by
  obtain ⟨z, h, h1, h2⟩ := own_add ha hb r r (Int.le_refl _) (Int.le_refl _)
  exact h.cast (Int.le_antisymm h2 h1)
theorem own_fin_negate {d : FP.Core.Datum} (h : ∃ s c q, d = .fin s c q) : ∃ s c q, FP.Core.negate d = .fin s c q := by
  obtain ⟨s, c, q, rfl⟩ := h
  exact ⟨!s, c, q, rfl⟩
theorem own_sub {a b : UInt64} {x y lo hi : Int} (ha : own_Fin a x) (hb : own_Fin b y) (rl : own_Rep lo) (rh : own_Rep hi) (h1 : lo ≤ x - y) (h2 : x - y ≤ hi) : ∃ z, own_Fin (FP.dsub a b) z ∧ lo ≤ z ∧ z ≤ hi := by
  obtain ⟨s1, c1, q1, f1, e1⟩ := id rl
  obtain ⟨s2, c2, q2, f2, e2⟩ := id rh
  have ev : FP.Core.val64 (FP.dsub a b) = _ := FP.Core.val64_dsub a b
  refine own_fin_of ((FP.Core.notNaN_iff _).mp (FP.Core.dsub_out ha.1.notNaN hb.1)) rl rh ?_ ?_
  · rw [ev, ← e1]
    exact FP.Core.sum_ge FP.Core.good_b64 ha.1 (own_fin_negate hb.1) (FP.Core.val64_fits a) (FP.Core.negate_fits (FP.Core.val64_fits b)) f1 (fun q => nomatch q) (by rw [e1, ha.2, FP.Core.zval_negate, hb.2]; omega)
  · rw [ev, ← e2]
    exact FP.Core.sum_le FP.Core.good_b64 ha.1 (own_fin_negate hb.1) (FP.Core.val64_fits a) (FP.Core.negate_fits (FP.Core.val64_fits b)) f2 (fun q => nomatch q) (by rw [e2, ha.2, FP.Core.zval_negate, hb.2]; omega)
theorem own_sub_e {a b : UInt64} {x y : Int} (ha : own_Fin a x) (hb : own_Fin b y) (r : own_Rep (x - y)) : own_Fin (FP.dsub a b) (x - y) := by
  obtain ⟨z, h, h1, h2⟩ := own_sub ha hb r r (Int.le_refl _) (Int.le_refl _)
  exact h.cast (Int.le_antisymm h2 h1)
theorem own_qq : (FP.Core.b64.qmin - 2 * FP.Core.b64.qmin).toNat = (-FP.Core.b64.qmin).toNat := by rw [FP.Core.qmin_b64]; rfl
theorem own_mul_ge {a b : UInt64} {x y lo : Int} (ha : own_Fin a x) (hb : own_Fin b y) (rl : own_Rep lo) (h1 : lo * own_U ≤ x * y) : lo ≤ FP.Core.zval FP.Core.b64 (FP.Core.val64 (FP.dmul a b)) := by
  obtain ⟨s1, c1, q1, f1, e1⟩ := id rl
  obtain ⟨s, c, q, ea⟩ := id ha.1
  obtain ⟨t, d, r, eb⟩ := id hb.1
  have fa := FP.Core.val64_fits a
  have fb := FP.Core.val64_fits b
  have za := ha.2
  have zb := hb.2
  have ev : FP.Core.val64 (FP.dmul a b) = _ := FP.Core.val64_dmul a b
  rw [ea] at fa za ev
  rw [eb] at fb zb ev
  obtain ⟨p1, p2, p3⟩ := FP.Core.product_units fa fb
  rw [p1] at ev
  have hq : 2 * FP.Core.b64.qmin ≤ FP.Core.b64.qmin := by rw [FP.Core.qmin_b64]; decide
  have hs : FP.Core.signed (s != t) (FP.Core.inUnits (c * d) (q + r) (2 * FP.Core.b64.qmin)) = x * y := by
    rw [p3, FP.Core.signed_xor, ← za, ← zb]; rfl
  have hu : ((2 ^ (FP.Core.b64.qmin - 2 * FP.Core.b64.qmin).toNat : Nat) : Int) = own_U := by rw [own_qq, FP.Core.pow_qmin64]; rfl
  rw [ev, ← e1]
  exact FP.Core.zval_round_ge FP.Core.good_b64 f1 (fun q => nomatch q) hq p2 (by rw [hs, hu, e1]; exact h1)
theorem own_mul_le {a b : UInt64} {x y hi : Int} (ha : own_Fin a x) (hb : own_Fin b y) (rh : own_Rep hi) (h2 : x * y ≤ hi * own_U) : FP.Core.zval FP.Core.b64 (FP.Core.val64 (FP.dmul a b)) ≤ hi := by
  obtain ⟨s2, c2, q2, f2, e2⟩ := id rh
  obtain ⟨s, c, q, ea⟩ := id ha.1
  obtain ⟨t, d, r, eb⟩ := id hb.1
  have fa := FP.Core.val64_fits a
  have fb := FP.Core.val64_fits b
  have za := ha.2
  have zb := hb.2
  have ev : FP.Core.val64 (FP.dmul a b) = _ := FP.Core.val64_dmul a b
  rw [ea] at fa za ev
  rw [eb] at fb zb ev
  obtain ⟨p1, p2, p3⟩ := FP.Core.product_units fa fb
  rw [p1] at ev
  have hq : 2 * FP.Core.b64.qmin ≤ FP.Core.b64.qmin := by rw [FP.Core.qmin_b64]; decide
  have hs : FP.Core.signed (s != t) (FP.Core.inUnits (c * d) (q + r) (2 * FP.Core.b64.qmin)) = x * y := by
    rw [p3, FP.Core.signed_xor, ← za, ← zb]; rfl
  have hu : ((2 ^ (FP.Core.b64.qmin - 2 * FP.Core.b64.qmin).toNat : Nat) : Int) = own_U := by rw [own_qq, FP.Core.pow_qmin64]; rfl
  rw [ev, ← e2]
  exact FP.Core.zval_round_le FP.Core.good_b64 f2 (fun q => nomatch q) hq p2 (by rw [hs, hu, e2]; exact h2)
theorem own_mul_ne {a b : UInt64} {x y : Int} (ha : own_Fin a x) (hb : own_Fin b y) : FP.Core.val64 (FP.dmul a b) ≠ .nan := (FP.Core.notNaN_iff _).mp (FP.Core.dmul_out ha.1 hb.1)
theorem own_mul {a b : UInt64} {x y lo hi : Int} (ha : own_Fin a x) (hb : own_Fin b y) (rl : own_Rep lo) (rh : own_Rep hi) (h1 : lo * own_U ≤ x * y) (h2 : x * y ≤ hi * own_U) : ∃ z, own_Fin (FP.dmul a b) z ∧ lo ≤ z ∧ z ≤ hi :=
  own_fin_of (own_mul_ne ha hb) rl rh (own_mul_ge ha hb rl h1) (own_mul_le ha hb rh h2)
theorem own_mul_e {a b : UInt64} {x y z : Int} (ha : own_Fin a x) (hb : own_Fin b y) (r : own_Rep z) (e : x * y = z * own_U) : own_Fin (FP.dmul a b) z := by
  obtain ⟨w, h, h1, h2⟩ := own_mul ha hb r r (Int.le_of_eq e.symm) (Int.le_of_eq e)
  exact h.cast (Int.le_antisymm h2 h1)
theorem own_ratio_units {c d : Nat} {q r m : Int} (hq : m ≤ q) (hr : m ≤ r) (hm : m < 0) :
    FP.Core.inUnits c (q - r) (m + m - r) = FP.Core.inUnits c q m * 2 ^ (-m).toNat ∧ ∀ v : Nat, v * 2 ^ (m - (m + m - r)).toNat * d = v * FP.Core.inUnits d r m := by
  constructor
  · unfold FP.Core.inUnits
    rw [show (q - r - (m + m - r)).toNat = (q - m).toNat + (-m).toNat by omega, Nat.pow_add, Nat.mul_assoc]
  · intro v
    unfold FP.Core.inUnits
    rw [show (m - (m + m - r)).toNat = (r - m).toNat by omega, Nat.mul_assoc, Nat.mul_comm d]
theorem own_ratio_le {s s' t : Bool} {c d : Nat} {q r : Int} {V : FP.Core.Datum} (hx : FP.Core.fits FP.Core.b64 (.fin s c q)) (hy : FP.Core.fits FP.Core.b64 (.fin t d r)) (hd : 0 < d) (hV : FP.Core.fits FP.Core.b64 V) (hn : V ≠ .nan)
    (h : FP.Core.inUnits c q FP.Core.b64.qmin * FP.Core.one64 ≤ FP.Core.zmag FP.Core.b64 V * FP.Core.inUnits d r FP.Core.b64.qmin) : FP.Core.zmag FP.Core.b64 (FP.Core.roundRatio FP.Core.b64 s' c d (q - r)) ≤ FP.Core.zmag FP.Core.b64 V := by
  have hm : FP.Core.b64.qmin < 0 := by rw [FP.Core.qmin_b64]; decide
  obtain ⟨u1, u2⟩ := own_ratio_units (c := c) (d := d) hx.2.1 hy.2.1 hm
  have hqx := hx.2.1
  have hqy := hy.2.1
  refine FP.Core.zmag_roundRatio_le FP.Core.good_b64 (e0 := FP.Core.b64.qmin + FP.Core.b64.qmin - r) hd hV hn (by omega) (by omega) ?_
  rw [u1, u2, FP.Core.pow_qmin64]; exact h
theorem own_ratio_ge {s s' t : Bool} {c d : Nat} {q r : Int} {V : FP.Core.Datum} (hx : FP.Core.fits FP.Core.b64 (.fin s c q)) (hy : FP.Core.fits FP.Core.b64 (.fin t d r)) (hd : 0 < d) (hV : FP.Core.fits FP.Core.b64 V)
    (h : FP.Core.zmag FP.Core.b64 V * FP.Core.inUnits d r FP.Core.b64.qmin ≤ FP.Core.inUnits c q FP.Core.b64.qmin * FP.Core.one64) : FP.Core.zmag FP.Core.b64 V ≤ FP.Core.zmag FP.Core.b64 (FP.Core.roundRatio FP.Core.b64 s' c d (q - r)) := by
  have hm : FP.Core.b64.qmin < 0 := by rw [FP.Core.qmin_b64]; decide
  obtain ⟨u1, u2⟩ := own_ratio_units (c := c) (d := d) hx.2.1 hy.2.1 hm
  have hqx := hx.2.1
  have hqy := hy.2.1
  refine FP.Core.zmag_roundRatio_ge FP.Core.good_b64 (e0 := FP.Core.b64.qmin + FP.Core.b64.qmin - r) hd hV (by omega) (by omega) ?_
  rw [u1, u2, FP.Core.pow_qmin64]; exact h
theorem own_quot {a b : UInt64} {y : Int} {s : Bool} {c : Nat} {q : Int} (ea : FP.Core.val64 a = .fin s c q) (hb : own_Fin b y) (hy : 0 < y) :
    ∃ d r, FP.Core.val64 b = .fin false d r ∧ 0 < d ∧ y = ((FP.Core.inUnits d r FP.Core.b64.qmin : Nat) : Int) ∧ FP.Core.val64 (FP.ddiv a b) = FP.Core.roundRatio FP.Core.b64 s c d (q - r) := by
  obtain ⟨t, d, r, eb⟩ := id hb.1
  have zb := hb.2
  rw [eb, own_zval_fin] at zb
  obtain ⟨k1, k2⟩ := FP.Core.signed_pos (s := t) (m := FP.Core.inUnits d r FP.Core.b64.qmin) (by rw [zb]; exact hy)
  have ht : t = false := by
    cases t with
    | false => rfl
    | true =>
      simp only [FP.Core.signed, if_true] at k1; omega
  subst ht
  have hd : 0 < d := by
    rcases Nat.eq_zero_or_pos d with h | h
    · subst h; unfold FP.Core.inUnits at k2; omega
    · exact h
  refine ⟨d, r, eb, hd, by rw [← zb, k1], ?_⟩
  have ev : FP.Core.val64 (FP.ddiv a b) = _ := FP.Core.val64_ddiv a b
  rw [ea, eb] at ev
  rw [ev]
  show (if d = 0 then _ else FP.Core.roundRatio FP.Core.b64 (s != false) c d (q - r)) = _
  rw [if_neg (Nat.pos_iff_ne_zero.mp hd)]
  cases s <;> rfl
theorem own_div_le {a b : UInt64} {x y hi : Int} (ha : own_Fin a x) (hb : own_Fin b y) (hy : 0 < y) (rh : own_Rep hi) (h2 : x * own_U ≤ hi * y) : FP.Core.zval FP.Core.b64 (FP.Core.val64 (FP.ddiv a b)) ≤ hi := by
  obtain ⟨s2, c2, q2, f2, e2⟩ := id rh
  obtain ⟨s, c, q, ea⟩ := id ha.1
  obtain ⟨d, r, eb, hd, ey, ev⟩ := own_quot ea hb hy
  have fa := FP.Core.val64_fits a
  have fb := FP.Core.val64_fits b
  have za := ha.2
  rw [ea] at fa za
  rw [eb] at fb
  have l1 := own_ratio_le (s' := s) fa fb hd f2 (fun q => nomatch q)
  have l2 := own_ratio_ge (s' := s) fa fb hd f2
  have hY : 0 < FP.Core.inUnits d r FP.Core.b64.qmin := by omega
  rw [ev, ← e2]
  unfold FP.Core.zval
  rw [FP.Core.sgn_roundRatio]
  rw [own_zval_fin] at za
  have e2' : FP.Core.signed s2 (FP.Core.zmag FP.Core.b64 (.fin s2 c2 q2)) = hi := e2
  show FP.Core.signed s _ ≤ FP.Core.signed s2 _
  rw [← e2', ← za, ey] at h2
  unfold own_U at h2
  rw [← FP.Core.signed_mul, ← FP.Core.signed_mul] at h2
  generalize FP.Core.zmag FP.Core.b64 (FP.Core.roundRatio FP.Core.b64 s c d (q - r)) = zR at *
  generalize FP.Core.zmag FP.Core.b64 (.fin s2 c2 q2) = v at *
  have hz : v * FP.Core.inUnits d r FP.Core.b64.qmin = 0 → v = 0 := fun h => (Nat.mul_eq_zero.mp h).resolve_right (by omega)
  generalize v * FP.Core.inUnits d r FP.Core.b64.qmin = B at *
  generalize FP.Core.inUnits c q FP.Core.b64.qmin * FP.Core.one64 = A at *
  cases s <;> cases s2 <;> simp only [FP.Core.signed, if_true, Bool.false_eq_true, if_false] at h2 ⊢
  · have := l1 (by omega); omega
  · have := l1 (by omega); have := hz (by omega); omega
  · omega
  · have := l2 (by omega); omega
theorem own_neg {a : UInt64} {x : Int} (ha : own_Fin a x) : own_Fin (FP.dneg a) (-x) := by
  have e : FP.Core.val64 (FP.dneg a) = _ := FP.val64_dneg a
  refine ⟨?_, ?_⟩
  · show ∃ s c q, _ = _
    rw [e]; exact own_fin_negate ha.1
  · rw [e, FP.Core.zval_negate, ha.2]
theorem own_div_ge {a b : UInt64} {x y lo : Int} (ha : own_Fin a x) (hb : own_Fin b y) (hy : 0 < y) (rl : own_Rep lo) (h1 : lo * y ≤ x * own_U) : lo ≤ FP.Core.zval FP.Core.b64 (FP.Core.val64 (FP.ddiv a b)) := by
  obtain ⟨s2, c2, q2, f2, e2⟩ := id rl
  obtain ⟨s, c, q, ea⟩ := id ha.1
  obtain ⟨d, r, eb, hd, ey, ev⟩ := own_quot ea hb hy
  have fa := FP.Core.val64_fits a
  have fb := FP.Core.val64_fits b
  have za := ha.2
  rw [ea] at fa za
  rw [eb] at fb
  have l1 := own_ratio_le (s' := s) fa fb hd f2 (fun q => nomatch q)
  have l2 := own_ratio_ge (s' := s) fa fb hd f2
  have hY : 0 < FP.Core.inUnits d r FP.Core.b64.qmin := by omega
  rw [ev, ← e2]
  unfold FP.Core.zval
  rw [FP.Core.sgn_roundRatio]
  rw [own_zval_fin] at za
  have e2' : FP.Core.signed s2 (FP.Core.zmag FP.Core.b64 (.fin s2 c2 q2)) = lo := e2
  show FP.Core.signed s2 _ ≤ FP.Core.signed s _
  rw [← e2', ← za, ey] at h1
  unfold own_U at h1
  rw [← FP.Core.signed_mul, ← FP.Core.signed_mul] at h1
  generalize FP.Core.zmag FP.Core.b64 (FP.Core.roundRatio FP.Core.b64 s c d (q - r)) = zR at *
  generalize FP.Core.zmag FP.Core.b64 (.fin s2 c2 q2) = v at *
  have hz : v * FP.Core.inUnits d r FP.Core.b64.qmin = 0 → v = 0 := fun h => (Nat.mul_eq_zero.mp h).resolve_right (by omega)
  generalize v * FP.Core.inUnits d r FP.Core.b64.qmin = B at *
  generalize FP.Core.inUnits c q FP.Core.b64.qmin * FP.Core.one64 = A at *
  cases s <;> cases s2 <;> simp only [FP.Core.signed, if_true, Bool.false_eq_true, if_false] at h1 ⊢
  · have := l2 (by omega); omega
  · omega
  · have := l1 (by omega); have := hz (by omega); omega
  · have := l1 (by omega); omega
theorem own_div {a b : UInt64} {x y lo hi : Int} (ha : own_Fin a x) (hb : own_Fin b y) (hy : 0 < y) (rl : own_Rep lo) (rh : own_Rep hi) (h1 : lo * y ≤ x * own_U) (h2 : x * own_U ≤ hi * y) : ∃ z, own_Fin (FP.ddiv a b) z ∧ lo ≤ z ∧ z ≤ hi := by
  refine own_fin_of ?_ rl rh (own_div_ge ha hb hy rl h1) (own_div_le ha hb hy rh h2)
  obtain ⟨s, c, q, ea⟩ := id ha.1
  obtain ⟨d, r, eb, hd, ey, ev⟩ := own_quot ea hb hy
  rw [ev]; exact FP.Core.roundRatio_ne_nan _ _ _ _ _
theorem own_div_e {a b : UInt64} {x y z : Int} (ha : own_Fin a x) (hb : own_Fin b y) (hy : 0 < y) (r : own_Rep z) (e : x * own_U = z * y) : own_Fin (FP.ddiv a b) z := by
  obtain ⟨w, h, h1, h2⟩ := own_div ha hb hy r r (Int.le_of_eq e.symm) (Int.le_of_eq e)
  exact h.cast (Int.le_antisymm h2 h1)
/-- quotients of one value are one double -/
theorem own_div_same {a b a' b' : UInt64} {x y x' y' : Int} (ha : own_Fin a x) (hb : own_Fin b y) (ha' : own_Fin a' x') (hb' : own_Fin b' y') (hx : 0 < x) (hx' : 0 < x') (hy : 0 < y) (hy' : 0 < y') (e : x * y' = x' * y) : FP.Core.val64 (FP.ddiv a b) = FP.Core.val64 (FP.ddiv a' b') := by
  obtain ⟨s, c, q, ea⟩ := id ha.1
  obtain ⟨d, r, eb, hd, ey, ev⟩ := own_quot ea hb hy
  obtain ⟨s', c', q', ea'⟩ := id ha'.1
  obtain ⟨d', r', eb', hd', ey', ev'⟩ := own_quot ea' hb' hy'
  have za := ha.2
  have za' := ha'.2
  have fa := FP.Core.val64_fits a
  have fb := FP.Core.val64_fits b
  have fa' := FP.Core.val64_fits a'
  have fb' := FP.Core.val64_fits b'
  rw [ea] at za fa
  rw [ea'] at za' fa'
  rw [eb] at fb
  rw [eb'] at fb'
  rw [own_zval_fin] at za za'
  obtain ⟨k1, k2⟩ := FP.Core.signed_pos (s := s) (m := FP.Core.inUnits c q FP.Core.b64.qmin) (by rw [za]; exact hx)
  obtain ⟨k1', k2'⟩ := FP.Core.signed_pos (s := s') (m := FP.Core.inUnits c' q' FP.Core.b64.qmin) (by rw [za']; exact hx')
  have hs : s = false := by
    cases s with
    | false => rfl
    | true => simp only [FP.Core.signed, if_true] at k1; omega
  have hs' : s' = false := by
    cases s' with
    | false => rfl
    | true => simp only [FP.Core.signed, if_true] at k1'; omega
  subst hs hs'
  rw [ev, ev']
  have E : FP.Core.inUnits c q FP.Core.b64.qmin * FP.Core.inUnits d' r' FP.Core.b64.qmin = FP.Core.inUnits c' q' FP.Core.b64.qmin * FP.Core.inUnits d r FP.Core.b64.qmin := by
    have h : ((FP.Core.inUnits c q FP.Core.b64.qmin * FP.Core.inUnits d' r' FP.Core.b64.qmin : Nat) : Int) = ((FP.Core.inUnits c' q' FP.Core.b64.qmin * FP.Core.inUnits d r FP.Core.b64.qmin : Nat) : Int) := by
      rw [Int.natCast_mul, Int.natCast_mul, ← k1, ← k1', za, za', ← ey, ← ey']; exact e
    exact Int.ofNat_inj.mp h
  have g1 := fa.2.1
  have g2 := fb.2.1
  have g3 := fa'.2.1
  have g4 := fb'.2.1
  generalize FP.Core.b64.qmin = m at *
  refine FP.Core.roundRatio_congr hd hd' ?_
  unfold FP.Core.inUnits at E
  generalize ha1 : (q - m).toNat = A1 at *
  generalize ha2 : (r - m).toNat = A2 at *
  generalize ha3 : (q' - m).toNat = A3 at *
  generalize ha4 : (r' - m).toNat = A4 at *
  have E' : c * d' * 2 ^ (A1 + A4) = c' * d * 2 ^ (A3 + A2) := by
    rw [Nat.pow_add, Nat.pow_add]
    calc c * d' * (2 ^ A1 * 2 ^ A4) = c * 2 ^ A1 * (d' * 2 ^ A4) := by simp only [Nat.mul_assoc, Nat.mul_left_comm, Nat.mul_comm]
      _ = c' * 2 ^ A3 * (d * 2 ^ A2) := E
      _ = c' * d * (2 ^ A3 * 2 ^ A2) := by simp only [Nat.mul_assoc, Nat.mul_left_comm, Nat.mul_comm]
  rcases Nat.le_total (A3 + A2) (A1 + A4) with h | h
  · rw [show (q - r - (q' - r')).toNat = (A1 + A4) - (A3 + A2) by omega, show (q' - r' - (q - r)).toNat = 0 by omega]
    have : 2 ^ (A1 + A4) = 2 ^ ((A1 + A4) - (A3 + A2)) * 2 ^ (A3 + A2) := by rw [← Nat.pow_add]; congr 1; omega
    rw [this, ← Nat.mul_assoc] at E'
    rw [Nat.pow_zero, Nat.mul_one]
    exact Nat.eq_of_mul_eq_mul_right (Nat.two_pow_pos _) E'
  · rw [show (q - r - (q' - r')).toNat = 0 by omega, show (q' - r' - (q - r)).toNat = (A3 + A2) - (A1 + A4) by omega]
    have : 2 ^ (A3 + A2) = 2 ^ ((A3 + A2) - (A1 + A4)) * 2 ^ (A1 + A4) := by rw [← Nat.pow_add]; congr 1; omega
    rw [this, ← Nat.mul_assoc] at E'
    rw [Nat.pow_zero, Nat.mul_one]
    exact Nat.eq_of_mul_eq_mul_right (Nat.two_pow_pos _) E'
theorem own_cmp {a b : UInt64} {x y : Int} (ha : own_Val a x) (hb : own_Val b y) (o : CmpOp) : cmpValue (FP.dcmp a b) o = if x < y then -1 else if x = y then 0 else 1 := by
  rw [show FP.dcmp a b = _ from FP.Core.dcmp_zval ha.1 hb.1, ha.2, hb.2, FP.Core.compare_ite]
  by_cases h1 : x < y
  · rw [if_pos h1, if_pos h1]; rfl
  · rw [if_neg h1, if_neg h1]
    by_cases h2 : x = y
    · rw [if_pos h2, if_pos h2]; rfl
    · rw [if_neg h2, if_neg h2]; rfl
theorem own_if {a b : UInt64} {x y : Int} (ha : own_Val a x) (hb : own_Val b y) (o : CmpOp) :
    (ifCond.holds .eq (cmpValue (FP.dcmp a b) o) = decide (x = y)) ∧ (ifCond.holds .ne (cmpValue (FP.dcmp a b) o) = decide (x ≠ y)) ∧ (ifCond.holds .lt (cmpValue (FP.dcmp a b) o) = decide (x < y)) ∧
    (ifCond.holds .ge (cmpValue (FP.dcmp a b) o) = decide (y ≤ x)) ∧ (ifCond.holds .gt (cmpValue (FP.dcmp a b) o) = decide (y < x)) ∧ (ifCond.holds .le (cmpValue (FP.dcmp a b) o) = decide (x ≤ y)) := by
  rw [own_cmp ha hb o]
  by_cases h1 : x < y
  · rw [if_pos h1]
    rw [decide_eq_false (show ¬ x = y by omega), decide_eq_true (show x ≠ y by omega), decide_eq_true h1, decide_eq_false (show ¬ y ≤ x by omega), decide_eq_false (show ¬ y < x by omega), decide_eq_true (show x ≤ y by omega)]
    decide
  · rw [if_neg h1]
    by_cases h2 : x = y
    · rw [if_pos h2]
      rw [decide_eq_true h2, decide_eq_false (show ¬ x ≠ y by omega), decide_eq_false h1, decide_eq_true (show y ≤ x by omega), decide_eq_false (show ¬ y < x by omega), decide_eq_true (show x ≤ y by omega)]
      decide
    · rw [if_neg h2]
      rw [decide_eq_false h2, decide_eq_true (show x ≠ y by omega), decide_eq_false h1, decide_eq_true (show y ≤ x by omega), decide_eq_true (show y < x by omega), decide_eq_false (show ¬ x ≤ y by omega)]
      decide
theorem own_of_dint {i : Int} {a : UInt64} (h : FP.Core.DInt i a) : own_Fin a (i * own_U) := by
  refine ⟨?_, FP.Core.DInt_zval h⟩
  have h' : FP.Core.Whole i (FP.Core.val64 a) := h
  cases hv : FP.Core.val64 a with
  | nan => rw [hv] at h'; exact h'.elim
  | inf s => rw [hv] at h'; exact h'.elim
  | fin s c q => exact ⟨s, c, q, hv⟩
theorem own_i2d (n : Int32) : own_Fin (FP.i2d n) (n.toInt * own_U) := own_of_dint (FP.Core.i2d_int n)
theorem own_l2d {n : Int64} (h : n.toInt.natAbs ≤ 9007199254740992) : own_Fin (FP.l2d n) (n.toInt * own_U) := own_of_dint (FP.Core.l2d_int h)
theorem own_signed_self (n : Int) : FP.Core.signed (decide (n < 0)) n.natAbs = n := by
  by_cases h : n < 0
  · rw [decide_eq_true h]; simp only [FP.Core.signed, if_true]; omega
  · rw [decide_eq_false h]; simp only [FP.Core.signed, Bool.false_eq_true, if_false]; omega
theorem own_rep (n : Int) (k : Nat) {P : Int} (hP : ((2 ^ k : Nat) : Int) = P) (hn : n.natAbs < 9007199254740992) (hk : k ≤ 2045) : own_Rep (n * P) := by
  have hmax : FP.Core.b64.qmax = 971 := by decide
  obtain ⟨c', q', h1, h2⟩ := FP.Core.round_exact FP.Core.good_b64 (decide (n < 0)) (c := n.natAbs) (q := (k : Int) - 1074) (show n.natAbs < 2 ^ 53 by omega) (by rw [FP.Core.qmin_b64]; omega) (by rw [hmax]; omega)
  refine ⟨decide (n < 0), c', q', ?_, ?_⟩
  · rw [← h1]; exact FP.Core.round_fits FP.Core.good_b64 _
  · rw [own_zval_fin, h2]
    unfold FP.Core.inUnits
    rw [show ((k : Int) - 1074 - FP.Core.b64.qmin).toNat = k by rw [FP.Core.qmin_b64]; omega, FP.Core.signed_mul, hP, own_signed_self]
theorem own_rep_U (n : Int) (hn : n.natAbs < 9007199254740992) : own_Rep (n * own_U) := own_rep n 1074 rfl hn (by decide)
/-! own text: ints, longs and branches in plain integers -/
theorem own_h_eq (x : Int32) : (ifCond.holds .eq x = true) ↔ x.toInt = 0 := by
  simp only [ifCond.holds, beq_iff_eq, ← Int32.toInt_inj, Int32.toInt_zero]
theorem own_h_ne (x : Int32) : (ifCond.holds .ne x = true) ↔ x.toInt ≠ 0 := by
  simp only [ifCond.holds, bne_iff_ne, ne_eq, ← Int32.toInt_inj, Int32.toInt_zero]
theorem own_h_lt (x : Int32) : (ifCond.holds .lt x = true) ↔ x.toInt < 0 := by
  simp only [ifCond.holds, decide_eq_true_eq, Int32.lt_iff_toInt_lt, Int32.toInt_zero]
theorem own_h_ge (x : Int32) : (ifCond.holds .ge x = true) ↔ 0 ≤ x.toInt := by
  simp only [ifCond.holds, decide_eq_true_eq, ge_iff_le, Int32.le_iff_toInt_le, Int32.toInt_zero]
theorem own_h_gt (x : Int32) : (ifCond.holds .gt x = true) ↔ 0 < x.toInt := by
  simp only [ifCond.holds, decide_eq_true_eq, gt_iff_lt, Int32.lt_iff_toInt_lt, Int32.toInt_zero]
theorem own_h_le (x : Int32) : (ifCond.holds .le x = true) ↔ x.toInt ≤ 0 := by
  simp only [ifCond.holds, decide_eq_true_eq, Int32.le_iff_toInt_le, Int32.toInt_zero]
theorem own_c_eq (x y : Int32) : (if_icmp.holds .eq x y = true) ↔ x.toInt = y.toInt := by
  simp only [if_icmp.holds, beq_iff_eq, ← Int32.toInt_inj]
theorem own_c_ne (x y : Int32) : (if_icmp.holds .ne x y = true) ↔ x.toInt ≠ y.toInt := by
  simp only [if_icmp.holds, bne_iff_ne, ne_eq, ← Int32.toInt_inj]
theorem own_c_lt (x y : Int32) : (if_icmp.holds .lt x y = true) ↔ x.toInt < y.toInt := by
  simp only [if_icmp.holds, decide_eq_true_eq, Int32.lt_iff_toInt_lt]
theorem own_c_ge (x y : Int32) : (if_icmp.holds .ge x y = true) ↔ y.toInt ≤ x.toInt := by
  simp only [if_icmp.holds, decide_eq_true_eq, ge_iff_le, Int32.le_iff_toInt_le]
theorem own_c_gt (x y : Int32) : (if_icmp.holds .gt x y = true) ↔ y.toInt < x.toInt := by
  simp only [if_icmp.holds, decide_eq_true_eq, gt_iff_lt, Int32.lt_iff_toInt_lt]
theorem own_c_le (x y : Int32) : (if_icmp.holds .le x y = true) ↔ x.toInt ≤ y.toInt := by
  simp only [if_icmp.holds, decide_eq_true_eq, Int32.le_iff_toInt_le]
theorem own_L (x y : Int64) : (XT.cmpL x y).toInt = if y.toInt < x.toInt then 1 else if x.toInt = y.toInt then 0 else -1 := by
  unfold XT.cmpL
  simp only [Int64.lt_iff_toInt_lt, ← Int64.toInt_inj]
  split
  · rfl
  · split <;> rfl
theorem own_f_of {b : Bool} {p : Prop} (h : (b = true) ↔ p) (hp : ¬ p) : b = false := Bool.eq_false_iff.mpr fun q => hp (h.mp q)
theorem own_irem (x y : Int32) : (x - x / y * y).toInt = x.toInt.tmod y.toInt := by
  have a := (x % y).toInt_lt; have b := (x % y).le_toInt
  rw [Int32.toInt_mod] at a b
  rw [Int32.toInt_sub, Int32.toInt_mul, Int32.toInt_div, Int.bmod_mul_bmod, Int.sub_bmod_bmod, Int.mul_comm, ← Int.tmod_def]
  exact Jvm.Kit.bmod32 b a
theorem own_irem_nn {x y : Int32} (hx : 0 ≤ x.toInt) : (x - x / y * y).toInt = x.toInt % y.toInt := by rw [own_irem, Int.tmod_eq_emod_of_nonneg hx]
theorem own_ne0 {y : Int32} (h : y.toInt ≠ 0) : y ≠ 0 := fun q => h (by rw [q]; rfl)
theorem own_ne0L {y : Int64} (h : y.toInt ≠ 0) : y ≠ 0 := fun q => h (by rw [q]; rfl)
theorem own_mask31 (x : Int32) : 0 ≤ (x &&& 2147483647).toInt ∧ (x &&& 2147483647).toInt < 2147483648 := by
  rw [Jvm.Kit.i32_mask x 2147483647 (k := 31) (by decide) (by decide)]
  omega

def fi_res (d1 : UInt64) : Int32 := (if (ifCond.holds .gt (cmpValue (FP.dcmp (d1 &&& 0x7fffffffffffffff) (9218868437227405311 : UInt64)) .g)) = true then (0 : Int32) else (1 : Int32))





def lw_r (p1 : Int32) (p2 : Int32) (p3 : Int32) : Int32 := ((p1 &&& (1048575 : Int32)) + (1 : Int32))
def lw_d (p1 : Int32) (p2 : Int32) (p3 : Int32) : Int32 := ((p2 &&& (1048575 : Int32)) + (1 : Int32))
def lw_sc0 (p1 : Int32) (p2 : Int32) (p3 : Int32) : UInt64 := (if (ifCond.holds .eq (p3 &&& (1 : Int32))) = true then (4607182418800017408 : UInt64) else (4652218415073722368 : UInt64))
def lw_scale (p1 : Int32) (p2 : Int32) (p3 : Int32) : UInt64 := (lw_sc0 p1 p2 p3)
def lw_rate (p1 : Int32) (p2 : Int32) (p3 : Int32) : UInt64 := (FP.ddiv (FP.i2d (lw_r p1 p2 p3)) (lw_scale p1 p2 p3))
def lw_delta (p1 : Int32) (p2 : Int32) (p3 : Int32) : UInt64 := (FP.ddiv (FP.i2d (lw_d p1 p2 p3)) (lw_scale p1 p2 p3))
def lw_lost (p1 : Int32) (p2 : Int32) (p3 : Int32) : UInt64 := (FP.ddiv (lw_delta p1 p2 p3) (FP.dadd (lw_rate p1 p2 p3) (lw_delta p1 p2 p3)))
def lw_gain (p1 : Int32) (p2 : Int32) (p3 : Int32) : UInt64 := (FP.ddiv (lw_delta p1 p2 p3) (FP.dadd (lw_delta p1 p2 p3) (lw_rate p1 p2 p3)))
def lw_ref (p1 : Int32) (p2 : Int32) (p3 : Int32) : UInt64 := (FP.ddiv (FP.i2d (lw_d p1 p2 p3)) (FP.i2d ((lw_r p1 p2 p3) + (lw_d p1 p2 p3))))
theorem own_zero : own_Fin (0 : UInt64) (0) := ⟨(FP.Core.fin_bits _).mpr (by decide), by decide +kernel⟩
theorem own_one : own_Fin (4607182418800017408 : UInt64) (202402253307310618352495346718917307049556649764142118356901358027430339567995346891960383701437124495187077864316811911389808737385793476867013399940738509921517424276566361364466907742093216341239767678472745068562007483424692698618103355649159556340810056512358769552333414615230502532186327508646006263307707741093494784) := ⟨(FP.Core.fin_bits _).mpr (by decide), by decide +kernel⟩
theorem own_k1 : own_Fin (4652218415073722368 : UInt64) (207259907386686073192955235040171322418746009358481529197466990620088667717627235217367432910271615483071567733060415397263164147083052520311821721539316234159633842459203954037214113527903453533429522102756090950207495663026885323384937836184739385692989497868655380021589416565996034592958799368853510413627092726879738658816) := ⟨(FP.Core.fin_bits _).mpr (by decide), by decide +kernel⟩

/-- what the two constructors ask, of a double above nought -/
theorem own_ok {a : UInt64} {z : Int} (h : own_Fin a z) (hz : 0 < z) : Jvm.Free.Fl.NoNaN64 a ∧ ifCond.holds .eq (fi_res a) = false ∧ ifCond.holds .gt (cmpValue (FP.dcmp a (0 : UInt64)) .l) = true := by
  refine ⟨h.nn, ?_, ?_⟩
  · have hm := (FP.Core.le_max (a := a) h.1.notNaN).mpr h.1
    have q : ifCond.holds .gt (cmpValue (FP.dcmp (a &&& 0x7fffffffffffffff) (9218868437227405311 : UInt64)) .g) = false := by
      rcases hm with hm | hm
      · rw [show FP.dcmp (a &&& 0x7fffffffffffffff) (9218868437227405311 : UInt64) = some .lt from hm]; decide
      · rw [show FP.dcmp (a &&& 0x7fffffffffffffff) (9218868437227405311 : UInt64) = some .eq from hm]; decide
    unfold fi_res
    rw [if_neg (by rw [q]; decide)]; decide
  · rw [(own_if h.v own_zero.v .l).2.2.2.2.1]; exact decide_eq_true hz
theorem own_eqv {a b : UInt64} {z : Int} (h : own_Fin a z) (e : FP.Core.val64 a = FP.Core.val64 b) : own_Val b z := ⟨e ▸ h.ne, e ▸ h.2⟩

theorem own_mask20 (x : Int32) : 1 ≤ ((x &&& 1048575) + (1 : Int32)).toInt ∧ ((x &&& 1048575) + (1 : Int32)).toInt ≤ 1048576 := by
  have h := Jvm.Kit.i32_mask x 1048575 (k := 20) (by decide) (by decide)
  have e : ((x &&& 1048575) + (1 : Int32)).toInt = (x &&& 1048575).toInt + 1 := Jvm.Kit.i32_add (p := x &&& 1048575) (q := 1) (by rw [h]; show _ ≤ _ + (1 : Int); omega) (by rw [h]; show _ + (1 : Int) < _; omega)
  rw [e, h]; omega
theorem own_rb (p1 p2 p3 : Int32) : 1 ≤ (lw_r p1 p2 p3).toInt ∧ (lw_r p1 p2 p3).toInt ≤ 1048576 := own_mask20 p1
theorem own_db (p1 p2 p3 : Int32) : 1 ≤ (lw_d p1 p2 p3).toInt ∧ (lw_d p1 p2 p3).toInt ≤ 1048576 := own_mask20 p2
def own_K (p1 p2 p3 : Int32) : Int := if ifCond.holds .eq (p3 &&& (1 : Int32)) = true then 202402253307310618352495346718917307049556649764142118356901358027430339567995346891960383701437124495187077864316811911389808737385793476867013399940738509921517424276566361364466907742093216341239767678472745068562007483424692698618103355649159556340810056512358769552333414615230502532186327508646006263307707741093494784 else 197658450495420525734858737030192682665582665785295037457911482448662440984370455949180062208434691889831130726871886632216610095103313942252942773379627451095231859645084337269987214591887906583241960623508540106017585433031926463494241558251132379239072320812850360890950600210186037629088210457662115491511433340911616
theorem own_Kc (p1 p2 p3 : Int32) : (own_K p1 p2 p3 = 202402253307310618352495346718917307049556649764142118356901358027430339567995346891960383701437124495187077864316811911389808737385793476867013399940738509921517424276566361364466907742093216341239767678472745068562007483424692698618103355649159556340810056512358769552333414615230502532186327508646006263307707741093494784 ∧ lw_scale p1 p2 p3 = 4607182418800017408) ∨ (own_K p1 p2 p3 = 197658450495420525734858737030192682665582665785295037457911482448662440984370455949180062208434691889831130726871886632216610095103313942252942773379627451095231859645084337269987214591887906583241960623508540106017585433031926463494241558251132379239072320812850360890950600210186037629088210457662115491511433340911616 ∧ lw_scale p1 p2 p3 = 4652218415073722368) := by
  show (own_K p1 p2 p3 = _ ∧ lw_sc0 p1 p2 p3 = _) ∨ (own_K p1 p2 p3 = _ ∧ lw_sc0 p1 p2 p3 = _)
  unfold own_K lw_sc0
  split
  · exact Or.inl ⟨rfl, rfl⟩
  · exact Or.inr ⟨rfl, rfl⟩
theorem own_Kp (p1 p2 p3 : Int32) : 0 < own_K p1 p2 p3 := by rcases own_Kc p1 p2 p3 with ⟨e, -⟩ | ⟨e, -⟩ <;> rw [e] <;> decide +kernel
theorem own_Kr (p1 p2 p3 : Int32) (n : Int) (h : n.natAbs < 9007199254740992) : own_Rep (n * own_K p1 p2 p3) := by
  rcases own_Kc p1 p2 p3 with ⟨e, -⟩ | ⟨e, -⟩ <;> rw [e]
  · exact own_rep n 1074 (by decide +kernel) h (by decide)
  · exact own_rep n 1064 (by decide +kernel) h (by decide)
theorem own_q (n : Int32) (p1 p2 p3 : Int32) (h : 1 ≤ n.toInt ∧ n.toInt ≤ 1048576) : own_Fin (FP.ddiv (FP.i2d n) (lw_scale p1 p2 p3)) (n.toInt * own_K p1 p2 p3) := by
  have rr := own_Kr p1 p2 p3 n.toInt (by omega)
  rcases own_Kc p1 p2 p3 with ⟨e, es⟩ | ⟨e, es⟩
  · rw [es]; refine own_div_e (own_i2d n) own_one (by omega) rr ?_
    rw [own_U_lit, e] <;> omega
  · rw [es]; refine own_div_e (own_i2d n) own_k1 (by omega) rr ?_
    rw [own_U_lit, e] <;> omega
theorem own_rate (p1 p2 p3 : Int32) : own_Fin (lw_rate p1 p2 p3) ((lw_r p1 p2 p3).toInt * own_K p1 p2 p3) ∧ 0 < (lw_r p1 p2 p3).toInt * own_K p1 p2 p3 := ⟨own_q _ p1 p2 p3 (own_rb p1 p2 p3), Int.mul_pos (by have := own_rb p1 p2 p3; omega) (own_Kp p1 p2 p3)⟩
theorem own_delta (p1 p2 p3 : Int32) : own_Fin (lw_delta p1 p2 p3) ((lw_d p1 p2 p3).toInt * own_K p1 p2 p3) ∧ 0 < (lw_d p1 p2 p3).toInt * own_K p1 p2 p3 := ⟨own_q _ p1 p2 p3 (own_db p1 p2 p3), Int.mul_pos (by have := own_db p1 p2 p3; omega) (own_Kp p1 p2 p3)⟩
theorem own_sum (p1 p2 p3 : Int32) : own_Fin (FP.dadd (lw_rate p1 p2 p3) (lw_delta p1 p2 p3)) (((lw_r p1 p2 p3).toInt + (lw_d p1 p2 p3).toInt) * own_K p1 p2 p3) := by
  have h1 := own_rb p1 p2 p3
  have h2 := own_db p1 p2 p3
  have e : (lw_r p1 p2 p3).toInt * own_K p1 p2 p3 + (lw_d p1 p2 p3).toInt * own_K p1 p2 p3 = ((lw_r p1 p2 p3).toInt + (lw_d p1 p2 p3).toInt) * own_K p1 p2 p3 := (Int.add_mul _ _ _).symm
  exact (own_add_e (own_rate p1 p2 p3).1 (own_delta p1 p2 p3).1 (by rw [e]; exact own_Kr p1 p2 p3 _ (by omega))).cast e
theorem own_sum2 (p1 p2 p3 : Int32) : own_Fin (FP.dadd (lw_delta p1 p2 p3) (lw_rate p1 p2 p3)) (((lw_r p1 p2 p3).toInt + (lw_d p1 p2 p3).toInt) * own_K p1 p2 p3) := by
  rw [show FP.dadd (lw_delta p1 p2 p3) (lw_rate p1 p2 p3) = FP.dadd (lw_rate p1 p2 p3) (lw_delta p1 p2 p3) from FP.Core.dadd_comm _ _]
  exact own_sum p1 p2 p3
theorem own_sp (p1 p2 p3 : Int32) : 0 < ((lw_r p1 p2 p3).toInt + (lw_d p1 p2 p3).toInt) * own_K p1 p2 p3 := Int.mul_pos (by have := own_rb p1 p2 p3; have := own_db p1 p2 p3; omega) (own_Kp p1 p2 p3)
theorem own_z (p1 p2 p3 : Int32) : ∃ z, own_Fin (FP.ddiv (lw_delta p1 p2 p3) (FP.dadd (lw_rate p1 p2 p3) (lw_delta p1 p2 p3))) z ∧ 12064114410120881697684249086315471354100504503497011563593230129923244688987454586741947156276531487416450850028801674329627080999958126358211839195533902044386710183415792069701368078118158360793576698212191168580174892152827542937880954483101341506291035205862448784848059094859987648259778470316291228729945882624 ≤ z ∧ z ≤ 202402241243196208231613649034668220734085295663637614859889794434200209644750657904505796959489968218655590447865961882588134407758712476908887041728899314387615379889856177948674838040725138223081406884896046856370838903249800545790560417768205073239468550221323563689884629767171407672198679248867535947016479011147612160 := by
  have h1 := own_rb p1 p2 p3
  have h2 := own_db p1 p2 p3
  have rl := own_rep 1 1050 (P := 12064114410120881697684249086315471354100504503497011563593230129923244688987454586741947156276531487416450850028801674329627080999958126358211839195533902044386710183415792069701368078118158360793576698212191168580174892152827542937880954483101341506291035205862448784848059094859987648259778470316291228729945882624) (by decide +kernel) (by decide) (by decide)
  have rh := own_rep 16777215 1050 (P := 12064114410120881697684249086315471354100504503497011563593230129923244688987454586741947156276531487416450850028801674329627080999958126358211839195533902044386710183415792069701368078118158360793576698212191168580174892152827542937880954483101341506291035205862448784848059094859987648259778470316291228729945882624) (by decide +kernel) (by decide) (by decide)
  obtain ⟨z, hz, l, u⟩ := own_div (own_delta p1 p2 p3).1 (own_sum p1 p2 p3) (own_sp p1 p2 p3) rl rh
    (by rcases own_Kc p1 p2 p3 with ⟨e, -⟩ | ⟨e, -⟩ <;> rw [own_U_lit, e] <;> omega)
    (by rcases own_Kc p1 p2 p3 with ⟨e, -⟩ | ⟨e, -⟩ <;> rw [own_U_lit, e] <;> omega)
  exact ⟨z, hz, by omega, by omega⟩
theorem own_lost (p1 p2 p3 : Int32) : Jvm.Free.Fl.NoNaN64 (FP.ddiv (lw_delta p1 p2 p3) (FP.dadd (lw_rate p1 p2 p3) (lw_delta p1 p2 p3))) ∧ True := by
  obtain ⟨z, hz, -⟩ := own_z p1 p2 p3; exact ⟨hz.nn, trivial⟩
theorem own_gain (p1 p2 p3 : Int32) : Jvm.Free.Fl.NoNaN64 (FP.ddiv (lw_delta p1 p2 p3) (FP.dadd (lw_delta p1 p2 p3) (lw_rate p1 p2 p3))) ∧ FP.ddiv (lw_delta p1 p2 p3) (FP.dadd (lw_delta p1 p2 p3) (lw_rate p1 p2 p3)) = FP.ddiv (lw_delta p1 p2 p3) (FP.dadd (lw_rate p1 p2 p3) (lw_delta p1 p2 p3)) := by
  have e : FP.ddiv (lw_delta p1 p2 p3) (FP.dadd (lw_delta p1 p2 p3) (lw_rate p1 p2 p3)) = FP.ddiv (lw_delta p1 p2 p3) (FP.dadd (lw_rate p1 p2 p3) (lw_delta p1 p2 p3)) := by
    rw [show FP.dadd (lw_delta p1 p2 p3) (lw_rate p1 p2 p3) = FP.dadd (lw_rate p1 p2 p3) (lw_delta p1 p2 p3) from FP.Core.dadd_comm _ _]
  exact ⟨e ▸ (own_lost p1 p2 p3).1, e⟩
theorem own_rd (p1 p2 p3 : Int32) : (lw_r p1 p2 p3 + lw_d p1 p2 p3).toInt = (lw_r p1 p2 p3).toInt + (lw_d p1 p2 p3).toInt := by
  have h1 := own_rb p1 p2 p3
  have h2 := own_db p1 p2 p3
  exact Jvm.Kit.i32_add (by omega) (by omega)
theorem own_rv (p1 p2 p3 : Int32) : FP.Core.val64 (FP.ddiv (lw_delta p1 p2 p3) (FP.dadd (lw_rate p1 p2 p3) (lw_delta p1 p2 p3))) = FP.Core.val64 (FP.ddiv (FP.i2d (lw_d p1 p2 p3)) (FP.i2d (lw_r p1 p2 p3 + lw_d p1 p2 p3))) := by
  have h1 := own_rb p1 p2 p3
  have h2 := own_db p1 p2 p3
  have hU := own_U_pos
  have hs := own_i2d (lw_r p1 p2 p3 + lw_d p1 p2 p3)
  rw [own_rd] at hs
  refine own_div_same (own_delta p1 p2 p3).1 (own_sum p1 p2 p3) (own_i2d (lw_d p1 p2 p3)) hs (own_delta p1 p2 p3).2 (Int.mul_pos (by omega) hU) (own_sp p1 p2 p3) (Int.mul_pos (by omega) hU) ?_
  simp only [Int.mul_assoc, Int.mul_left_comm, Int.mul_comm]
theorem own_ref (p1 p2 p3 : Int32) : Jvm.Free.Fl.NoNaN64 (FP.ddiv (FP.i2d (lw_d p1 p2 p3)) (FP.i2d (lw_r p1 p2 p3 + lw_d p1 p2 p3))) ∧ True := by
  obtain ⟨z, hz, -⟩ := own_z p1 p2 p3; exact ⟨(own_eqv hz (own_rv p1 p2 p3)).nn, trivial⟩
theorem own_e1 (p1 p2 p3 : Int32) : ifCond.holds .ne (cmpValue (FP.dcmp (lw_lost p1 p2 p3) (lw_ref p1 p2 p3)) .l) = false := by
  obtain ⟨z, hz, -⟩ := own_z p1 p2 p3
  have q := (own_if hz.v (own_eqv hz (own_rv p1 p2 p3)) .l).2.1
  exact Eq.trans q (decide_eq_false (fun h => h rfl))
theorem own_e2 (p1 p2 p3 : Int32) : ifCond.holds .ne (cmpValue (FP.dcmp (lw_lost p1 p2 p3) (lw_gain p1 p2 p3)) .l) = false := by
  obtain ⟨z, hz, -⟩ := own_z p1 p2 p3
  have e : lw_gain p1 p2 p3 = FP.ddiv (lw_delta p1 p2 p3) (FP.dadd (lw_rate p1 p2 p3) (lw_delta p1 p2 p3)) := (own_gain p1 p2 p3).2
  rw [e]
  have q := (own_if hz.v hz.v .l).2.1
  exact Eq.trans q (decide_eq_false (fun h => h rfl))
theorem own_e3 (p1 p2 p3 : Int32) : ifCond.holds .le (cmpValue (FP.dcmp (lw_lost p1 p2 p3) (0 : UInt64)) .l) = false := by
  obtain ⟨z, hz, l, u⟩ := own_z p1 p2 p3
  have q := (own_if hz.v own_zero.v .l).2.2.2.2.2
  exact Eq.trans q (decide_eq_false (by omega))
theorem own_e4 (p1 p2 p3 : Int32) : ifCond.holds .ge (cmpValue (FP.dcmp (lw_lost p1 p2 p3) (4607182418800017408 : UInt64)) .g) = false := by
  obtain ⟨z, hz, l, u⟩ := own_z p1 p2 p3
  have q := (own_if hz.v own_one.v .g).2.2.2.1
  exact Eq.trans q (decide_eq_false (by omega))
theorem d1_0 : decode prog_18_method_1_code 0 = .ok (.aload_n 0, 1) := by decide +kernel
theorem d1_1 : decode prog_18_method_1_code 1 = .ok (.invokespecial 1, 3) := by decide +kernel
theorem d1_4 : decode prog_18_method_1_code 4 = .ok (.dload_n 1, 1) := by decide +kernel
theorem d1_5 : decode prog_18_method_1_code 5 = .ok (.invokestatic 7, 3) := by decide +kernel
theorem d1_8 : decode prog_18_method_1_code 8 = .ok (.ifCond .eq 9, 3) := by decide +kernel
theorem d1_11 : decode prog_18_method_1_code 11 = .ok (.dload_n 1, 1) := by decide +kernel
theorem d1_12 : decode prog_18_method_1_code 12 = .ok (.dconst 0, 1) := by decide +kernel
theorem d1_13 : decode prog_18_method_1_code 13 = .ok (.dcmp .l, 1) := by decide +kernel
theorem d1_14 : decode prog_18_method_1_code 14 = .ok (.ifCond .gt 17, 3) := by decide +kernel
theorem d1_17 : decode prog_18_method_1_code 17 = .ok (.new 13, 3) := by decide +kernel
theorem d1_20 : decode prog_18_method_1_code 20 = .ok (.dup, 1) := by decide +kernel
theorem d1_21 : decode prog_18_method_1_code 21 = .ok (.dload_n 1, 1) := by decide +kernel
theorem d1_22 : decode prog_18_method_1_code 22 = .ok (.invokedynamic 15, 5) := by decide +kernel
theorem d1_27 : decode prog_18_method_1_code 27 = .ok (.invokespecial 19, 3) := by decide +kernel
theorem d1_30 : decode prog_18_method_1_code 30 = .ok (.athrow, 1) := by decide +kernel
theorem d1_31 : decode prog_18_method_1_code 31 = .ok (.aload_n 0, 1) := by decide +kernel
theorem d1_32 : decode prog_18_method_1_code 32 = .ok (.dload_n 1, 1) := by decide +kernel
theorem d1_33 : decode prog_18_method_1_code 33 = .ok (.putfield 22, 3) := by decide +kernel
theorem d1_36 : decode prog_18_method_1_code 36 = .ok (.return_, 1) := by decide +kernel
theorem d2_0 : decode jdk_30_method_1_code 0 = .ok (.aload_n 0, 1) := by decide +kernel
theorem d2_1 : decode jdk_30_method_1_code 1 = .ok (.invokespecial 1, 3) := by decide +kernel
theorem d2_4 : decode jdk_30_method_1_code 4 = .ok (.return_, 1) := by decide +kernel
theorem d4_0 : decode jdk_117_method_8_code 0 = .ok (.dload_n 0, 1) := by decide +kernel
theorem d4_1 : decode jdk_117_method_8_code 1 = .ok (.invokestatic 38, 3) := by decide +kernel
theorem d4_4 : decode jdk_117_method_8_code 4 = .ok (.ldc2_w 111, 3) := by decide +kernel
theorem d4_7 : decode jdk_117_method_8_code 7 = .ok (.dcmp .g, 1) := by decide +kernel
theorem d4_8 : decode jdk_117_method_8_code 8 = .ok (.ifCond .gt 7, 3) := by decide +kernel
theorem d4_11 : decode jdk_117_method_8_code 11 = .ok (.iconst 1, 1) := by decide +kernel
theorem d4_12 : decode jdk_117_method_8_code 12 = .ok (.goto 4, 3) := by decide +kernel
theorem d4_15 : decode jdk_117_method_8_code 15 = .ok (.iconst 0, 1) := by decide +kernel
theorem d4_16 : decode jdk_117_method_8_code 16 = .ok (.ireturn, 1) := by decide +kernel
theorem d6_0 : decode prog_13_method_1_code 0 = .ok (.aload_n 0, 1) := by decide +kernel
theorem d6_1 : decode prog_13_method_1_code 1 = .ok (.invokespecial 1, 3) := by decide +kernel
theorem d6_4 : decode prog_13_method_1_code 4 = .ok (.dload_n 1, 1) := by decide +kernel
theorem d6_5 : decode prog_13_method_1_code 5 = .ok (.invokestatic 7, 3) := by decide +kernel
theorem d6_8 : decode prog_13_method_1_code 8 = .ok (.ifCond .eq 9, 3) := by decide +kernel
theorem d6_11 : decode prog_13_method_1_code 11 = .ok (.dload_n 1, 1) := by decide +kernel
theorem d6_12 : decode prog_13_method_1_code 12 = .ok (.dconst 0, 1) := by decide +kernel
theorem d6_13 : decode prog_13_method_1_code 13 = .ok (.dcmp .l, 1) := by decide +kernel
theorem d6_14 : decode prog_13_method_1_code 14 = .ok (.ifCond .gt 17, 3) := by decide +kernel
theorem d6_17 : decode prog_13_method_1_code 17 = .ok (.new 13, 3) := by decide +kernel
theorem d6_20 : decode prog_13_method_1_code 20 = .ok (.dup, 1) := by decide +kernel
theorem d6_21 : decode prog_13_method_1_code 21 = .ok (.dload_n 1, 1) := by decide +kernel
theorem d6_22 : decode prog_13_method_1_code 22 = .ok (.invokedynamic 15, 5) := by decide +kernel
theorem d6_27 : decode prog_13_method_1_code 27 = .ok (.invokespecial 19, 3) := by decide +kernel
theorem d6_30 : decode prog_13_method_1_code 30 = .ok (.athrow, 1) := by decide +kernel
theorem d6_31 : decode prog_13_method_1_code 31 = .ok (.aload_n 0, 1) := by decide +kernel
theorem d6_32 : decode prog_13_method_1_code 32 = .ok (.dload_n 1, 1) := by decide +kernel
theorem d6_33 : decode prog_13_method_1_code 33 = .ok (.putfield 22, 3) := by decide +kernel
theorem d6_36 : decode prog_13_method_1_code 36 = .ok (.return_, 1) := by decide +kernel
theorem d7_0 : decode prog_18_method_3_code 0 = .ok (.aload_n 1, 1) := by decide +kernel
theorem d7_1 : decode prog_18_method_3_code 1 = .ok (.invokevirtual 28, 3) := by decide +kernel
theorem d7_4 : decode prog_18_method_3_code 4 = .ok (.dstore_n 2, 1) := by decide +kernel
theorem d7_5 : decode prog_18_method_3_code 5 = .ok (.dload_n 2, 1) := by decide +kernel
theorem d7_6 : decode prog_18_method_3_code 6 = .ok (.aload_n 0, 1) := by decide +kernel
theorem d7_7 : decode prog_18_method_3_code 7 = .ok (.getfield 22, 3) := by decide +kernel
theorem d7_10 : decode prog_18_method_3_code 10 = .ok (.dload_n 2, 1) := by decide +kernel
theorem d7_11 : decode prog_18_method_3_code 11 = .ok (.dadd, 1) := by decide +kernel
theorem d7_12 : decode prog_18_method_3_code 12 = .ok (.ddiv, 1) := by decide +kernel
theorem d7_13 : decode prog_18_method_3_code 13 = .ok (.dreturn, 1) := by decide +kernel
theorem d8_0 : decode prog_13_method_10_code 0 = .ok (.aload_n 0, 1) := by decide +kernel
theorem d8_1 : decode prog_13_method_10_code 1 = .ok (.getfield 22, 3) := by decide +kernel
theorem d8_4 : decode prog_13_method_10_code 4 = .ok (.dreturn, 1) := by decide +kernel
theorem d9_0 : decode prog_18_method_2_code 0 = .ok (.aload_n 0, 1) := by decide +kernel
theorem d9_1 : decode prog_18_method_2_code 1 = .ok (.getfield 22, 3) := by decide +kernel
theorem d9_4 : decode prog_18_method_2_code 4 = .ok (.aload_n 0, 1) := by decide +kernel
theorem d9_5 : decode prog_18_method_2_code 5 = .ok (.getfield 22, 3) := by decide +kernel
theorem d9_8 : decode prog_18_method_2_code 8 = .ok (.aload_n 1, 1) := by decide +kernel
theorem d9_9 : decode prog_18_method_2_code 9 = .ok (.invokevirtual 28, 3) := by decide +kernel
theorem d9_12 : decode prog_18_method_2_code 12 = .ok (.dadd, 1) := by decide +kernel
theorem d9_13 : decode prog_18_method_2_code 13 = .ok (.ddiv, 1) := by decide +kernel
theorem d9_14 : decode prog_18_method_2_code 14 = .ok (.dreturn, 1) := by decide +kernel
theorem pn_0 : plainName "java/lang/Record" = true := by first | (simp [plainName, overriddenIn]; done) | decide +kernel
theorem pn_1 : plainName "java/lang/Double" = true := by first | (simp [plainName, overriddenIn]; done) | decide +kernel
theorem pn_2 : plainName "com/example/gavelflow/gavelflow/market/PoissonArrivals" = true := by first | (simp [plainName, overriddenIn]; done) | decide +kernel
theorem pn_3 : plainName "com/example/gavelflow/gavelflow/market/Discounting" = true := by first | (simp [plainName, overriddenIn]; done) | decide +kernel
theorem pn_4 : plainName "com/example/gavelflow/gavelflow/market/PoissonArrivalsDiscountLostToNextArrivalPinLaw" = true := by first | (simp [plainName, overriddenIn]; done) | decide +kernel
theorem pd_0 : parseMethodDescriptor "(D)D" = some ⟨[.double], some .double⟩ := by decide +kernel
theorem pd_1 : parseMethodDescriptor "()V" = some ⟨[], none⟩ := by decide +kernel
theorem pd_2 : parseMethodDescriptor "(D)Z" = some ⟨[.double], some .boolean⟩ := by decide +kernel
theorem pd_3 : parseMethodDescriptor "()D" = some ⟨[], some .double⟩ := by decide +kernel
theorem pd_4 : parseMethodDescriptor "(D)V" = some ⟨[.double], none⟩ := by decide +kernel
theorem pd_5 : parseMethodDescriptor "(Lcom/example/gavelflow/gavelflow/market/Discounting;)D" = some ⟨[(.object "com/example/gavelflow/gavelflow/market/Discounting")], some .double⟩ := by decide +kernel
theorem ef_rc (m : MethodId) (a1 : Addr) : entryFrame m #[(.ref a1)] 1 = (mkF m 0 #[.val (.ref a1)] []) := by first | (simp [entryFrame, mkF, argsToLocals, Value.category]; done) | rfl
def Q_rc (Z : State) (a1 : Addr)  (h0 : Heap) (n0 : Nat) (v : Option Value) (h : Heap) (L : List Loc) : Prop := v = none ∧ Fr n0 L ∧ h = h0
set_option maxRecDepth 65536 in
set_option maxHeartbeats 40000000 in
theorem rm_rc (l : Launch) (Z : State) (a0 : Array Value) (hw : ∀ d ∈ tables_1, d.before a0 Z = true) (ws : List Jvm.Cond) (a1 : Addr)  (h0 : Heap) (n0 : Nat) (Z0 : n0 ≤ h0.size)    :
    MetFree l (⟨"java/lang/Record", "<init>", "()V"⟩ : MethodName) (head1 (Jvm.Cond.code (⟨"java/lang/Record", "<init>", "()V"⟩ : MethodName) jdk_30_method_1_code 1 none :: ws) ({ frames := 1, cells := 0, slots := 0, locals := 12 } : Room)) (fun a U => a = #[(.ref a1)] ∧ Z.Warmed39 U.vm ∧ U.heap = h0) (fun _ _ _ _ _ => True) (fun _ U o U' => ∃ v L, o = .returned v ∧ Q_rc Z a1  h0 n0 v U'.heap L ∧ FrameEnd U o U' L ({ frames := 1, cells := 0, slots := 0, locals := 12 } : Room).cells ({ frames := 1, cells := 0, slots := 0, locals := 12 } : Room).slots) := by
  refine MetFree.of_bodySF (plainFor_of_name pn_0) hisR ?_
  intro p e s m args below meth c s₁ Bd hml0 hP hK
  obtain ⟨rfl, hZ, hh⟩ := hP
  have hx := Bd.exec
  have hby := Bd.bytes
  have hml : c.maxLocals = 1 := hml0
  have hown : s.vm.findClass "java/lang/Record" = some m.cls := findClass_of_methodNamed Bd.named
  have hnm := (name_of_methodNamed Bd.named Bd.method).1
  have X0 : Stand p l e ({ frames := 1, cells := 0, slots := 0, locals := 12 } : Room) s m #[(.ref a1)] below meth c s₁ [] 0 0 := Stand.of_body Bd
  have e0 : s₁.heap = h0 := by rw [← hh, Bd.state]; rfl
  have N0 := Fr.nil n0
  have pre0 : ∀ t, Steps p.tables e below (s₁.setTop (mkF m 0 #[.val (.ref a1)] [])) t → Steps p.tables e below (s₁.setTop (entryFrame m #[(.ref a1)] 1)) t := fun t k => castTop (ef_rc m a1) k
  obtain ⟨T1, X1, e1, st1⟩ := initO X0 hx hZ hown (hw _ (List.mem_of_getElem? (i := 12) rfl)) (hw _ (List.mem_of_getElem? (i := 13) rfl)) (hw _ (List.mem_of_getElem? (i := 14) rfl)) e0 (g := (mkF m 1 #[.val (.ref a1)] [(.ref a1)])) rfl (by rw [hml]; rfl) rfl (hb hby d2_1) (by decide) (W := 0) (by show 2 * 0 + _ ≤ _; exact Nat.le_of_eq rfl) (by decide)
  obtain ⟨fs, hr, hrun, hended, hW, hsame⟩ := X1.leave (v := none) (fun _ => rfl)
  refine ⟨_, _, pre0 _ ?_, hrun, hended, _, _, rfl, ?_, ⟨_, rfl⟩, hW, hsame.mono (Nat.le_of_ble_eq_true rfl) (Nat.le_of_ble_eq_true rfl)⟩
  · show Steps p.tables e below (s₁.setTop (mkF m 0 #[.val (.ref a1)] [])) _
    refine XS.aloadN X0.here hx rfl (hb hby d2_0) rfl rfl ?_
    show Steps p.tables e below (s₁.setTop (mkF m 1 #[.val (.ref a1)] [(.ref a1)])) _
    refine st1 _ ?_
    show Steps p.tables e below (T1.setTop (mkF m 4 #[.val (.ref a1)] [])) _
    exact X1.returnOut hx Bd.returns (hb hby d2_4) hr
  · show Q_rc Z a1  h0 n0 _ T1.heap _
    exact ⟨rfl, N0, e1⟩
theorem ef_fi (m : MethodId) (d1 : UInt64) : entryFrame m #[(.double d1)] 2 = (mkF m 0 #[.val (.double d1), .second] []) := by first | (simp [entryFrame, mkF, argsToLocals, Value.category]; done) | rfl
def Q_fi (Z : State) (d1 : UInt64)  (h0 : Heap) (n0 : Nat) (v : Option Value) (h : Heap) (L : List Loc) : Prop := v = some (.int (fi_res d1)) ∧ Fr n0 L ∧ h = h0
set_option maxRecDepth 65536 in
set_option maxHeartbeats 40000000 in
theorem rm_fi (l : Launch) (Z : State) (a0 : Array Value) (hw : ∀ d ∈ tables_1, d.before a0 Z = true) (ws : List Jvm.Cond) (d1 : UInt64)  (h0 : Heap) (n0 : Nat) (Z0 : n0 ≤ h0.size)  (hnn : Jvm.Free.Fl.NoNaN64 d1)  :
    MetFree l (⟨"java/lang/Double", "isFinite", "(D)Z"⟩ : MethodName) (head1 (Jvm.Cond.code (⟨"java/lang/Double", "isFinite", "(D)Z"⟩ : MethodName) jdk_117_method_8_code 2 (some .boolean) :: ws) ({ frames := 1, cells := 0, slots := 0, locals := 13 } : Room)) (fun a U => a = #[(.double d1)] ∧ Z.Warmed39 U.vm ∧ U.heap = h0) (fun _ _ _ _ _ => True) (fun _ U o U' => ∃ v L, o = .returned v ∧ Q_fi Z d1  h0 n0 v U'.heap L ∧ FrameEnd U o U' L ({ frames := 1, cells := 0, slots := 0, locals := 13 } : Room).cells ({ frames := 1, cells := 0, slots := 0, locals := 13 } : Room).slots) := by
  refine MetFree.of_bodySF (plainFor_of_name pn_1) hisR ?_
  intro p e s m args below meth c s₁ Bd hml0 hP hK
  obtain ⟨rfl, hZ, hh⟩ := hP
  have hx := Bd.exec
  have hby := Bd.bytes
  have hml : c.maxLocals = 2 := hml0
  have hown : s.vm.findClass "java/lang/Double" = some m.cls := findClass_of_methodNamed Bd.named
  have hnm := (name_of_methodNamed Bd.named Bd.method).1
  have X0 : Stand p l e ({ frames := 1, cells := 0, slots := 0, locals := 13 } : Room) s m #[(.double d1)] below meth c s₁ [] 0 0 := Stand.of_body Bd
  have e0 : s₁.heap = h0 := by rw [← hh, Bd.state]; rfl
  have N0 := Fr.nil n0
  have pre0 : ∀ t, Steps p.tables e below (s₁.setTop (mkF m 0 #[.val (.double d1), .second] [])) t → Steps p.tables e below (s₁.setTop (entryFrame m #[(.double d1)] 2)) t := fun t k => castTop (ef_fi m d1) k
  obtain ⟨T1, X1, e1, st1⟩ := natS X0 hx hZ (y := (⟨"java/lang/Math", "abs", "(D)D"⟩ : MethodName)) hown (hw _ (List.mem_of_getElem? (i := 19) rfl)) (hw _ (List.mem_of_getElem? (i := 20) rfl)) (hw _ (List.mem_of_getElem? (i := 21) rfl)) (hw _ (List.mem_of_getElem? (i := 22) rfl)) (by decide) e0 (W := 0) (F := fun a' => a' = #[(.double d1)] ∧ Jvm.Free.Fl.NoNaN64 d1) (val := .double (d1 &&& 0x7fffffffffffffff)) (val' := .double (d1 &&& 0x7fffffffffffffff)) (fun c4 => Jvm.Free.Fl.Abs.absD_pays d1 c4 (by decide) (by decide)) (g := (mkF m 1 #[.val (.double d1), .second] [(.double d1)])) rfl (by rw [hml]; rfl) (argsL := [(.double d1)]) (rest := []) (lenOf pd_0 rfl) rfl (by show 2 * 0 + _ ≤ _; exact Nat.le_of_eq rfl) (hb hby d4_1) (by decide) (by decide) ⟨rfl, hnn⟩ rfl
  obtain ⟨fs, hr, hrun, hended, hW, hsame⟩ := X1.leave (v := some (.int (fi_res d1))) (fun h => by rw [Bd.returns] at h; cases h)
  refine ⟨_, _, pre0 _ ?_, hrun, hended, _, _, rfl, ?_, ⟨_, rfl⟩, hW, hsame.mono (Nat.le_of_ble_eq_true rfl) (Nat.le_of_ble_eq_true rfl)⟩
  · show Steps p.tables e below (s₁.setTop (mkF m 0 #[.val (.double d1), .second] [])) _
    refine XS.dloadN X0.here hx rfl (hb hby d4_0) rfl ?_
    show Steps p.tables e below (s₁.setTop (mkF m 1 #[.val (.double d1), .second] [(.double d1)])) _
    refine st1 _ ?_
    show Steps p.tables e below (T1.setTop (mkF m 4 #[.val (.double d1), .second] [(.double (d1 &&& 0x7fffffffffffffff))])) _
    refine X1.ldc2DoubleC hx hown (mvT hZ (hw _ (List.mem_of_getElem? (i := 23) rfl))) (g := (mkF m 4 #[.val (.double d1), .second] [(.double (d1 &&& 0x7fffffffffffffff))])) rfl (hb hby d4_4) _ ?_
    show Steps p.tables e below (T1.setTop (mkF m 7 #[.val (.double d1), .second] [(.double (9218868437227405311 : UInt64)), (.double (d1 &&& 0x7fffffffffffffff))])) _
    refine XS.dcmpS X1.here hx rfl (hb hby d4_7) rfl rfl ?_
    show Steps p.tables e below (T1.setTop (mkF m 8 #[.val (.double d1), .second] [(.int (cmpValue (FP.dcmp (d1 &&& 0x7fffffffffffffff) (9218868437227405311 : UInt64)) .g))])) _
    by_cases c2 : (ifCond.holds .gt (cmpValue (FP.dcmp (d1 &&& 0x7fffffffffffffff) (9218868437227405311 : UInt64)) .g)) = true
    · refine XS.ifYes X1.here hx rfl (pc0 := 8) (pc' := 15) rfl (hb hby d4_8) rfl c2 (by decide) (by decide) ?_
      show Steps p.tables e below (T1.setTop (mkF m 15 #[.val (.double d1), .second] [])) _
      refine XS.iconst X1.here hx rfl (hb hby d4_15) ?_
      show Steps p.tables e below (T1.setTop (mkF m 16 #[.val (.double d1), .second] [(.int (0 : Int32))])) _
      have q : (fi_res d1) = (0 : Int32) := by simp only [fi_res, c2, if_true, if_false, Bool.false_eq_true]; try rfl
      rw [q] at hr
      exact retN X1 hx (t := .boolean) Bd.returns (by simp) (hb hby d4_16) hr
    · refine XS.ifNo X1.here hx rfl (hb hby d4_8) rfl (Bool.eq_false_iff.mpr c2) ?_
      show Steps p.tables e below (T1.setTop (mkF m 11 #[.val (.double d1), .second] [])) _
      refine XS.iconst X1.here hx rfl (hb hby d4_11) ?_
      show Steps p.tables e below (T1.setTop (mkF m 12 #[.val (.double d1), .second] [(.int (1 : Int32))])) _
      refine XS.goto X1.here hx rfl (pc0 := 12) (pc' := 16) rfl (hb hby d4_12) (by decide) (by decide) ?_
      show Steps p.tables e below (T1.setTop (mkF m 16 #[.val (.double d1), .second] [(.int (1 : Int32))])) _
      have q : (fi_res d1) = (1 : Int32) := by simp only [fi_res, c2, if_true, if_false, Bool.false_eq_true]; try rfl
      rw [q] at hr
      exact retN X1 hx (t := .boolean) Bd.returns (by simp) (hb hby d4_16) hr
  · show Q_fi Z d1  h0 n0 _ T1.heap _
    exact ⟨rfl, N0, e1⟩
theorem ef_ip (m : MethodId) (a1 : Addr) (d1 : UInt64) : entryFrame m #[(.ref a1), (.double d1)] 3 = (mkF m 0 #[.val (.ref a1), .val (.double d1), .second] []) := by first | (simp [entryFrame, mkF, argsToLocals, Value.category]; done) | rfl
def Q_ip (Z : State) (a1 : Addr) (d1 : UInt64)  (h0 : Heap) (n0 : Nat) (v : Option Value) (h : Heap) (L : List Loc) : Prop := v = none ∧ Fr n0 L ∧ Keep h0 h [a1] ∧ (Exa Z h a1 "com/example/gavelflow/gavelflow/market/PoissonArrivals") ∧ (Fld Z h a1 "com/example/gavelflow/gavelflow/market/PoissonArrivals" "rate" "D" (.double d1))
set_option maxRecDepth 65536 in
set_option maxHeartbeats 40000000 in
theorem rm_ip (l : Launch) (Z : State) (a0 : Array Value) (hw : ∀ d ∈ tables_1, d.before a0 Z = true) (ws : List Jvm.Cond) (a1 : Addr) (d1 : UInt64)  (h0 : Heap) (n0 : Nat) (Z0 : n0 ≤ h0.size) (k0_ : Fld Z h0 a1 "com/example/gavelflow/gavelflow/market/PoissonArrivals" "rate" "D" (.double (0 : UInt64))) (k1_ : Exa Z h0 a1 "com/example/gavelflow/gavelflow/market/PoissonArrivals") (k2_ : n0 ≤ a1) (hnn : Jvm.Free.Fl.NoNaN64 d1) (hfin : ifCond.holds .eq (fi_res d1) = false) (hpos : ifCond.holds .gt (cmpValue (FP.dcmp d1 (0 : UInt64)) .l) = true)  :
    MetFree l (⟨"com/example/gavelflow/gavelflow/market/PoissonArrivals", "<init>", "(D)V"⟩ : MethodName) (head1 (Jvm.Cond.code (⟨"com/example/gavelflow/gavelflow/market/PoissonArrivals", "<init>", "(D)V"⟩ : MethodName) prog_18_method_1_code 3 none :: ws) ({ frames := 2, cells := 0, slots := 0, locals := 26 } : Room)) (fun a U => a = #[(.ref a1), (.double d1)] ∧ Z.Warmed39 U.vm ∧ U.heap = h0) (fun _ _ _ _ _ => True) (fun _ U o U' => ∃ v L, o = .returned v ∧ Q_ip Z a1 d1  h0 n0 v U'.heap L ∧ FrameEnd U o U' L ({ frames := 2, cells := 0, slots := 0, locals := 26 } : Room).cells ({ frames := 2, cells := 0, slots := 0, locals := 26 } : Room).slots) := by
  refine MetFree.of_bodySF (plainFor_of_name pn_2) hisR ?_
  intro p e s m args below meth c s₁ Bd hml0 hP hK
  obtain ⟨rfl, hZ, hh⟩ := hP
  have hx := Bd.exec
  have hby := Bd.bytes
  have hml : c.maxLocals = 3 := hml0
  have hown : s.vm.findClass "com/example/gavelflow/gavelflow/market/PoissonArrivals" = some m.cls := findClass_of_methodNamed Bd.named
  have hnm := (name_of_methodNamed Bd.named Bd.method).1
  have X0 : Stand p l e ({ frames := 2, cells := 0, slots := 0, locals := 26 } : Room) s m #[(.ref a1), (.double d1)] below meth c s₁ [] 0 0 := Stand.of_body Bd
  have e0 : s₁.heap = h0 := by rw [← hh, Bd.state]; rfl
  have N0 := Fr.nil n0
  have pre0 : ∀ t, Steps p.tables e below (s₁.setTop (mkF m 0 #[.val (.ref a1), .val (.double d1), .second] [])) t → Steps p.tables e below (s₁.setTop (entryFrame m #[(.ref a1), (.double d1)] 3)) t := fun t k => castTop (ef_ip m a1 d1) k
  have K0 := Keep.refl h0 [a1]
  obtain ⟨_, _, ⟨T1, L1, k1, n1⟩, -, X1, ⟨Lc1, hQ1, l1, y1, z1⟩, st1⟩ := X0.specialBack hx (y := (⟨"java/lang/Record", "<init>", "()V"⟩ : MethodName)) rfl hown (mvT hZ (hw _ (List.mem_of_getElem? (i := 7) rfl))) (mvT hZ (hw _ (List.mem_of_getElem? (i := 8) rfl))) (mvT hZ (hw _ (List.mem_of_getElem? (i := 11) rfl))) (by decide) (backOf (W := 0) (rm_rc l Z a0 hw [] a1  (h0) n0 Z0  ) hZ (hw _ (List.mem_of_getElem? (i := 11) rfl)) (hw _ (List.mem_of_getElem? (i := 10) rfl)) (by decide) (by decide)) (g := (mkF m 1 #[.val (.ref a1), .val (.double d1), .second] [(.ref a1)])) rfl (by rw [hml]; rfl) (Steps.refl _) (a := a1) (argsL := []) (rest := []) (lenOf pd_1 rfl) rfl (by show 2 * 0 + _ ≤ _; exact Nat.le_of_eq rfl) (hb hby d1_1) (fun _ _ => ⟨rfl, e0, (by decide : 0 + 0 ≤ _), (by decide : 0 + 0 ≤ _)⟩)
  dsimp only [Pt.U, Pt.locs, Pt.cells, Pt.slots] at X1 l1 y1 z1 st1 hQ1
  subst l1 y1 z1
  obtain ⟨rfl, N1, e1⟩ := hQ1
  have Nn1 := Fr.app N0 N1
  obtain ⟨_, _, ⟨T2, L2, k2, n2⟩, -, X2, ⟨Lc2, hQ2, l2, y2, z2⟩, st2⟩ := Jvm.LawKit.callS X1 hx (y := (⟨"java/lang/Double", "isFinite", "(D)Z"⟩ : MethodName)) hown (mvT hZ (hw _ (List.mem_of_getElem? (i := 15) rfl))) (mvT hZ (hw _ (List.mem_of_getElem? (i := 16) rfl))) (mvT hZ (hw _ (List.mem_of_getElem? (i := 17) rfl))) (mvT hZ (hw _ (List.mem_of_getElem? (i := 18) rfl))) (by decide) (backOf (W := 0) (rm_fi l Z a0 hw [] d1  (h0) n0 Z0  hnn) hZ (hw _ (List.mem_of_getElem? (i := 18) rfl)) (hw _ (List.mem_of_getElem? (i := 17) rfl)) (by decide) (by decide)) (g := (mkF m 5 #[.val (.ref a1), .val (.double d1), .second] [(.double d1)])) rfl (by rw [hml]; rfl) (argsL := [(.double d1)]) (rest := []) (lenOf pd_2 rfl) rfl (by show 2 * 0 + _ ≤ _; exact Nat.le_of_eq rfl) (hb hby d1_5) (fun _ _ => ⟨rfl, e1, (by decide : 0 + 0 ≤ _), (by decide : 0 + 0 ≤ _)⟩)
  dsimp only [Pt.U, Pt.locs, Pt.cells, Pt.slots] at X2 l2 y2 z2 st2 hQ2
  subst l2 y2 z2
  obtain ⟨rfl, N2, e2⟩ := hQ2
  have Nn2 := Fr.app Nn1 N2
  obtain ⟨T3, h3, X3, e3, W3, st3⟩ := putF X2 hx hZ hown (host := "") (Or.inl (hw _ (List.mem_of_getElem? (i := 24) rfl))) Via.refl e2 k0_ k1_ (Or.inr ⟨(hw _ (List.mem_of_getElem? (i := 25) rfl)), rfl, hnm⟩) (hw _ (List.mem_of_getElem? (i := 2) rfl)) (ty := .double) (by decide) rfl rfl (g := (mkF m 33 #[.val (.ref a1), .val (.double d1), .second] [(.double d1), (.ref a1)])) rfl rfl (hb hby d1_33)
  have Nn3 := Fr.snoc X3 Nn2 k2_
  have q4 : Exa Z h3 a1 "com/example/gavelflow/gavelflow/market/PoissonArrivals" := (k1_.wr W3)
  have q3n : Fld Z h3 a1 "com/example/gavelflow/gavelflow/market/PoissonArrivals" "rate" "D" (.double d1) := (k0_.same W3)
  have K3 := K0.wr W3 (Or.inl (List.mem_of_getElem? (i := 0) rfl))
  have Z3 : n0 ≤ h3.size := Nat.le_trans Z0 (Keep.of_wr W3).1
  obtain ⟨fs, hr, hrun, hended, hW, hsame⟩ := X3.leave (v := none) (fun _ => rfl)
  refine ⟨_, _, pre0 _ ?_, hrun, hended, _, _, rfl, ?_, ⟨_, rfl⟩, hW, hsame.mono (Nat.le_of_ble_eq_true rfl) (Nat.le_of_ble_eq_true rfl)⟩
  · show Steps p.tables e below (s₁.setTop (mkF m 0 #[.val (.ref a1), .val (.double d1), .second] [])) _
    refine XS.aloadN X0.here hx rfl (hb hby d1_0) rfl rfl ?_
    show Steps p.tables e below (s₁.setTop (mkF m 1 #[.val (.ref a1), .val (.double d1), .second] [(.ref a1)])) _
    refine st1.trans ?_
    show Steps p.tables e below (T1.setTop (mkF m 4 #[.val (.ref a1), .val (.double d1), .second] [])) _
    refine XS.dloadN X1.here hx rfl (hb hby d1_4) rfl ?_
    show Steps p.tables e below (T1.setTop (mkF m 5 #[.val (.ref a1), .val (.double d1), .second] [(.double d1)])) _
    refine st2 _ ?_
    show Steps p.tables e below (T2.setTop (mkF m 8 #[.val (.ref a1), .val (.double d1), .second] [(.int (fi_res d1))])) _
    refine XS.ifNo X2.here hx rfl (hb hby d1_8) rfl hfin ?_
    show Steps p.tables e below (T2.setTop (mkF m 11 #[.val (.ref a1), .val (.double d1), .second] [])) _
    refine XS.dloadN X2.here hx rfl (hb hby d1_11) rfl ?_
    show Steps p.tables e below (T2.setTop (mkF m 12 #[.val (.ref a1), .val (.double d1), .second] [(.double d1)])) _
    refine XS.dconst0 X2.here hx rfl (hb hby d1_12) rfl ?_
    show Steps p.tables e below (T2.setTop (mkF m 13 #[.val (.ref a1), .val (.double d1), .second] [(.double (0 : UInt64)), (.double d1)])) _
    refine XS.dcmpS X2.here hx rfl (hb hby d1_13) rfl rfl ?_
    show Steps p.tables e below (T2.setTop (mkF m 14 #[.val (.ref a1), .val (.double d1), .second] [(.int (cmpValue (FP.dcmp d1 (0 : UInt64)) .l))])) _
    refine XS.ifYes X2.here hx rfl (pc0 := 14) (pc' := 31) rfl (hb hby d1_14) rfl hpos (by decide) (by decide) ?_
    show Steps p.tables e below (T2.setTop (mkF m 31 #[.val (.ref a1), .val (.double d1), .second] [])) _
    refine XS.aloadN X2.here hx rfl (hb hby d1_31) rfl rfl ?_
    show Steps p.tables e below (T2.setTop (mkF m 32 #[.val (.ref a1), .val (.double d1), .second] [(.ref a1)])) _
    refine XS.dloadN X2.here hx rfl (hb hby d1_32) rfl ?_
    show Steps p.tables e below (T2.setTop (mkF m 33 #[.val (.ref a1), .val (.double d1), .second] [(.double d1), (.ref a1)])) _
    refine st3 _ ?_
    show Steps p.tables e below (T3.setTop (mkF m 36 #[.val (.ref a1), .val (.double d1), .second] [])) _
    exact X3.returnOut hx Bd.returns (hb hby d1_36) hr
  · show Q_ip Z a1 d1  h0 n0 _ T3.heap _
    rw [e3]
    exact ⟨rfl, Nn3, K3, q4, q3n⟩
theorem ef_idd (m : MethodId) (a1 : Addr) (d1 : UInt64) : entryFrame m #[(.ref a1), (.double d1)] 3 = (mkF m 0 #[.val (.ref a1), .val (.double d1), .second] []) := by first | (simp [entryFrame, mkF, argsToLocals, Value.category]; done) | rfl
def Q_idd (Z : State) (a1 : Addr) (d1 : UInt64)  (h0 : Heap) (n0 : Nat) (v : Option Value) (h : Heap) (L : List Loc) : Prop := v = none ∧ Fr n0 L ∧ Keep h0 h [a1] ∧ (Exa Z h a1 "com/example/gavelflow/gavelflow/market/Discounting") ∧ (Fld Z h a1 "com/example/gavelflow/gavelflow/market/Discounting" "forceOfInterest" "D" (.double d1))
set_option maxRecDepth 65536 in
set_option maxHeartbeats 40000000 in
theorem rm_idd (l : Launch) (Z : State) (a0 : Array Value) (hw : ∀ d ∈ tables_1, d.before a0 Z = true) (ws : List Jvm.Cond) (a1 : Addr) (d1 : UInt64)  (h0 : Heap) (n0 : Nat) (Z0 : n0 ≤ h0.size) (k0_ : Fld Z h0 a1 "com/example/gavelflow/gavelflow/market/Discounting" "forceOfInterest" "D" (.double (0 : UInt64))) (k1_ : Exa Z h0 a1 "com/example/gavelflow/gavelflow/market/Discounting") (k2_ : n0 ≤ a1) (hnn : Jvm.Free.Fl.NoNaN64 d1) (hfin : ifCond.holds .eq (fi_res d1) = false) (hpos : ifCond.holds .gt (cmpValue (FP.dcmp d1 (0 : UInt64)) .l) = true)  :
    MetFree l (⟨"com/example/gavelflow/gavelflow/market/Discounting", "<init>", "(D)V"⟩ : MethodName) (head1 (Jvm.Cond.code (⟨"com/example/gavelflow/gavelflow/market/Discounting", "<init>", "(D)V"⟩ : MethodName) prog_13_method_1_code 3 none :: ws) ({ frames := 2, cells := 0, slots := 0, locals := 26 } : Room)) (fun a U => a = #[(.ref a1), (.double d1)] ∧ Z.Warmed39 U.vm ∧ U.heap = h0) (fun _ _ _ _ _ => True) (fun _ U o U' => ∃ v L, o = .returned v ∧ Q_idd Z a1 d1  h0 n0 v U'.heap L ∧ FrameEnd U o U' L ({ frames := 2, cells := 0, slots := 0, locals := 26 } : Room).cells ({ frames := 2, cells := 0, slots := 0, locals := 26 } : Room).slots) := by
  refine MetFree.of_bodySF (plainFor_of_name pn_3) hisR ?_
  intro p e s m args below meth c s₁ Bd hml0 hP hK
  obtain ⟨rfl, hZ, hh⟩ := hP
  have hx := Bd.exec
  have hby := Bd.bytes
  have hml : c.maxLocals = 3 := hml0
  have hown : s.vm.findClass "com/example/gavelflow/gavelflow/market/Discounting" = some m.cls := findClass_of_methodNamed Bd.named
  have hnm := (name_of_methodNamed Bd.named Bd.method).1
  have X0 : Stand p l e ({ frames := 2, cells := 0, slots := 0, locals := 26 } : Room) s m #[(.ref a1), (.double d1)] below meth c s₁ [] 0 0 := Stand.of_body Bd
  have e0 : s₁.heap = h0 := by rw [← hh, Bd.state]; rfl
  have N0 := Fr.nil n0
  have pre0 : ∀ t, Steps p.tables e below (s₁.setTop (mkF m 0 #[.val (.ref a1), .val (.double d1), .second] [])) t → Steps p.tables e below (s₁.setTop (entryFrame m #[(.ref a1), (.double d1)] 3)) t := fun t k => castTop (ef_idd m a1 d1) k
  have K0 := Keep.refl h0 [a1]
  obtain ⟨_, _, ⟨T1, L1, k1, n1⟩, -, X1, ⟨Lc1, hQ1, l1, y1, z1⟩, st1⟩ := X0.specialBack hx (y := (⟨"java/lang/Record", "<init>", "()V"⟩ : MethodName)) rfl hown (mvT hZ (hw _ (List.mem_of_getElem? (i := 32) rfl))) (mvT hZ (hw _ (List.mem_of_getElem? (i := 8) rfl))) (mvT hZ (hw _ (List.mem_of_getElem? (i := 11) rfl))) (by decide) (backOf (W := 0) (rm_rc l Z a0 hw [] a1  (h0) n0 Z0  ) hZ (hw _ (List.mem_of_getElem? (i := 11) rfl)) (hw _ (List.mem_of_getElem? (i := 10) rfl)) (by decide) (by decide)) (g := (mkF m 1 #[.val (.ref a1), .val (.double d1), .second] [(.ref a1)])) rfl (by rw [hml]; rfl) (Steps.refl _) (a := a1) (argsL := []) (rest := []) (lenOf pd_1 rfl) rfl (by show 2 * 0 + _ ≤ _; exact Nat.le_of_eq rfl) (hb hby d6_1) (fun _ _ => ⟨rfl, e0, (by decide : 0 + 0 ≤ _), (by decide : 0 + 0 ≤ _)⟩)
  dsimp only [Pt.U, Pt.locs, Pt.cells, Pt.slots] at X1 l1 y1 z1 st1 hQ1
  subst l1 y1 z1
  obtain ⟨rfl, N1, e1⟩ := hQ1
  have Nn1 := Fr.app N0 N1
  obtain ⟨_, _, ⟨T2, L2, k2, n2⟩, -, X2, ⟨Lc2, hQ2, l2, y2, z2⟩, st2⟩ := Jvm.LawKit.callS X1 hx (y := (⟨"java/lang/Double", "isFinite", "(D)Z"⟩ : MethodName)) hown (mvT hZ (hw _ (List.mem_of_getElem? (i := 33) rfl))) (mvT hZ (hw _ (List.mem_of_getElem? (i := 16) rfl))) (mvT hZ (hw _ (List.mem_of_getElem? (i := 17) rfl))) (mvT hZ (hw _ (List.mem_of_getElem? (i := 18) rfl))) (by decide) (backOf (W := 0) (rm_fi l Z a0 hw [] d1  (h0) n0 Z0  hnn) hZ (hw _ (List.mem_of_getElem? (i := 18) rfl)) (hw _ (List.mem_of_getElem? (i := 17) rfl)) (by decide) (by decide)) (g := (mkF m 5 #[.val (.ref a1), .val (.double d1), .second] [(.double d1)])) rfl (by rw [hml]; rfl) (argsL := [(.double d1)]) (rest := []) (lenOf pd_2 rfl) rfl (by show 2 * 0 + _ ≤ _; exact Nat.le_of_eq rfl) (hb hby d6_5) (fun _ _ => ⟨rfl, e1, (by decide : 0 + 0 ≤ _), (by decide : 0 + 0 ≤ _)⟩)
  dsimp only [Pt.U, Pt.locs, Pt.cells, Pt.slots] at X2 l2 y2 z2 st2 hQ2
  subst l2 y2 z2
  obtain ⟨rfl, N2, e2⟩ := hQ2
  have Nn2 := Fr.app Nn1 N2
  obtain ⟨T3, h3, X3, e3, W3, st3⟩ := putF X2 hx hZ hown (host := "") (Or.inl (hw _ (List.mem_of_getElem? (i := 34) rfl))) Via.refl e2 k0_ k1_ (Or.inr ⟨(hw _ (List.mem_of_getElem? (i := 35) rfl)), rfl, hnm⟩) (hw _ (List.mem_of_getElem? (i := 27) rfl)) (ty := .double) (by decide) rfl rfl (g := (mkF m 33 #[.val (.ref a1), .val (.double d1), .second] [(.double d1), (.ref a1)])) rfl rfl (hb hby d6_33)
  have Nn3 := Fr.snoc X3 Nn2 k2_
  have q4 : Exa Z h3 a1 "com/example/gavelflow/gavelflow/market/Discounting" := (k1_.wr W3)
  have q3n : Fld Z h3 a1 "com/example/gavelflow/gavelflow/market/Discounting" "forceOfInterest" "D" (.double d1) := (k0_.same W3)
  have K3 := K0.wr W3 (Or.inl (List.mem_of_getElem? (i := 0) rfl))
  have Z3 : n0 ≤ h3.size := Nat.le_trans Z0 (Keep.of_wr W3).1
  obtain ⟨fs, hr, hrun, hended, hW, hsame⟩ := X3.leave (v := none) (fun _ => rfl)
  refine ⟨_, _, pre0 _ ?_, hrun, hended, _, _, rfl, ?_, ⟨_, rfl⟩, hW, hsame.mono (Nat.le_of_ble_eq_true rfl) (Nat.le_of_ble_eq_true rfl)⟩
  · show Steps p.tables e below (s₁.setTop (mkF m 0 #[.val (.ref a1), .val (.double d1), .second] [])) _
    refine XS.aloadN X0.here hx rfl (hb hby d6_0) rfl rfl ?_
    show Steps p.tables e below (s₁.setTop (mkF m 1 #[.val (.ref a1), .val (.double d1), .second] [(.ref a1)])) _
    refine st1.trans ?_
    show Steps p.tables e below (T1.setTop (mkF m 4 #[.val (.ref a1), .val (.double d1), .second] [])) _
    refine XS.dloadN X1.here hx rfl (hb hby d6_4) rfl ?_
    show Steps p.tables e below (T1.setTop (mkF m 5 #[.val (.ref a1), .val (.double d1), .second] [(.double d1)])) _
    refine st2 _ ?_
    show Steps p.tables e below (T2.setTop (mkF m 8 #[.val (.ref a1), .val (.double d1), .second] [(.int (fi_res d1))])) _
    refine XS.ifNo X2.here hx rfl (hb hby d6_8) rfl hfin ?_
    show Steps p.tables e below (T2.setTop (mkF m 11 #[.val (.ref a1), .val (.double d1), .second] [])) _
    refine XS.dloadN X2.here hx rfl (hb hby d6_11) rfl ?_
    show Steps p.tables e below (T2.setTop (mkF m 12 #[.val (.ref a1), .val (.double d1), .second] [(.double d1)])) _
    refine XS.dconst0 X2.here hx rfl (hb hby d6_12) rfl ?_
    show Steps p.tables e below (T2.setTop (mkF m 13 #[.val (.ref a1), .val (.double d1), .second] [(.double (0 : UInt64)), (.double d1)])) _
    refine XS.dcmpS X2.here hx rfl (hb hby d6_13) rfl rfl ?_
    show Steps p.tables e below (T2.setTop (mkF m 14 #[.val (.ref a1), .val (.double d1), .second] [(.int (cmpValue (FP.dcmp d1 (0 : UInt64)) .l))])) _
    refine XS.ifYes X2.here hx rfl (pc0 := 14) (pc' := 31) rfl (hb hby d6_14) rfl hpos (by decide) (by decide) ?_
    show Steps p.tables e below (T2.setTop (mkF m 31 #[.val (.ref a1), .val (.double d1), .second] [])) _
    refine XS.aloadN X2.here hx rfl (hb hby d6_31) rfl rfl ?_
    show Steps p.tables e below (T2.setTop (mkF m 32 #[.val (.ref a1), .val (.double d1), .second] [(.ref a1)])) _
    refine XS.dloadN X2.here hx rfl (hb hby d6_32) rfl ?_
    show Steps p.tables e below (T2.setTop (mkF m 33 #[.val (.ref a1), .val (.double d1), .second] [(.double d1), (.ref a1)])) _
    refine st3 _ ?_
    show Steps p.tables e below (T3.setTop (mkF m 36 #[.val (.ref a1), .val (.double d1), .second] [])) _
    exact X3.returnOut hx Bd.returns (hb hby d6_36) hr
  · show Q_idd Z a1 d1  h0 n0 _ T3.heap _
    rw [e3]
    exact ⟨rfl, Nn3, K3, q4, q3n⟩
theorem ef_fo (m : MethodId) (a1 : Addr) : entryFrame m #[(.ref a1)] 1 = (mkF m 0 #[.val (.ref a1)] []) := by first | (simp [entryFrame, mkF, argsToLocals, Value.category]; done) | rfl
def Q_fo (Z : State) (a1 : Addr) (d9 : UInt64) (h0 : Heap) (n0 : Nat) (v : Option Value) (h : Heap) (L : List Loc) : Prop := v = some (.double d9) ∧ Fr n0 L ∧ h = h0
set_option maxRecDepth 65536 in
set_option maxHeartbeats 40000000 in
theorem rm_fo (l : Launch) (Z : State) (a0 : Array Value) (hw : ∀ d ∈ tables_1, d.before a0 Z = true) (ws : List Jvm.Cond) (a1 : Addr) (d9 : UInt64) (h0 : Heap) (n0 : Nat) (Z0 : n0 ≤ h0.size) (k0_ : Fld Z h0 a1 "com/example/gavelflow/gavelflow/market/Discounting" "forceOfInterest" "D" (.double d9))   :
    MetFree l (⟨"com/example/gavelflow/gavelflow/market/Discounting", "forceOfInterest", "()D"⟩ : MethodName) (head1 (Jvm.Cond.code (⟨"com/example/gavelflow/gavelflow/market/Discounting", "forceOfInterest", "()D"⟩ : MethodName) prog_13_method_10_code 1 (some .double) :: ws) ({ frames := 0, cells := 0, slots := 0, locals := 0 } : Room)) (fun a U => a = #[(.ref a1)] ∧ Z.Warmed39 U.vm ∧ U.heap = h0) (fun _ _ _ _ _ => True) (fun _ U o U' => ∃ v L, o = .returned v ∧ Q_fo Z a1 d9 h0 n0 v U'.heap L ∧ FrameEnd U o U' L ({ frames := 0, cells := 0, slots := 0, locals := 0 } : Room).cells ({ frames := 0, cells := 0, slots := 0, locals := 0 } : Room).slots) := by
  refine MetFree.of_bodySF (plainFor_of_name pn_3) hisR ?_
  intro p e s m args below meth c s₁ Bd hml0 hP hK
  obtain ⟨rfl, hZ, hh⟩ := hP
  have hx := Bd.exec
  have hby := Bd.bytes
  have hml : c.maxLocals = 1 := hml0
  have hown : s.vm.findClass "com/example/gavelflow/gavelflow/market/Discounting" = some m.cls := findClass_of_methodNamed Bd.named
  have hnm := (name_of_methodNamed Bd.named Bd.method).1
  have X0 : Stand p l e ({ frames := 0, cells := 0, slots := 0, locals := 0 } : Room) s m #[(.ref a1)] below meth c s₁ [] 0 0 := Stand.of_body Bd
  have e0 : s₁.heap = h0 := by rw [← hh, Bd.state]; rfl
  have N0 := Fr.nil n0
  have pre0 : ∀ t, Steps p.tables e below (s₁.setTop (mkF m 0 #[.val (.ref a1)] [])) t → Steps p.tables e below (s₁.setTop (entryFrame m #[(.ref a1)] 1)) t := fun t k => castTop (ef_fo m a1) k
  obtain ⟨T1, X1, e1, st1⟩ := getF X0 hx hZ hown (host := "") (Or.inl (hw _ (List.mem_of_getElem? (i := 34) rfl))) Via.refl e0 k0_ (g := (mkF m 1 #[.val (.ref a1)] [(.ref a1)])) rfl rfl (hb hby d8_1)
  obtain ⟨fs, hr, hrun, hended, hW, hsame⟩ := X1.leave (v := some (.double d9)) (fun h => by rw [Bd.returns] at h; cases h)
  refine ⟨_, _, pre0 _ ?_, hrun, hended, _, _, rfl, ?_, ⟨_, rfl⟩, hW, hsame.mono (Nat.le_of_ble_eq_true rfl) (Nat.le_of_ble_eq_true rfl)⟩
  · show Steps p.tables e below (s₁.setTop (mkF m 0 #[.val (.ref a1)] [])) _
    refine XS.aloadN X0.here hx rfl (hb hby d8_0) rfl rfl ?_
    show Steps p.tables e below (s₁.setTop (mkF m 1 #[.val (.ref a1)] [(.ref a1)])) _
    refine st1 _ ?_
    show Steps p.tables e below (T1.setTop (mkF m 4 #[.val (.ref a1)] [(.double d9)])) _
    exact retOut X1 hx (t := .double) Bd.returns rfl (Or.inr (Or.inr (Or.inl ⟨rfl, rfl, _, rfl⟩))) (hb hby d8_4) hr
  · show Q_fo Z a1 d9 h0 n0 _ T1.heap _
    exact ⟨rfl, N0, e1⟩
theorem ef_dl (m : MethodId) (a1 : Addr) (a2 : Addr) : entryFrame m #[(.ref a1), (.ref a2)] 4 = (mkF m 0 #[.val (.ref a1), .val (.ref a2), .unset, .unset] []) := by first | (simp [entryFrame, mkF, argsToLocals, Value.category]; done) | rfl
def Q_dl (Z : State) (a1 : Addr) (a2 : Addr) (d8 : UInt64) (d9 : UInt64) (h0 : Heap) (n0 : Nat) (v : Option Value) (h : Heap) (L : List Loc) : Prop := v = some (.double (FP.ddiv d9 (FP.dadd d8 d9))) ∧ Fr n0 L ∧ h = h0
set_option maxRecDepth 65536 in
set_option maxHeartbeats 40000000 in
theorem rm_dl (l : Launch) (Z : State) (a0 : Array Value) (hw : ∀ d ∈ tables_1, d.before a0 Z = true) (ws : List Jvm.Cond) (a1 : Addr) (a2 : Addr) (d8 : UInt64) (d9 : UInt64) (h0 : Heap) (n0 : Nat) (Z0 : n0 ≤ h0.size) (k0_ : Exa Z h0 a2 "com/example/gavelflow/gavelflow/market/Discounting") (k1_ : Fld Z h0 a1 "com/example/gavelflow/gavelflow/market/PoissonArrivals" "rate" "D" (.double d8)) (k2_ : Fld Z h0 a2 "com/example/gavelflow/gavelflow/market/Discounting" "forceOfInterest" "D" (.double d9))  (nn11 : Jvm.Free.Fl.NoNaN64 (FP.dadd d8 d9)) (nn12 : Jvm.Free.Fl.NoNaN64 (FP.ddiv d9 (FP.dadd d8 d9))) :
    MetFree l (⟨"com/example/gavelflow/gavelflow/market/PoissonArrivals", "discountLostToNextArrival", "(Lcom/example/gavelflow/gavelflow/market/Discounting;)D"⟩ : MethodName) (head1 (Jvm.Cond.code (⟨"com/example/gavelflow/gavelflow/market/PoissonArrivals", "discountLostToNextArrival", "(Lcom/example/gavelflow/gavelflow/market/Discounting;)D"⟩ : MethodName) prog_18_method_3_code 4 (some .double) :: ws) ({ frames := 1, cells := 0, slots := 0, locals := 12 } : Room)) (fun a U => a = #[(.ref a1), (.ref a2)] ∧ Z.Warmed39 U.vm ∧ U.heap = h0) (fun _ _ _ _ _ => True) (fun _ U o U' => ∃ v L, o = .returned v ∧ Q_dl Z a1 a2 d8 d9 h0 n0 v U'.heap L ∧ FrameEnd U o U' L ({ frames := 1, cells := 0, slots := 0, locals := 12 } : Room).cells ({ frames := 1, cells := 0, slots := 0, locals := 12 } : Room).slots) := by
  refine MetFree.of_bodySF (plainFor_of_name pn_2) hisR ?_
  intro p e s m args below meth c s₁ Bd hml0 hP hK
  obtain ⟨rfl, hZ, hh⟩ := hP
  have hx := Bd.exec
  have hby := Bd.bytes
  have hml : c.maxLocals = 4 := hml0
  have hown : s.vm.findClass "com/example/gavelflow/gavelflow/market/PoissonArrivals" = some m.cls := findClass_of_methodNamed Bd.named
  have hnm := (name_of_methodNamed Bd.named Bd.method).1
  have X0 : Stand p l e ({ frames := 1, cells := 0, slots := 0, locals := 12 } : Room) s m #[(.ref a1), (.ref a2)] below meth c s₁ [] 0 0 := Stand.of_body Bd
  have e0 : s₁.heap = h0 := by rw [← hh, Bd.state]; rfl
  have N0 := Fr.nil n0
  have pre0 : ∀ t, Steps p.tables e below (s₁.setTop (mkF m 0 #[.val (.ref a1), .val (.ref a2), .unset, .unset] [])) t → Steps p.tables e below (s₁.setTop (entryFrame m #[(.ref a1), (.ref a2)] 4)) t := fun t k => castTop (ef_dl m a1 a2) k
  obtain ⟨cq1, kq1, qa1, qb1, qc1⟩ := isOf hZ e0 k0_
  obtain ⟨_, _, ⟨T1, L1, k1, n1⟩, -, X1, ⟨Lc1, hQ1, l1, y1, z1⟩, st1⟩ := X0.virtualBack hx (y := (⟨"com/example/gavelflow/gavelflow/market/Discounting", "forceOfInterest", "()D"⟩ : MethodName)) (z := (⟨"com/example/gavelflow/gavelflow/market/Discounting", "forceOfInterest", "()D"⟩ : MethodName)) hown (mvT hZ (hw _ (List.mem_of_getElem? (i := 41) rfl))) (mvT hZ (hw _ (List.mem_of_getElem? (i := 42) rfl))) (notFace_of_selects (args := #[]) (mvT hZ (hw _ (List.mem_of_getElem? (i := 44) rfl)))) (mvT hZ (hw _ (List.mem_of_getElem? (i := 44) rfl))) (mvT hZ (hw _ (List.mem_of_getElem? (i := 43) rfl))) (by decide) (backOf (W := 0) (rm_fo l Z a0 hw [] a2 d9 (h0) n0 Z0 k2_ ) hZ (hw _ (List.mem_of_getElem? (i := 45) rfl)) (hw _ (List.mem_of_getElem? (i := 28) rfl)) (by decide) (by decide)) qa1 qc1 (g := (mkF m 1 #[.val (.ref a1), .val (.ref a2), .unset, .unset] [(.ref a2)])) rfl (by rw [hml]; rfl) (Steps.refl _) (argsL := []) (rest := []) (lenOf pd_3 rfl) rfl (by show 2 * 0 + _ ≤ _; exact Nat.le_of_eq rfl) (hb hby d7_1) (fun _ _ => ⟨rfl, e0, (by decide : 0 + 0 ≤ _), (by decide : 0 + 0 ≤ _)⟩)
  dsimp only [Pt.U, Pt.locs, Pt.cells, Pt.slots] at X1 l1 y1 z1 st1 hQ1
  subst l1 y1 z1
  obtain ⟨rfl, N1, e1⟩ := hQ1
  have Nn1 := Fr.app N0 N1
  obtain ⟨T2, X2, e2, st2⟩ := getF X1 hx hZ hown (host := "") (Or.inl (hw _ (List.mem_of_getElem? (i := 24) rfl))) Via.refl e1 k1_ (g := (mkF m 7 #[.val (.ref a1), .val (.ref a2), .val (.double d9), .second] [(.ref a1), (.double d9)])) rfl rfl (hb hby d7_7)
  obtain ⟨fs, hr, hrun, hended, hW, hsame⟩ := X2.leave (v := some (.double (FP.ddiv d9 (FP.dadd d8 d9)))) (fun h => by rw [Bd.returns] at h; cases h)
  refine ⟨_, _, pre0 _ ?_, hrun, hended, _, _, rfl, ?_, ⟨_, rfl⟩, hW, hsame.mono (Nat.le_of_ble_eq_true rfl) (Nat.le_of_ble_eq_true rfl)⟩
  · show Steps p.tables e below (s₁.setTop (mkF m 0 #[.val (.ref a1), .val (.ref a2), .unset, .unset] [])) _
    refine XS.aloadN X0.here hx rfl (hb hby d7_0) rfl rfl ?_
    show Steps p.tables e below (s₁.setTop (mkF m 1 #[.val (.ref a1), .val (.ref a2), .unset, .unset] [(.ref a2)])) _
    refine st1.trans ?_
    show Steps p.tables e below (T1.setTop (mkF m 4 #[.val (.ref a1), .val (.ref a2), .unset, .unset] [(.double d9)])) _
    refine XS.dstoreN X1.here hx rfl (hb hby d7_4) rfl (l' := #[.val (.ref a1), .val (.ref a2), .val (.double d9), .second]) rfl ?_
    show Steps p.tables e below (T1.setTop (mkF m 5 #[.val (.ref a1), .val (.ref a2), .val (.double d9), .second] [])) _
    refine XS.dloadN X1.here hx rfl (hb hby d7_5) rfl ?_
    show Steps p.tables e below (T1.setTop (mkF m 6 #[.val (.ref a1), .val (.ref a2), .val (.double d9), .second] [(.double d9)])) _
    refine XS.aloadN X1.here hx rfl (hb hby d7_6) rfl rfl ?_
    show Steps p.tables e below (T1.setTop (mkF m 7 #[.val (.ref a1), .val (.ref a2), .val (.double d9), .second] [(.ref a1), (.double d9)])) _
    refine st2 _ ?_
    show Steps p.tables e below (T2.setTop (mkF m 10 #[.val (.ref a1), .val (.ref a2), .val (.double d9), .second] [(.double d8), (.double d9)])) _
    refine XS.dloadN X2.here hx rfl (hb hby d7_10) rfl ?_
    show Steps p.tables e below (T2.setTop (mkF m 11 #[.val (.ref a1), .val (.ref a2), .val (.double d9), .second] [(.double d9), (.double d8), (.double d9)])) _
    refine XS.daddS X2.here hx rfl (hb hby d7_11) rfl nn11 rfl ?_
    show Steps p.tables e below (T2.setTop (mkF m 12 #[.val (.ref a1), .val (.ref a2), .val (.double d9), .second] [(.double (FP.dadd d8 d9)), (.double d9)])) _
    refine XS.ddivS X2.here hx rfl (hb hby d7_12) rfl nn12 rfl ?_
    show Steps p.tables e below (T2.setTop (mkF m 13 #[.val (.ref a1), .val (.ref a2), .val (.double d9), .second] [(.double (FP.ddiv d9 (FP.dadd d8 d9)))])) _
    exact retOut X2 hx (t := .double) Bd.returns rfl (Or.inr (Or.inr (Or.inl ⟨rfl, rfl, _, rfl⟩))) (hb hby d7_13) hr
  · show Q_dl Z a1 a2 d8 d9 h0 n0 _ T2.heap _
    exact ⟨rfl, Nn1, e2⟩
theorem ef_dt (m : MethodId) (a1 : Addr) (a2 : Addr) : entryFrame m #[(.ref a1), (.ref a2)] 2 = (mkF m 0 #[.val (.ref a1), .val (.ref a2)] []) := by first | (simp [entryFrame, mkF, argsToLocals, Value.category]; done) | rfl
def Q_dt (Z : State) (a1 : Addr) (a2 : Addr) (d8 : UInt64) (d9 : UInt64) (h0 : Heap) (n0 : Nat) (v : Option Value) (h : Heap) (L : List Loc) : Prop := v = some (.double (FP.ddiv d8 (FP.dadd d8 d9))) ∧ Fr n0 L ∧ h = h0
set_option maxRecDepth 65536 in
set_option maxHeartbeats 40000000 in
theorem rm_dt (l : Launch) (Z : State) (a0 : Array Value) (hw : ∀ d ∈ tables_1, d.before a0 Z = true) (ws : List Jvm.Cond) (a1 : Addr) (a2 : Addr) (d8 : UInt64) (d9 : UInt64) (h0 : Heap) (n0 : Nat) (Z0 : n0 ≤ h0.size) (k0_ : Exa Z h0 a2 "com/example/gavelflow/gavelflow/market/Discounting") (k1_ : Fld Z h0 a1 "com/example/gavelflow/gavelflow/market/PoissonArrivals" "rate" "D" (.double d8)) (k2_ : Fld Z h0 a2 "com/example/gavelflow/gavelflow/market/Discounting" "forceOfInterest" "D" (.double d9))  (nn12 : Jvm.Free.Fl.NoNaN64 (FP.dadd d8 d9)) (nn13 : Jvm.Free.Fl.NoNaN64 (FP.ddiv d8 (FP.dadd d8 d9))) :
    MetFree l (⟨"com/example/gavelflow/gavelflow/market/PoissonArrivals", "discountToNextArrival", "(Lcom/example/gavelflow/gavelflow/market/Discounting;)D"⟩ : MethodName) (head1 (Jvm.Cond.code (⟨"com/example/gavelflow/gavelflow/market/PoissonArrivals", "discountToNextArrival", "(Lcom/example/gavelflow/gavelflow/market/Discounting;)D"⟩ : MethodName) prog_18_method_2_code 2 (some .double) :: ws) ({ frames := 1, cells := 0, slots := 0, locals := 16 } : Room)) (fun a U => a = #[(.ref a1), (.ref a2)] ∧ Z.Warmed39 U.vm ∧ U.heap = h0) (fun _ _ _ _ _ => True) (fun _ U o U' => ∃ v L, o = .returned v ∧ Q_dt Z a1 a2 d8 d9 h0 n0 v U'.heap L ∧ FrameEnd U o U' L ({ frames := 1, cells := 0, slots := 0, locals := 16 } : Room).cells ({ frames := 1, cells := 0, slots := 0, locals := 16 } : Room).slots) := by
  refine MetFree.of_bodySF (plainFor_of_name pn_2) hisR ?_
  intro p e s m args below meth c s₁ Bd hml0 hP hK
  obtain ⟨rfl, hZ, hh⟩ := hP
  have hx := Bd.exec
  have hby := Bd.bytes
  have hml : c.maxLocals = 2 := hml0
  have hown : s.vm.findClass "com/example/gavelflow/gavelflow/market/PoissonArrivals" = some m.cls := findClass_of_methodNamed Bd.named
  have hnm := (name_of_methodNamed Bd.named Bd.method).1
  have X0 : Stand p l e ({ frames := 1, cells := 0, slots := 0, locals := 16 } : Room) s m #[(.ref a1), (.ref a2)] below meth c s₁ [] 0 0 := Stand.of_body Bd
  have e0 : s₁.heap = h0 := by rw [← hh, Bd.state]; rfl
  have N0 := Fr.nil n0
  have pre0 : ∀ t, Steps p.tables e below (s₁.setTop (mkF m 0 #[.val (.ref a1), .val (.ref a2)] [])) t → Steps p.tables e below (s₁.setTop (entryFrame m #[(.ref a1), (.ref a2)] 2)) t := fun t k => castTop (ef_dt m a1 a2) k
  obtain ⟨T1, X1, e1, st1⟩ := getF X0 hx hZ hown (host := "") (Or.inl (hw _ (List.mem_of_getElem? (i := 24) rfl))) Via.refl e0 k1_ (g := (mkF m 1 #[.val (.ref a1), .val (.ref a2)] [(.ref a1)])) rfl rfl (hb hby d9_1)
  obtain ⟨T2, X2, e2, st2⟩ := getF X1 hx hZ hown (host := "") (Or.inl (hw _ (List.mem_of_getElem? (i := 24) rfl))) Via.refl e1 k1_ (g := (mkF m 5 #[.val (.ref a1), .val (.ref a2)] [(.ref a1), (.double d8)])) rfl rfl (hb hby d9_5)
  obtain ⟨cq3, kq3, qa3, qb3, qc3⟩ := isOf hZ e2 k0_
  obtain ⟨_, _, ⟨T3, L3, k3, n3⟩, -, X3, ⟨Lc3, hQ3, l3, y3, z3⟩, st3⟩ := X2.virtualBack hx (y := (⟨"com/example/gavelflow/gavelflow/market/Discounting", "forceOfInterest", "()D"⟩ : MethodName)) (z := (⟨"com/example/gavelflow/gavelflow/market/Discounting", "forceOfInterest", "()D"⟩ : MethodName)) hown (mvT hZ (hw _ (List.mem_of_getElem? (i := 41) rfl))) (mvT hZ (hw _ (List.mem_of_getElem? (i := 42) rfl))) (notFace_of_selects (args := #[]) (mvT hZ (hw _ (List.mem_of_getElem? (i := 44) rfl)))) (mvT hZ (hw _ (List.mem_of_getElem? (i := 44) rfl))) (mvT hZ (hw _ (List.mem_of_getElem? (i := 43) rfl))) (by decide) (backOf (W := 4) (rm_fo l Z a0 hw [] a2 d9 (h0) n0 Z0 k2_ ) hZ (hw _ (List.mem_of_getElem? (i := 45) rfl)) (hw _ (List.mem_of_getElem? (i := 28) rfl)) (by decide) (by decide)) qa3 qc3 (g := (mkF m 9 #[.val (.ref a1), .val (.ref a2)] [(.ref a2), (.double d8), (.double d8)])) rfl (by rw [hml]; rfl) (Steps.refl _) (argsL := []) (rest := [(.double d8), (.double d8)]) (lenOf pd_3 rfl) rfl (by show 2 * 0 + _ ≤ _; exact Nat.le_of_eq rfl) (hb hby d9_9) (fun _ _ => ⟨rfl, e2, (by decide : 0 + 0 ≤ _), (by decide : 0 + 0 ≤ _)⟩)
  dsimp only [Pt.U, Pt.locs, Pt.cells, Pt.slots] at X3 l3 y3 z3 st3 hQ3
  subst l3 y3 z3
  obtain ⟨rfl, N3, e3⟩ := hQ3
  have Nn3 := Fr.app N0 N3
  obtain ⟨fs, hr, hrun, hended, hW, hsame⟩ := X3.leave (v := some (.double (FP.ddiv d8 (FP.dadd d8 d9)))) (fun h => by rw [Bd.returns] at h; cases h)
  refine ⟨_, _, pre0 _ ?_, hrun, hended, _, _, rfl, ?_, ⟨_, rfl⟩, hW, hsame.mono (Nat.le_of_ble_eq_true rfl) (Nat.le_of_ble_eq_true rfl)⟩
  · show Steps p.tables e below (s₁.setTop (mkF m 0 #[.val (.ref a1), .val (.ref a2)] [])) _
    refine XS.aloadN X0.here hx rfl (hb hby d9_0) rfl rfl ?_
    show Steps p.tables e below (s₁.setTop (mkF m 1 #[.val (.ref a1), .val (.ref a2)] [(.ref a1)])) _
    refine st1 _ ?_
    show Steps p.tables e below (T1.setTop (mkF m 4 #[.val (.ref a1), .val (.ref a2)] [(.double d8)])) _
    refine XS.aloadN X1.here hx rfl (hb hby d9_4) rfl rfl ?_
    show Steps p.tables e below (T1.setTop (mkF m 5 #[.val (.ref a1), .val (.ref a2)] [(.ref a1), (.double d8)])) _
    refine st2 _ ?_
    show Steps p.tables e below (T2.setTop (mkF m 8 #[.val (.ref a1), .val (.ref a2)] [(.double d8), (.double d8)])) _
    refine XS.aloadN X2.here hx rfl (hb hby d9_8) rfl rfl ?_
    show Steps p.tables e below (T2.setTop (mkF m 9 #[.val (.ref a1), .val (.ref a2)] [(.ref a2), (.double d8), (.double d8)])) _
    refine st3.trans ?_
    show Steps p.tables e below (T3.setTop (mkF m 12 #[.val (.ref a1), .val (.ref a2)] [(.double d9), (.double d8), (.double d8)])) _
    refine XS.daddS X3.here hx rfl (hb hby d9_12) rfl nn12 rfl ?_
    show Steps p.tables e below (T3.setTop (mkF m 13 #[.val (.ref a1), .val (.ref a2)] [(.double (FP.dadd d8 d9)), (.double d8)])) _
    refine XS.ddivS X3.here hx rfl (hb hby d9_13) rfl nn13 rfl ?_
    show Steps p.tables e below (T3.setTop (mkF m 14 #[.val (.ref a1), .val (.ref a2)] [(.double (FP.ddiv d8 (FP.dadd d8 d9)))])) _
    exact retOut X3 hx (t := .double) Bd.returns rfl (Or.inr (Or.inr (Or.inl ⟨rfl, rfl, _, rfl⟩))) (hb hby d9_14) hr
  · show Q_dt Z a1 a2 d8 d9 h0 n0 _ T3.heap _
    exact ⟨rfl, Nn3, e3⟩
theorem ef_lw (m : MethodId) (p1 : Int32) (p2 : Int32) (p3 : Int32) : entryFrame m #[(.int p1), (.int p2), (.int p3)] maxLocals = (mkF m 0 #[.val (.int p1), .val (.int p2), .val (.int p3), .unset, .unset, .unset, .unset, .unset, .unset, .unset, .unset, .unset, .unset, .unset, .unset, .unset, .unset, .unset, .unset] []) := by first | (simp [entryFrame, mkF, argsToLocals, Value.category, maxLocals]; done) | rfl
def Q_lw (Z : State) (p1 : Int32) (p2 : Int32) (p3 : Int32)  (h0 : Heap) (n0 : Nat) (v : Option Value) (h : Heap) (L : List Loc) : Prop := v = some (.int 1) ∧ Fr n0 L
set_option maxRecDepth 65536 in
set_option maxHeartbeats 40000000 in
theorem rm_lw (l : Launch) (Z : State) (a0 : Array Value) (hw : ∀ d ∈ tables_1, d.before a0 Z = true) (ws : List Jvm.Cond) (p1 : Int32) (p2 : Int32) (p3 : Int32)  (h0 : Heap) (n0 : Nat) (Z0 : n0 ≤ h0.size)    :
    MetFree l x (head1 (Jvm.Cond.code x code maxLocals ret :: ws) room_1) (fun a U => a = #[(.int p1), (.int p2), (.int p3)] ∧ Z.Warmed39 U.vm ∧ U.heap = h0) (fun _ _ _ _ _ => True) (fun _ U o U' => ∃ v L, o = .returned v ∧ Q_lw Z p1 p2 p3  h0 n0 v U'.heap L ∧ FrameEnd U o U' L 4 4) := by
  refine MetFree.of_bodySF (plainFor_of_name pn_4) hisR ?_
  intro p e s m args below meth c s₁ Bd hml0 hP hK
  obtain ⟨rfl, hZ, hh⟩ := hP
  have hx := Bd.exec
  have hby := Bd.bytes
  have hml : c.maxLocals = 19 := hml0
  have hown : s.vm.findClass "com/example/gavelflow/gavelflow/market/PoissonArrivalsDiscountLostToNextArrivalPinLaw" = some m.cls := findClass_of_methodNamed Bd.named
  have hnm := (name_of_methodNamed Bd.named Bd.method).1
  have X0 : Stand p l e room_1 s m #[(.int p1), (.int p2), (.int p3)] below meth c s₁ [] 0 0 := Stand.of_body Bd
  have e0 : s₁.heap = h0 := by rw [← hh, Bd.state]; rfl
  have N0 := Fr.nil n0
  have pre0 : ∀ t, Steps p.tables e below (s₁.setTop (mkF m 0 #[.val (.int p1), .val (.int p2), .val (.int p3), .unset, .unset, .unset, .unset, .unset, .unset, .unset, .unset, .unset, .unset, .unset, .unset, .unset, .unset, .unset, .unset] [])) t → Steps p.tables e below (s₁.setTop (entryFrame m #[(.int p1), (.int p2), (.int p3)] maxLocals)) t := fun t k => castTop (ef_lw m p1 p2 p3) k
  obtain ⟨T3, h3, X3, e3, E3, A3, D3, -, st3⟩ := newO X0 hx hZ hown (hw _ (List.mem_of_getElem? (i := 1) rfl)) (hw _ (List.mem_of_getElem? (i := 2) rfl)) (hw _ (List.mem_of_getElem? (i := 3) rfl)) e0 (g := (mkF m 45 #[.val (.int p1), .val (.int p2), .val (.int p3), .val (.int (lw_r p1 p2 p3)), .val (.int (lw_d p1 p2 p3)), .val (.double (lw_scale p1 p2 p3)), .second, .val (.double (lw_rate p1 p2 p3)), .second, .val (.double (lw_delta p1 p2 p3)), .second, .unset, .unset, .unset, .unset, .unset, .unset, .unset, .unset] [])) rfl (hb hby at_45) (by decide) (by decide)
  obtain ⟨ad3, g3⟩ : ∃ z, z = (h0).size := ⟨_, rfl⟩
  rw [← g3] at A3 D3 st3
  have F3_0 : Fld Z h3 ad3 "com/example/gavelflow/gavelflow/market/PoissonArrivals" "rate" "D" (.double (0 : UInt64)) := (D3 (Or.inr (hw _ (List.mem_of_getElem? (i := 25) rfl))) (ty := .double) (by decide))
  have Z3 : n0 ≤ h3.size := Nat.le_trans Z0 E3.1
  have gn3 : n0 ≤ ad3 := Nat.le_trans Z0 (Nat.le_of_eq g3.symm)
  obtain ⟨_, _, ⟨T4, L4, k4, n4⟩, -, X4, ⟨Lc4, hQ4, l4, y4, z4⟩, st4⟩ := X3.specialBack hx (y := (⟨"com/example/gavelflow/gavelflow/market/PoissonArrivals", "<init>", "(D)V"⟩ : MethodName)) rfl hown (mvT hZ (hw _ (List.mem_of_getElem? (i := 4) rfl))) (mvT hZ (hw _ (List.mem_of_getElem? (i := 5) rfl))) (mvT hZ (hw _ (List.mem_of_getElem? (i := 6) rfl))) (by decide) (backOf (W := 1) (rm_ip l Z a0 hw [] ad3 (lw_rate p1 p2 p3)  (h3) n0 Z3 F3_0 A3 gn3 (own_ok (own_rate p1 p2 p3).1 (own_rate p1 p2 p3).2).1 (own_ok (own_rate p1 p2 p3).1 (own_rate p1 p2 p3).2).2.1 (own_ok (own_rate p1 p2 p3).1 (own_rate p1 p2 p3).2).2.2) hZ (hw _ (List.mem_of_getElem? (i := 6) rfl)) (hw _ (List.mem_of_getElem? (i := 3) rfl)) (by decide) (by decide)) (g := (mkF m 51 #[.val (.int p1), .val (.int p2), .val (.int p3), .val (.int (lw_r p1 p2 p3)), .val (.int (lw_d p1 p2 p3)), .val (.double (lw_scale p1 p2 p3)), .second, .val (.double (lw_rate p1 p2 p3)), .second, .val (.double (lw_delta p1 p2 p3)), .second, .unset, .unset, .unset, .unset, .unset, .unset, .unset, .unset] [(.double (lw_rate p1 p2 p3)), (.ref ad3), (.ref ad3)])) rfl (by rw [hml]; rfl) (Steps.refl _) (a := ad3) (argsL := [(.double (lw_rate p1 p2 p3))]) (rest := [(.ref ad3)]) (lenOf pd_4 rfl) rfl (by show 2 * 0 + _ ≤ _; exact Nat.le_of_eq rfl) (hb hby at_51) (fun _ _ => ⟨rfl, e3, (by decide : 1 + 0 ≤ _), (by decide : 1 + 0 ≤ _)⟩)
  dsimp only [Pt.U, Pt.locs, Pt.cells, Pt.slots] at X4 l4 y4 z4 st4 hQ4
  subst l4 y4 z4
  obtain ⟨rfl, N4, K4, p4_0, p4_1⟩ := hQ4
  have Nn4 := Fr.app N0 N4
  have Z4 : n0 ≤ T4.heap.size := Nat.le_trans Z3 K4.1
  obtain ⟨T5, h5, X5, e5, E5, A5, D5, -, st5⟩ := newO X4 hx hZ hown (hw _ (List.mem_of_getElem? (i := 26) rfl)) (hw _ (List.mem_of_getElem? (i := 27) rfl)) (hw _ (List.mem_of_getElem? (i := 28) rfl)) rfl (g := (mkF m 58 #[.val (.int p1), .val (.int p2), .val (.int p3), .val (.int (lw_r p1 p2 p3)), .val (.int (lw_d p1 p2 p3)), .val (.double (lw_scale p1 p2 p3)), .second, .val (.double (lw_rate p1 p2 p3)), .second, .val (.double (lw_delta p1 p2 p3)), .second, .val (.ref ad3), .unset, .unset, .unset, .unset, .unset, .unset, .unset] [(.ref ad3)])) rfl (hb hby at_58) (by decide) (by decide)
  obtain ⟨ad5, g5⟩ : ∃ z, z = (T4.heap).size := ⟨_, rfl⟩
  rw [← g5] at A5 D5 st5
  have ne_ad3_ad5 : ad3 ≠ ad5 := Nat.ne_of_lt (Nat.lt_of_lt_of_le (p4_0.lt) (Nat.le_of_eq g5.symm))
  have q6 : Exa Z h5 ad3 "com/example/gavelflow/gavelflow/market/PoissonArrivals" := (p4_0.ext E5)
  have q7 : Fld Z h5 ad3 "com/example/gavelflow/gavelflow/market/PoissonArrivals" "rate" "D" (.double (lw_rate p1 p2 p3)) := (p4_1.ext E5)
  have F5_0 : Fld Z h5 ad5 "com/example/gavelflow/gavelflow/market/Discounting" "forceOfInterest" "D" (.double (0 : UInt64)) := (D5 (Or.inr (hw _ (List.mem_of_getElem? (i := 35) rfl))) (ty := .double) (by decide))
  have Z5 : n0 ≤ h5.size := Nat.le_trans Z4 E5.1
  have gn5 : n0 ≤ ad5 := Nat.le_trans Z4 (Nat.le_of_eq g5.symm)
  obtain ⟨_, _, ⟨T8, L8, k8, n8⟩, -, X8, ⟨Lc8, hQ8, l8, y8, z8⟩, st8⟩ := X5.specialBack hx (y := (⟨"com/example/gavelflow/gavelflow/market/Discounting", "<init>", "(D)V"⟩ : MethodName)) rfl hown (mvT hZ (hw _ (List.mem_of_getElem? (i := 29) rfl))) (mvT hZ (hw _ (List.mem_of_getElem? (i := 30) rfl))) (mvT hZ (hw _ (List.mem_of_getElem? (i := 31) rfl))) (by decide) (backOf (W := 2) (rm_idd l Z a0 hw [] ad5 (lw_delta p1 p2 p3)  (h5) n0 Z5 F5_0 A5 gn5 (own_ok (own_delta p1 p2 p3).1 (own_delta p1 p2 p3).2).1 (own_ok (own_delta p1 p2 p3).1 (own_delta p1 p2 p3).2).2.1 (own_ok (own_delta p1 p2 p3).1 (own_delta p1 p2 p3).2).2.2) hZ (hw _ (List.mem_of_getElem? (i := 31) rfl)) (hw _ (List.mem_of_getElem? (i := 28) rfl)) (by decide) (by decide)) (g := (mkF m 64 #[.val (.int p1), .val (.int p2), .val (.int p3), .val (.int (lw_r p1 p2 p3)), .val (.int (lw_d p1 p2 p3)), .val (.double (lw_scale p1 p2 p3)), .second, .val (.double (lw_rate p1 p2 p3)), .second, .val (.double (lw_delta p1 p2 p3)), .second, .val (.ref ad3), .unset, .unset, .unset, .unset, .unset, .unset, .unset] [(.double (lw_delta p1 p2 p3)), (.ref ad5), (.ref ad5), (.ref ad3)])) rfl (by rw [hml]; rfl) (Steps.refl _) (a := ad5) (argsL := [(.double (lw_delta p1 p2 p3))]) (rest := [(.ref ad5), (.ref ad3)]) (lenOf pd_4 rfl) rfl (by show 2 * 0 + _ ≤ _; exact Nat.le_of_eq rfl) (hb hby at_64) (fun _ _ => ⟨rfl, e5, (by decide : 2 + 0 ≤ _), (by decide : 2 + 0 ≤ _)⟩)
  dsimp only [Pt.U, Pt.locs, Pt.cells, Pt.slots] at X8 l8 y8 z8 st8 hQ8
  subst l8 y8 z8
  obtain ⟨rfl, N8, K8, p8_0, p8_1⟩ := hQ8
  have Nn8 := Fr.app Nn4 N8
  have q9 : Exa Z T8.heap ad3 "com/example/gavelflow/gavelflow/market/PoissonArrivals" := (q6.keep K8)
  have q10 : Fld Z T8.heap ad3 "com/example/gavelflow/gavelflow/market/PoissonArrivals" "rate" "D" (.double (lw_rate p1 p2 p3)) := (q7.keep K8 (fun q => ne_ad3_ad5 (List.mem_singleton.mp q)))
  have Z8 : n0 ≤ T8.heap.size := Nat.le_trans Z5 K8.1
  obtain ⟨cq11, kq11, qa11, qb11, qc11⟩ := isOf hZ rfl q9
  obtain ⟨_, _, ⟨T11, L11, k11, n11⟩, -, X11, ⟨Lc11, hQ11, l11, y11, z11⟩, st11⟩ := X8.virtualBack hx (y := (⟨"com/example/gavelflow/gavelflow/market/PoissonArrivals", "discountLostToNextArrival", "(Lcom/example/gavelflow/gavelflow/market/Discounting;)D"⟩ : MethodName)) (z := (⟨"com/example/gavelflow/gavelflow/market/PoissonArrivals", "discountLostToNextArrival", "(Lcom/example/gavelflow/gavelflow/market/Discounting;)D"⟩ : MethodName)) hown (mvT hZ (hw _ (List.mem_of_getElem? (i := 36) rfl))) (mvT hZ (hw _ (List.mem_of_getElem? (i := 37) rfl))) (notFace_of_selects (args := #[]) (mvT hZ (hw _ (List.mem_of_getElem? (i := 39) rfl)))) (mvT hZ (hw _ (List.mem_of_getElem? (i := 39) rfl))) (mvT hZ (hw _ (List.mem_of_getElem? (i := 38) rfl))) (by decide) (backOf (W := 0) (rm_dl l Z a0 hw [] ad3 ad5 (lw_rate p1 p2 p3) (lw_delta p1 p2 p3) (T8.heap) n0 Z8 p8_0 q10 p8_1 (own_sum p1 p2 p3).nn (own_lost p1 p2 p3).1) hZ (hw _ (List.mem_of_getElem? (i := 40) rfl)) (hw _ (List.mem_of_getElem? (i := 3) rfl)) (by decide) (by decide)) qa11 qc11 (g := (mkF m 67 #[.val (.int p1), .val (.int p2), .val (.int p3), .val (.int (lw_r p1 p2 p3)), .val (.int (lw_d p1 p2 p3)), .val (.double (lw_scale p1 p2 p3)), .second, .val (.double (lw_rate p1 p2 p3)), .second, .val (.double (lw_delta p1 p2 p3)), .second, .val (.ref ad3), .unset, .unset, .unset, .unset, .unset, .unset, .unset] [(.ref ad5), (.ref ad3)])) rfl (by rw [hml]; rfl) (Steps.refl _) (argsL := [(.ref ad5)]) (rest := []) (lenOf pd_5 rfl) rfl (by show 2 * 0 + _ ≤ _; exact Nat.le_of_eq rfl) (hb hby at_67) (fun _ _ => ⟨rfl, rfl, (by decide : 2 + 0 ≤ _), (by decide : 2 + 0 ≤ _)⟩)
  dsimp only [Pt.U, Pt.locs, Pt.cells, Pt.slots] at X11 l11 y11 z11 st11 hQ11
  subst l11 y11 z11
  obtain ⟨rfl, N11, e11⟩ := hQ11
  have Nn11 := Fr.app Nn8 N11
  obtain ⟨T12, h12, X12, e12, E12, A12, D12, -, st12⟩ := newO X11 hx hZ hown (hw _ (List.mem_of_getElem? (i := 1) rfl)) (hw _ (List.mem_of_getElem? (i := 2) rfl)) (hw _ (List.mem_of_getElem? (i := 3) rfl)) e11 (g := (mkF m 72 #[.val (.int p1), .val (.int p2), .val (.int p3), .val (.int (lw_r p1 p2 p3)), .val (.int (lw_d p1 p2 p3)), .val (.double (lw_scale p1 p2 p3)), .second, .val (.double (lw_rate p1 p2 p3)), .second, .val (.double (lw_delta p1 p2 p3)), .second, .val (.ref ad3), .val (.double (lw_lost p1 p2 p3)), .second, .unset, .unset, .unset, .unset, .unset] [])) rfl (hb hby at_72) (by decide) (by decide)
  obtain ⟨ad12, g12⟩ : ∃ z, z = (T8.heap).size := ⟨_, rfl⟩
  rw [← g12] at A12 D12 st12
  have ne_ad3_ad12 : ad3 ≠ ad12 := Nat.ne_of_lt (Nat.lt_of_lt_of_le (q9.lt) (Nat.le_of_eq g12.symm))
  have ne_ad5_ad12 : ad5 ≠ ad12 := Nat.ne_of_lt (Nat.lt_of_lt_of_le (p8_0.lt) (Nat.le_of_eq g12.symm))
  have q13 : Exa Z h12 ad3 "com/example/gavelflow/gavelflow/market/PoissonArrivals" := (q9.ext E12)
  have q14 : Fld Z h12 ad3 "com/example/gavelflow/gavelflow/market/PoissonArrivals" "rate" "D" (.double (lw_rate p1 p2 p3)) := (q10.ext E12)
  have q15 : Exa Z h12 ad5 "com/example/gavelflow/gavelflow/market/Discounting" := (p8_0.ext E12)
  have q16 : Fld Z h12 ad5 "com/example/gavelflow/gavelflow/market/Discounting" "forceOfInterest" "D" (.double (lw_delta p1 p2 p3)) := (p8_1.ext E12)
  have F12_0 : Fld Z h12 ad12 "com/example/gavelflow/gavelflow/market/PoissonArrivals" "rate" "D" (.double (0 : UInt64)) := (D12 (Or.inr (hw _ (List.mem_of_getElem? (i := 25) rfl))) (ty := .double) (by decide))
  have Z12 : n0 ≤ h12.size := Nat.le_trans Z8 E12.1
  have gn12 : n0 ≤ ad12 := Nat.le_trans Z8 (Nat.le_of_eq g12.symm)
  obtain ⟨_, _, ⟨T17, L17, k17, n17⟩, -, X17, ⟨Lc17, hQ17, l17, y17, z17⟩, st17⟩ := X12.specialBack hx (y := (⟨"com/example/gavelflow/gavelflow/market/PoissonArrivals", "<init>", "(D)V"⟩ : MethodName)) rfl hown (mvT hZ (hw _ (List.mem_of_getElem? (i := 4) rfl))) (mvT hZ (hw _ (List.mem_of_getElem? (i := 5) rfl))) (mvT hZ (hw _ (List.mem_of_getElem? (i := 6) rfl))) (by decide) (backOf (W := 1) (rm_ip l Z a0 hw [] ad12 (lw_delta p1 p2 p3)  (h12) n0 Z12 F12_0 A12 gn12 (own_ok (own_delta p1 p2 p3).1 (own_delta p1 p2 p3).2).1 (own_ok (own_delta p1 p2 p3).1 (own_delta p1 p2 p3).2).2.1 (own_ok (own_delta p1 p2 p3).1 (own_delta p1 p2 p3).2).2.2) hZ (hw _ (List.mem_of_getElem? (i := 6) rfl)) (hw _ (List.mem_of_getElem? (i := 3) rfl)) (by decide) (by decide)) (g := (mkF m 78 #[.val (.int p1), .val (.int p2), .val (.int p3), .val (.int (lw_r p1 p2 p3)), .val (.int (lw_d p1 p2 p3)), .val (.double (lw_scale p1 p2 p3)), .second, .val (.double (lw_rate p1 p2 p3)), .second, .val (.double (lw_delta p1 p2 p3)), .second, .val (.ref ad3), .val (.double (lw_lost p1 p2 p3)), .second, .unset, .unset, .unset, .unset, .unset] [(.double (lw_delta p1 p2 p3)), (.ref ad12), (.ref ad12)])) rfl (by rw [hml]; rfl) (Steps.refl _) (a := ad12) (argsL := [(.double (lw_delta p1 p2 p3))]) (rest := [(.ref ad12)]) (lenOf pd_4 rfl) rfl (by show 2 * 0 + _ ≤ _; exact Nat.le_of_eq rfl) (hb hby at_78) (fun _ _ => ⟨rfl, e12, (by decide : 3 + 0 ≤ _), (by decide : 3 + 0 ≤ _)⟩)
  dsimp only [Pt.U, Pt.locs, Pt.cells, Pt.slots] at X17 l17 y17 z17 st17 hQ17
  subst l17 y17 z17
  obtain ⟨rfl, N17, K17, p17_0, p17_1⟩ := hQ17
  have Nn17 := Fr.app Nn11 N17
  have q18 : Exa Z T17.heap ad3 "com/example/gavelflow/gavelflow/market/PoissonArrivals" := (q13.keep K17)
  have q19 : Fld Z T17.heap ad3 "com/example/gavelflow/gavelflow/market/PoissonArrivals" "rate" "D" (.double (lw_rate p1 p2 p3)) := (q14.keep K17 (fun q => ne_ad3_ad12 (List.mem_singleton.mp q)))
  have q20 : Exa Z T17.heap ad5 "com/example/gavelflow/gavelflow/market/Discounting" := (q15.keep K17)
  have q21 : Fld Z T17.heap ad5 "com/example/gavelflow/gavelflow/market/Discounting" "forceOfInterest" "D" (.double (lw_delta p1 p2 p3)) := (q16.keep K17 (fun q => ne_ad5_ad12 (List.mem_singleton.mp q)))
  have Z17 : n0 ≤ T17.heap.size := Nat.le_trans Z12 K17.1
  obtain ⟨T22, h22, X22, e22, E22, A22, D22, -, st22⟩ := newO X17 hx hZ hown (hw _ (List.mem_of_getElem? (i := 26) rfl)) (hw _ (List.mem_of_getElem? (i := 27) rfl)) (hw _ (List.mem_of_getElem? (i := 28) rfl)) rfl (g := (mkF m 85 #[.val (.int p1), .val (.int p2), .val (.int p3), .val (.int (lw_r p1 p2 p3)), .val (.int (lw_d p1 p2 p3)), .val (.double (lw_scale p1 p2 p3)), .second, .val (.double (lw_rate p1 p2 p3)), .second, .val (.double (lw_delta p1 p2 p3)), .second, .val (.ref ad3), .val (.double (lw_lost p1 p2 p3)), .second, .val (.ref ad12), .unset, .unset, .unset, .unset] [(.ref ad12)])) rfl (hb hby at_85) (by decide) (by decide)
  obtain ⟨ad22, g22⟩ : ∃ z, z = (T17.heap).size := ⟨_, rfl⟩
  rw [← g22] at A22 D22 st22
  have ne_ad3_ad22 : ad3 ≠ ad22 := Nat.ne_of_lt (Nat.lt_of_lt_of_le (q18.lt) (Nat.le_of_eq g22.symm))
  have ne_ad5_ad22 : ad5 ≠ ad22 := Nat.ne_of_lt (Nat.lt_of_lt_of_le (q20.lt) (Nat.le_of_eq g22.symm))
  have ne_ad12_ad22 : ad12 ≠ ad22 := Nat.ne_of_lt (Nat.lt_of_lt_of_le (p17_0.lt) (Nat.le_of_eq g22.symm))
  have q23 : Exa Z h22 ad3 "com/example/gavelflow/gavelflow/market/PoissonArrivals" := (q18.ext E22)
  have q24 : Fld Z h22 ad3 "com/example/gavelflow/gavelflow/market/PoissonArrivals" "rate" "D" (.double (lw_rate p1 p2 p3)) := (q19.ext E22)
  have q25 : Exa Z h22 ad5 "com/example/gavelflow/gavelflow/market/Discounting" := (q20.ext E22)
  have q26 : Fld Z h22 ad5 "com/example/gavelflow/gavelflow/market/Discounting" "forceOfInterest" "D" (.double (lw_delta p1 p2 p3)) := (q21.ext E22)
  have q27 : Exa Z h22 ad12 "com/example/gavelflow/gavelflow/market/PoissonArrivals" := (p17_0.ext E22)
  have q28 : Fld Z h22 ad12 "com/example/gavelflow/gavelflow/market/PoissonArrivals" "rate" "D" (.double (lw_delta p1 p2 p3)) := (p17_1.ext E22)
  have F22_0 : Fld Z h22 ad22 "com/example/gavelflow/gavelflow/market/Discounting" "forceOfInterest" "D" (.double (0 : UInt64)) := (D22 (Or.inr (hw _ (List.mem_of_getElem? (i := 35) rfl))) (ty := .double) (by decide))
  have Z22 : n0 ≤ h22.size := Nat.le_trans Z17 E22.1
  have gn22 : n0 ≤ ad22 := Nat.le_trans Z17 (Nat.le_of_eq g22.symm)
  obtain ⟨_, _, ⟨T29, L29, k29, n29⟩, -, X29, ⟨Lc29, hQ29, l29, y29, z29⟩, st29⟩ := X22.specialBack hx (y := (⟨"com/example/gavelflow/gavelflow/market/Discounting", "<init>", "(D)V"⟩ : MethodName)) rfl hown (mvT hZ (hw _ (List.mem_of_getElem? (i := 29) rfl))) (mvT hZ (hw _ (List.mem_of_getElem? (i := 30) rfl))) (mvT hZ (hw _ (List.mem_of_getElem? (i := 31) rfl))) (by decide) (backOf (W := 2) (rm_idd l Z a0 hw [] ad22 (lw_rate p1 p2 p3)  (h22) n0 Z22 F22_0 A22 gn22 (own_ok (own_rate p1 p2 p3).1 (own_rate p1 p2 p3).2).1 (own_ok (own_rate p1 p2 p3).1 (own_rate p1 p2 p3).2).2.1 (own_ok (own_rate p1 p2 p3).1 (own_rate p1 p2 p3).2).2.2) hZ (hw _ (List.mem_of_getElem? (i := 31) rfl)) (hw _ (List.mem_of_getElem? (i := 28) rfl)) (by decide) (by decide)) (g := (mkF m 91 #[.val (.int p1), .val (.int p2), .val (.int p3), .val (.int (lw_r p1 p2 p3)), .val (.int (lw_d p1 p2 p3)), .val (.double (lw_scale p1 p2 p3)), .second, .val (.double (lw_rate p1 p2 p3)), .second, .val (.double (lw_delta p1 p2 p3)), .second, .val (.ref ad3), .val (.double (lw_lost p1 p2 p3)), .second, .val (.ref ad12), .unset, .unset, .unset, .unset] [(.double (lw_rate p1 p2 p3)), (.ref ad22), (.ref ad22), (.ref ad12)])) rfl (by rw [hml]; rfl) (Steps.refl _) (a := ad22) (argsL := [(.double (lw_rate p1 p2 p3))]) (rest := [(.ref ad22), (.ref ad12)]) (lenOf pd_4 rfl) rfl (by show 2 * 0 + _ ≤ _; exact Nat.le_of_eq rfl) (hb hby at_91) (fun _ _ => ⟨rfl, e22, (by decide : 4 + 0 ≤ _), (by decide : 4 + 0 ≤ _)⟩)
  dsimp only [Pt.U, Pt.locs, Pt.cells, Pt.slots] at X29 l29 y29 z29 st29 hQ29
  subst l29 y29 z29
  obtain ⟨rfl, N29, K29, p29_0, p29_1⟩ := hQ29
  have Nn29 := Fr.app Nn17 N29
  have q30 : Exa Z T29.heap ad3 "com/example/gavelflow/gavelflow/market/PoissonArrivals" := (q23.keep K29)
  have q31 : Fld Z T29.heap ad3 "com/example/gavelflow/gavelflow/market/PoissonArrivals" "rate" "D" (.double (lw_rate p1 p2 p3)) := (q24.keep K29 (fun q => ne_ad3_ad22 (List.mem_singleton.mp q)))
  have q32 : Exa Z T29.heap ad5 "com/example/gavelflow/gavelflow/market/Discounting" := (q25.keep K29)
  have q33 : Fld Z T29.heap ad5 "com/example/gavelflow/gavelflow/market/Discounting" "forceOfInterest" "D" (.double (lw_delta p1 p2 p3)) := (q26.keep K29 (fun q => ne_ad5_ad22 (List.mem_singleton.mp q)))
  have q34 : Exa Z T29.heap ad12 "com/example/gavelflow/gavelflow/market/PoissonArrivals" := (q27.keep K29)
  have q35 : Fld Z T29.heap ad12 "com/example/gavelflow/gavelflow/market/PoissonArrivals" "rate" "D" (.double (lw_delta p1 p2 p3)) := (q28.keep K29 (fun q => ne_ad12_ad22 (List.mem_singleton.mp q)))
  have Z29 : n0 ≤ T29.heap.size := Nat.le_trans Z22 K29.1
  obtain ⟨cq36, kq36, qa36, qb36, qc36⟩ := isOf hZ rfl q34
  obtain ⟨_, _, ⟨T36, L36, k36, n36⟩, -, X36, ⟨Lc36, hQ36, l36, y36, z36⟩, st36⟩ := X29.virtualBack hx (y := (⟨"com/example/gavelflow/gavelflow/market/PoissonArrivals", "discountToNextArrival", "(Lcom/example/gavelflow/gavelflow/market/Discounting;)D"⟩ : MethodName)) (z := (⟨"com/example/gavelflow/gavelflow/market/PoissonArrivals", "discountToNextArrival", "(Lcom/example/gavelflow/gavelflow/market/Discounting;)D"⟩ : MethodName)) hown (mvT hZ (hw _ (List.mem_of_getElem? (i := 46) rfl))) (mvT hZ (hw _ (List.mem_of_getElem? (i := 47) rfl))) (notFace_of_selects (args := #[]) (mvT hZ (hw _ (List.mem_of_getElem? (i := 49) rfl)))) (mvT hZ (hw _ (List.mem_of_getElem? (i := 49) rfl))) (mvT hZ (hw _ (List.mem_of_getElem? (i := 48) rfl))) (by decide) (backOf (W := 0) (rm_dt l Z a0 hw [] ad12 ad22 (lw_delta p1 p2 p3) (lw_rate p1 p2 p3) (T29.heap) n0 Z29 p29_0 q35 p29_1 (own_sum2 p1 p2 p3).nn (own_gain p1 p2 p3).1) hZ (hw _ (List.mem_of_getElem? (i := 50) rfl)) (hw _ (List.mem_of_getElem? (i := 3) rfl)) (by decide) (by decide)) qa36 qc36 (g := (mkF m 94 #[.val (.int p1), .val (.int p2), .val (.int p3), .val (.int (lw_r p1 p2 p3)), .val (.int (lw_d p1 p2 p3)), .val (.double (lw_scale p1 p2 p3)), .second, .val (.double (lw_rate p1 p2 p3)), .second, .val (.double (lw_delta p1 p2 p3)), .second, .val (.ref ad3), .val (.double (lw_lost p1 p2 p3)), .second, .val (.ref ad12), .unset, .unset, .unset, .unset] [(.ref ad22), (.ref ad12)])) rfl (by rw [hml]; rfl) (Steps.refl _) (argsL := [(.ref ad22)]) (rest := []) (lenOf pd_5 rfl) rfl (by show 2 * 0 + _ ≤ _; exact Nat.le_of_eq rfl) (hb hby at_94) (fun _ _ => ⟨rfl, rfl, (by decide : 4 + 0 ≤ _), (by decide : 4 + 0 ≤ _)⟩)
  dsimp only [Pt.U, Pt.locs, Pt.cells, Pt.slots] at X36 l36 y36 z36 st36 hQ36
  subst l36 y36 z36
  obtain ⟨rfl, N36, e36⟩ := hQ36
  have Nn36 := Fr.app Nn29 N36
  obtain ⟨fs, hr, hrun, hended, hW, hsame⟩ := X36.leave (v := some (.int (1 : Int32))) (fun h => by rw [Bd.returns] at h; cases h)
  refine ⟨_, _, pre0 _ ?_, hrun, hended, _, _, rfl, ?_, ⟨_, rfl⟩, hW, hsame.mono (Nat.le_of_ble_eq_true rfl) (Nat.le_of_ble_eq_true rfl)⟩
  · show Steps p.tables e below (s₁.setTop (mkF m 0 #[.val (.int p1), .val (.int p2), .val (.int p3), .unset, .unset, .unset, .unset, .unset, .unset, .unset, .unset, .unset, .unset, .unset, .unset, .unset, .unset, .unset, .unset] [])) _
    refine XS.iloadN X0.here hx rfl (hb hby at_0) rfl ?_
    show Steps p.tables e below (s₁.setTop (mkF m 1 #[.val (.int p1), .val (.int p2), .val (.int p3), .unset, .unset, .unset, .unset, .unset, .unset, .unset, .unset, .unset, .unset, .unset, .unset, .unset, .unset, .unset, .unset] [(.int p1)])) _
    refine X0.ldcI hx hown (mvT hZ (hw _ (List.mem_of_getElem? (i := 0) rfl))) (g := (mkF m 1 #[.val (.int p1), .val (.int p2), .val (.int p3), .unset, .unset, .unset, .unset, .unset, .unset, .unset, .unset, .unset, .unset, .unset, .unset, .unset, .unset, .unset, .unset] [(.int p1)])) rfl (hb hby at_1) ?_
    show Steps p.tables e below (s₁.setTop (mkF m 3 #[.val (.int p1), .val (.int p2), .val (.int p3), .unset, .unset, .unset, .unset, .unset, .unset, .unset, .unset, .unset, .unset, .unset, .unset, .unset, .unset, .unset, .unset] [(.int (1048575 : Int32)), (.int p1)])) _
    refine XS.iand X0.here hx rfl (hb hby at_3) rfl ?_
    show Steps p.tables e below (s₁.setTop (mkF m 4 #[.val (.int p1), .val (.int p2), .val (.int p3), .unset, .unset, .unset, .unset, .unset, .unset, .unset, .unset, .unset, .unset, .unset, .unset, .unset, .unset, .unset, .unset] [(.int (p1 &&& (1048575 : Int32)))])) _
    refine XS.iconst X0.here hx rfl (hb hby at_4) ?_
    show Steps p.tables e below (s₁.setTop (mkF m 5 #[.val (.int p1), .val (.int p2), .val (.int p3), .unset, .unset, .unset, .unset, .unset, .unset, .unset, .unset, .unset, .unset, .unset, .unset, .unset, .unset, .unset, .unset] [(.int (1 : Int32)), (.int (p1 &&& (1048575 : Int32)))])) _
    refine XS.iadd X0.here hx rfl (hb hby at_5) rfl ?_
    show Steps p.tables e below (s₁.setTop (mkF m 6 #[.val (.int p1), .val (.int p2), .val (.int p3), .unset, .unset, .unset, .unset, .unset, .unset, .unset, .unset, .unset, .unset, .unset, .unset, .unset, .unset, .unset, .unset] [(.int ((p1 &&& (1048575 : Int32)) + (1 : Int32)))])) _
    refine XS.istoreN X0.here hx rfl (hb hby at_6) rfl (l' := #[.val (.int p1), .val (.int p2), .val (.int p3), .val (.int (lw_r p1 p2 p3)), .unset, .unset, .unset, .unset, .unset, .unset, .unset, .unset, .unset, .unset, .unset, .unset, .unset, .unset, .unset]) rfl ?_
    show Steps p.tables e below (s₁.setTop (mkF m 7 #[.val (.int p1), .val (.int p2), .val (.int p3), .val (.int (lw_r p1 p2 p3)), .unset, .unset, .unset, .unset, .unset, .unset, .unset, .unset, .unset, .unset, .unset, .unset, .unset, .unset, .unset] [])) _
    refine XS.iloadN X0.here hx rfl (hb hby at_7) rfl ?_
    show Steps p.tables e below (s₁.setTop (mkF m 8 #[.val (.int p1), .val (.int p2), .val (.int p3), .val (.int (lw_r p1 p2 p3)), .unset, .unset, .unset, .unset, .unset, .unset, .unset, .unset, .unset, .unset, .unset, .unset, .unset, .unset, .unset] [(.int p2)])) _
    refine X0.ldcI hx hown (mvT hZ (hw _ (List.mem_of_getElem? (i := 0) rfl))) (g := (mkF m 8 #[.val (.int p1), .val (.int p2), .val (.int p3), .val (.int (lw_r p1 p2 p3)), .unset, .unset, .unset, .unset, .unset, .unset, .unset, .unset, .unset, .unset, .unset, .unset, .unset, .unset, .unset] [(.int p2)])) rfl (hb hby at_8) ?_
    show Steps p.tables e below (s₁.setTop (mkF m 10 #[.val (.int p1), .val (.int p2), .val (.int p3), .val (.int (lw_r p1 p2 p3)), .unset, .unset, .unset, .unset, .unset, .unset, .unset, .unset, .unset, .unset, .unset, .unset, .unset, .unset, .unset] [(.int (1048575 : Int32)), (.int p2)])) _
    refine XS.iand X0.here hx rfl (hb hby at_10) rfl ?_
    show Steps p.tables e below (s₁.setTop (mkF m 11 #[.val (.int p1), .val (.int p2), .val (.int p3), .val (.int (lw_r p1 p2 p3)), .unset, .unset, .unset, .unset, .unset, .unset, .unset, .unset, .unset, .unset, .unset, .unset, .unset, .unset, .unset] [(.int (p2 &&& (1048575 : Int32)))])) _
    refine XS.iconst X0.here hx rfl (hb hby at_11) ?_
    show Steps p.tables e below (s₁.setTop (mkF m 12 #[.val (.int p1), .val (.int p2), .val (.int p3), .val (.int (lw_r p1 p2 p3)), .unset, .unset, .unset, .unset, .unset, .unset, .unset, .unset, .unset, .unset, .unset, .unset, .unset, .unset, .unset] [(.int (1 : Int32)), (.int (p2 &&& (1048575 : Int32)))])) _
    refine XS.iadd X0.here hx rfl (hb hby at_12) rfl ?_
    show Steps p.tables e below (s₁.setTop (mkF m 13 #[.val (.int p1), .val (.int p2), .val (.int p3), .val (.int (lw_r p1 p2 p3)), .unset, .unset, .unset, .unset, .unset, .unset, .unset, .unset, .unset, .unset, .unset, .unset, .unset, .unset, .unset] [(.int ((p2 &&& (1048575 : Int32)) + (1 : Int32)))])) _
    refine XS.istore X0.here hx rfl (hb hby at_13) rfl (l' := #[.val (.int p1), .val (.int p2), .val (.int p3), .val (.int (lw_r p1 p2 p3)), .val (.int (lw_d p1 p2 p3)), .unset, .unset, .unset, .unset, .unset, .unset, .unset, .unset, .unset, .unset, .unset, .unset, .unset, .unset]) rfl ?_
    show Steps p.tables e below (s₁.setTop (mkF m 15 #[.val (.int p1), .val (.int p2), .val (.int p3), .val (.int (lw_r p1 p2 p3)), .val (.int (lw_d p1 p2 p3)), .unset, .unset, .unset, .unset, .unset, .unset, .unset, .unset, .unset, .unset, .unset, .unset, .unset, .unset] [])) _
    refine XS.iloadN X0.here hx rfl (hb hby at_15) rfl ?_
    show Steps p.tables e below (s₁.setTop (mkF m 16 #[.val (.int p1), .val (.int p2), .val (.int p3), .val (.int (lw_r p1 p2 p3)), .val (.int (lw_d p1 p2 p3)), .unset, .unset, .unset, .unset, .unset, .unset, .unset, .unset, .unset, .unset, .unset, .unset, .unset, .unset] [(.int p3)])) _
    refine XS.iconst X0.here hx rfl (hb hby at_16) ?_
    show Steps p.tables e below (s₁.setTop (mkF m 17 #[.val (.int p1), .val (.int p2), .val (.int p3), .val (.int (lw_r p1 p2 p3)), .val (.int (lw_d p1 p2 p3)), .unset, .unset, .unset, .unset, .unset, .unset, .unset, .unset, .unset, .unset, .unset, .unset, .unset, .unset] [(.int (1 : Int32)), (.int p3)])) _
    refine XS.iand X0.here hx rfl (hb hby at_17) rfl ?_
    show Steps p.tables e below (s₁.setTop (mkF m 18 #[.val (.int p1), .val (.int p2), .val (.int p3), .val (.int (lw_r p1 p2 p3)), .val (.int (lw_d p1 p2 p3)), .unset, .unset, .unset, .unset, .unset, .unset, .unset, .unset, .unset, .unset, .unset, .unset, .unset, .unset] [(.int (p3 &&& (1 : Int32)))])) _
    have sg1 : ∀ t, Steps p.tables e below (s₁.setTop (mkF m 28 #[.val (.int p1), .val (.int p2), .val (.int p3), .val (.int (lw_r p1 p2 p3)), .val (.int (lw_d p1 p2 p3)), .unset, .unset, .unset, .unset, .unset, .unset, .unset, .unset, .unset, .unset, .unset, .unset, .unset, .unset] [(.double (lw_sc0 p1 p2 p3))])) t → Steps p.tables e below (s₁.setTop (mkF m 18 #[.val (.int p1), .val (.int p2), .val (.int p3), .val (.int (lw_r p1 p2 p3)), .val (.int (lw_d p1 p2 p3)), .unset, .unset, .unset, .unset, .unset, .unset, .unset, .unset, .unset, .unset, .unset, .unset, .unset, .unset] [(.int (p3 &&& (1 : Int32)))])) t := by
      intro t k
      by_cases c2 : (ifCond.holds .eq (p3 &&& (1 : Int32))) = true
      · refine XS.ifYes X0.here hx rfl (pc0 := 18) (pc' := 27) rfl (hb hby at_18) rfl c2 (by decide) (by decide) ?_
        show Steps p.tables e below (s₁.setTop (mkF m 27 #[.val (.int p1), .val (.int p2), .val (.int p3), .val (.int (lw_r p1 p2 p3)), .val (.int (lw_d p1 p2 p3)), .unset, .unset, .unset, .unset, .unset, .unset, .unset, .unset, .unset, .unset, .unset, .unset, .unset, .unset] [])) t
        refine XS.dconst1 X0.here hx rfl (hb hby at_27) rfl ?_
        show Steps p.tables e below (s₁.setTop (mkF m 28 #[.val (.int p1), .val (.int p2), .val (.int p3), .val (.int (lw_r p1 p2 p3)), .val (.int (lw_d p1 p2 p3)), .unset, .unset, .unset, .unset, .unset, .unset, .unset, .unset, .unset, .unset, .unset, .unset, .unset, .unset] [(.double (4607182418800017408 : UInt64))])) t
        have q : (lw_sc0 p1 p2 p3) = (4607182418800017408 : UInt64) := by simp only [lw_sc0, c2, if_true, if_false, Bool.false_eq_true]; try rfl
        rw [q] at k
        clear q
        exact k
      · refine XS.ifNo X0.here hx rfl (hb hby at_18) rfl (Bool.eq_false_iff.mpr c2) ?_
        show Steps p.tables e below (s₁.setTop (mkF m 21 #[.val (.int p1), .val (.int p2), .val (.int p3), .val (.int (lw_r p1 p2 p3)), .val (.int (lw_d p1 p2 p3)), .unset, .unset, .unset, .unset, .unset, .unset, .unset, .unset, .unset, .unset, .unset, .unset, .unset, .unset] [])) t
        refine X0.ldc2DoubleC hx hown (mvT hZ (hw _ (List.mem_of_getElem? (i := 51) rfl))) (g := (mkF m 21 #[.val (.int p1), .val (.int p2), .val (.int p3), .val (.int (lw_r p1 p2 p3)), .val (.int (lw_d p1 p2 p3)), .unset, .unset, .unset, .unset, .unset, .unset, .unset, .unset, .unset, .unset, .unset, .unset, .unset, .unset] [])) rfl (hb hby at_21) _ ?_
        show Steps p.tables e below (s₁.setTop (mkF m 24 #[.val (.int p1), .val (.int p2), .val (.int p3), .val (.int (lw_r p1 p2 p3)), .val (.int (lw_d p1 p2 p3)), .unset, .unset, .unset, .unset, .unset, .unset, .unset, .unset, .unset, .unset, .unset, .unset, .unset, .unset] [(.double (4652218415073722368 : UInt64))])) t
        refine XS.goto X0.here hx rfl (pc0 := 24) (pc' := 28) rfl (hb hby at_24) (by decide) (by decide) ?_
        show Steps p.tables e below (s₁.setTop (mkF m 28 #[.val (.int p1), .val (.int p2), .val (.int p3), .val (.int (lw_r p1 p2 p3)), .val (.int (lw_d p1 p2 p3)), .unset, .unset, .unset, .unset, .unset, .unset, .unset, .unset, .unset, .unset, .unset, .unset, .unset, .unset] [(.double (4652218415073722368 : UInt64))])) t
        have q : (lw_sc0 p1 p2 p3) = (4652218415073722368 : UInt64) := by simp only [lw_sc0, c2, if_true, if_false, Bool.false_eq_true]; try rfl
        rw [q] at k
        clear q
        exact k
    refine sg1 _ ?_
    show Steps p.tables e below (s₁.setTop (mkF m 28 #[.val (.int p1), .val (.int p2), .val (.int p3), .val (.int (lw_r p1 p2 p3)), .val (.int (lw_d p1 p2 p3)), .unset, .unset, .unset, .unset, .unset, .unset, .unset, .unset, .unset, .unset, .unset, .unset, .unset, .unset] [(.double (lw_sc0 p1 p2 p3))])) _
    refine XS.dstore X0.here hx rfl (hb hby at_28) rfl (l' := #[.val (.int p1), .val (.int p2), .val (.int p3), .val (.int (lw_r p1 p2 p3)), .val (.int (lw_d p1 p2 p3)), .val (.double (lw_scale p1 p2 p3)), .second, .unset, .unset, .unset, .unset, .unset, .unset, .unset, .unset, .unset, .unset, .unset, .unset]) rfl ?_
    show Steps p.tables e below (s₁.setTop (mkF m 30 #[.val (.int p1), .val (.int p2), .val (.int p3), .val (.int (lw_r p1 p2 p3)), .val (.int (lw_d p1 p2 p3)), .val (.double (lw_scale p1 p2 p3)), .second, .unset, .unset, .unset, .unset, .unset, .unset, .unset, .unset, .unset, .unset, .unset, .unset] [])) _
    refine XS.iloadN X0.here hx rfl (hb hby at_30) rfl ?_
    show Steps p.tables e below (s₁.setTop (mkF m 31 #[.val (.int p1), .val (.int p2), .val (.int p3), .val (.int (lw_r p1 p2 p3)), .val (.int (lw_d p1 p2 p3)), .val (.double (lw_scale p1 p2 p3)), .second, .unset, .unset, .unset, .unset, .unset, .unset, .unset, .unset, .unset, .unset, .unset, .unset] [(.int (lw_r p1 p2 p3))])) _
    refine XS.i2dS X0.here hx rfl (hb hby at_31) rfl rfl ?_
    show Steps p.tables e below (s₁.setTop (mkF m 32 #[.val (.int p1), .val (.int p2), .val (.int p3), .val (.int (lw_r p1 p2 p3)), .val (.int (lw_d p1 p2 p3)), .val (.double (lw_scale p1 p2 p3)), .second, .unset, .unset, .unset, .unset, .unset, .unset, .unset, .unset, .unset, .unset, .unset, .unset] [(.double (FP.i2d (lw_r p1 p2 p3)))])) _
    refine XS.dload X0.here hx rfl (hb hby at_32) rfl ?_
    show Steps p.tables e below (s₁.setTop (mkF m 34 #[.val (.int p1), .val (.int p2), .val (.int p3), .val (.int (lw_r p1 p2 p3)), .val (.int (lw_d p1 p2 p3)), .val (.double (lw_scale p1 p2 p3)), .second, .unset, .unset, .unset, .unset, .unset, .unset, .unset, .unset, .unset, .unset, .unset, .unset] [(.double (lw_scale p1 p2 p3)), (.double (FP.i2d (lw_r p1 p2 p3)))])) _
    refine XS.ddivS X0.here hx rfl (hb hby at_34) rfl (own_q (lw_r p1 p2 p3) p1 p2 p3 (own_rb p1 p2 p3)).nn rfl ?_
    show Steps p.tables e below (s₁.setTop (mkF m 35 #[.val (.int p1), .val (.int p2), .val (.int p3), .val (.int (lw_r p1 p2 p3)), .val (.int (lw_d p1 p2 p3)), .val (.double (lw_scale p1 p2 p3)), .second, .unset, .unset, .unset, .unset, .unset, .unset, .unset, .unset, .unset, .unset, .unset, .unset] [(.double (FP.ddiv (FP.i2d (lw_r p1 p2 p3)) (lw_scale p1 p2 p3)))])) _
    refine XS.dstore X0.here hx rfl (hb hby at_35) rfl (l' := #[.val (.int p1), .val (.int p2), .val (.int p3), .val (.int (lw_r p1 p2 p3)), .val (.int (lw_d p1 p2 p3)), .val (.double (lw_scale p1 p2 p3)), .second, .val (.double (lw_rate p1 p2 p3)), .second, .unset, .unset, .unset, .unset, .unset, .unset, .unset, .unset, .unset, .unset]) rfl ?_
    show Steps p.tables e below (s₁.setTop (mkF m 37 #[.val (.int p1), .val (.int p2), .val (.int p3), .val (.int (lw_r p1 p2 p3)), .val (.int (lw_d p1 p2 p3)), .val (.double (lw_scale p1 p2 p3)), .second, .val (.double (lw_rate p1 p2 p3)), .second, .unset, .unset, .unset, .unset, .unset, .unset, .unset, .unset, .unset, .unset] [])) _
    refine XS.iload X0.here hx rfl (hb hby at_37) rfl ?_
    show Steps p.tables e below (s₁.setTop (mkF m 39 #[.val (.int p1), .val (.int p2), .val (.int p3), .val (.int (lw_r p1 p2 p3)), .val (.int (lw_d p1 p2 p3)), .val (.double (lw_scale p1 p2 p3)), .second, .val (.double (lw_rate p1 p2 p3)), .second, .unset, .unset, .unset, .unset, .unset, .unset, .unset, .unset, .unset, .unset] [(.int (lw_d p1 p2 p3))])) _
    refine XS.i2dS X0.here hx rfl (hb hby at_39) rfl rfl ?_
    show Steps p.tables e below (s₁.setTop (mkF m 40 #[.val (.int p1), .val (.int p2), .val (.int p3), .val (.int (lw_r p1 p2 p3)), .val (.int (lw_d p1 p2 p3)), .val (.double (lw_scale p1 p2 p3)), .second, .val (.double (lw_rate p1 p2 p3)), .second, .unset, .unset, .unset, .unset, .unset, .unset, .unset, .unset, .unset, .unset] [(.double (FP.i2d (lw_d p1 p2 p3)))])) _
    refine XS.dload X0.here hx rfl (hb hby at_40) rfl ?_
    show Steps p.tables e below (s₁.setTop (mkF m 42 #[.val (.int p1), .val (.int p2), .val (.int p3), .val (.int (lw_r p1 p2 p3)), .val (.int (lw_d p1 p2 p3)), .val (.double (lw_scale p1 p2 p3)), .second, .val (.double (lw_rate p1 p2 p3)), .second, .unset, .unset, .unset, .unset, .unset, .unset, .unset, .unset, .unset, .unset] [(.double (lw_scale p1 p2 p3)), (.double (FP.i2d (lw_d p1 p2 p3)))])) _
    refine XS.ddivS X0.here hx rfl (hb hby at_42) rfl (own_q (lw_d p1 p2 p3) p1 p2 p3 (own_db p1 p2 p3)).nn rfl ?_
    show Steps p.tables e below (s₁.setTop (mkF m 43 #[.val (.int p1), .val (.int p2), .val (.int p3), .val (.int (lw_r p1 p2 p3)), .val (.int (lw_d p1 p2 p3)), .val (.double (lw_scale p1 p2 p3)), .second, .val (.double (lw_rate p1 p2 p3)), .second, .unset, .unset, .unset, .unset, .unset, .unset, .unset, .unset, .unset, .unset] [(.double (FP.ddiv (FP.i2d (lw_d p1 p2 p3)) (lw_scale p1 p2 p3)))])) _
    refine XS.dstore X0.here hx rfl (hb hby at_43) rfl (l' := #[.val (.int p1), .val (.int p2), .val (.int p3), .val (.int (lw_r p1 p2 p3)), .val (.int (lw_d p1 p2 p3)), .val (.double (lw_scale p1 p2 p3)), .second, .val (.double (lw_rate p1 p2 p3)), .second, .val (.double (lw_delta p1 p2 p3)), .second, .unset, .unset, .unset, .unset, .unset, .unset, .unset, .unset]) rfl ?_
    show Steps p.tables e below (s₁.setTop (mkF m 45 #[.val (.int p1), .val (.int p2), .val (.int p3), .val (.int (lw_r p1 p2 p3)), .val (.int (lw_d p1 p2 p3)), .val (.double (lw_scale p1 p2 p3)), .second, .val (.double (lw_rate p1 p2 p3)), .second, .val (.double (lw_delta p1 p2 p3)), .second, .unset, .unset, .unset, .unset, .unset, .unset, .unset, .unset] [])) _
    refine st3 _ ?_
    show Steps p.tables e below (T3.setTop (mkF m 48 #[.val (.int p1), .val (.int p2), .val (.int p3), .val (.int (lw_r p1 p2 p3)), .val (.int (lw_d p1 p2 p3)), .val (.double (lw_scale p1 p2 p3)), .second, .val (.double (lw_rate p1 p2 p3)), .second, .val (.double (lw_delta p1 p2 p3)), .second, .unset, .unset, .unset, .unset, .unset, .unset, .unset, .unset] [(.ref ad3)])) _
    refine XS.dup X3.here hx rfl (hb hby at_48) rfl rfl ?_
    show Steps p.tables e below (T3.setTop (mkF m 49 #[.val (.int p1), .val (.int p2), .val (.int p3), .val (.int (lw_r p1 p2 p3)), .val (.int (lw_d p1 p2 p3)), .val (.double (lw_scale p1 p2 p3)), .second, .val (.double (lw_rate p1 p2 p3)), .second, .val (.double (lw_delta p1 p2 p3)), .second, .unset, .unset, .unset, .unset, .unset, .unset, .unset, .unset] [(.ref ad3), (.ref ad3)])) _
    refine XS.dload X3.here hx rfl (hb hby at_49) rfl ?_
    show Steps p.tables e below (T3.setTop (mkF m 51 #[.val (.int p1), .val (.int p2), .val (.int p3), .val (.int (lw_r p1 p2 p3)), .val (.int (lw_d p1 p2 p3)), .val (.double (lw_scale p1 p2 p3)), .second, .val (.double (lw_rate p1 p2 p3)), .second, .val (.double (lw_delta p1 p2 p3)), .second, .unset, .unset, .unset, .unset, .unset, .unset, .unset, .unset] [(.double (lw_rate p1 p2 p3)), (.ref ad3), (.ref ad3)])) _
    refine st4.trans ?_
    show Steps p.tables e below (T4.setTop (mkF m 54 #[.val (.int p1), .val (.int p2), .val (.int p3), .val (.int (lw_r p1 p2 p3)), .val (.int (lw_d p1 p2 p3)), .val (.double (lw_scale p1 p2 p3)), .second, .val (.double (lw_rate p1 p2 p3)), .second, .val (.double (lw_delta p1 p2 p3)), .second, .unset, .unset, .unset, .unset, .unset, .unset, .unset, .unset] [(.ref ad3)])) _
    refine XS.astore X4.here hx rfl (hb hby at_54) rfl rfl (l' := #[.val (.int p1), .val (.int p2), .val (.int p3), .val (.int (lw_r p1 p2 p3)), .val (.int (lw_d p1 p2 p3)), .val (.double (lw_scale p1 p2 p3)), .second, .val (.double (lw_rate p1 p2 p3)), .second, .val (.double (lw_delta p1 p2 p3)), .second, .val (.ref ad3), .unset, .unset, .unset, .unset, .unset, .unset, .unset]) rfl ?_
    show Steps p.tables e below (T4.setTop (mkF m 56 #[.val (.int p1), .val (.int p2), .val (.int p3), .val (.int (lw_r p1 p2 p3)), .val (.int (lw_d p1 p2 p3)), .val (.double (lw_scale p1 p2 p3)), .second, .val (.double (lw_rate p1 p2 p3)), .second, .val (.double (lw_delta p1 p2 p3)), .second, .val (.ref ad3), .unset, .unset, .unset, .unset, .unset, .unset, .unset] [])) _
    refine XS.aload X4.here hx rfl (hb hby at_56) rfl rfl ?_
    show Steps p.tables e below (T4.setTop (mkF m 58 #[.val (.int p1), .val (.int p2), .val (.int p3), .val (.int (lw_r p1 p2 p3)), .val (.int (lw_d p1 p2 p3)), .val (.double (lw_scale p1 p2 p3)), .second, .val (.double (lw_rate p1 p2 p3)), .second, .val (.double (lw_delta p1 p2 p3)), .second, .val (.ref ad3), .unset, .unset, .unset, .unset, .unset, .unset, .unset] [(.ref ad3)])) _
    refine st5 _ ?_
    show Steps p.tables e below (T5.setTop (mkF m 61 #[.val (.int p1), .val (.int p2), .val (.int p3), .val (.int (lw_r p1 p2 p3)), .val (.int (lw_d p1 p2 p3)), .val (.double (lw_scale p1 p2 p3)), .second, .val (.double (lw_rate p1 p2 p3)), .second, .val (.double (lw_delta p1 p2 p3)), .second, .val (.ref ad3), .unset, .unset, .unset, .unset, .unset, .unset, .unset] [(.ref ad5), (.ref ad3)])) _
    refine XS.dup X5.here hx rfl (hb hby at_61) rfl rfl ?_
    show Steps p.tables e below (T5.setTop (mkF m 62 #[.val (.int p1), .val (.int p2), .val (.int p3), .val (.int (lw_r p1 p2 p3)), .val (.int (lw_d p1 p2 p3)), .val (.double (lw_scale p1 p2 p3)), .second, .val (.double (lw_rate p1 p2 p3)), .second, .val (.double (lw_delta p1 p2 p3)), .second, .val (.ref ad3), .unset, .unset, .unset, .unset, .unset, .unset, .unset] [(.ref ad5), (.ref ad5), (.ref ad3)])) _
    refine XS.dload X5.here hx rfl (hb hby at_62) rfl ?_
    show Steps p.tables e below (T5.setTop (mkF m 64 #[.val (.int p1), .val (.int p2), .val (.int p3), .val (.int (lw_r p1 p2 p3)), .val (.int (lw_d p1 p2 p3)), .val (.double (lw_scale p1 p2 p3)), .second, .val (.double (lw_rate p1 p2 p3)), .second, .val (.double (lw_delta p1 p2 p3)), .second, .val (.ref ad3), .unset, .unset, .unset, .unset, .unset, .unset, .unset] [(.double (lw_delta p1 p2 p3)), (.ref ad5), (.ref ad5), (.ref ad3)])) _
    refine st8.trans ?_
    show Steps p.tables e below (T8.setTop (mkF m 67 #[.val (.int p1), .val (.int p2), .val (.int p3), .val (.int (lw_r p1 p2 p3)), .val (.int (lw_d p1 p2 p3)), .val (.double (lw_scale p1 p2 p3)), .second, .val (.double (lw_rate p1 p2 p3)), .second, .val (.double (lw_delta p1 p2 p3)), .second, .val (.ref ad3), .unset, .unset, .unset, .unset, .unset, .unset, .unset] [(.ref ad5), (.ref ad3)])) _
    refine st11.trans ?_
    show Steps p.tables e below (T11.setTop (mkF m 70 #[.val (.int p1), .val (.int p2), .val (.int p3), .val (.int (lw_r p1 p2 p3)), .val (.int (lw_d p1 p2 p3)), .val (.double (lw_scale p1 p2 p3)), .second, .val (.double (lw_rate p1 p2 p3)), .second, .val (.double (lw_delta p1 p2 p3)), .second, .val (.ref ad3), .unset, .unset, .unset, .unset, .unset, .unset, .unset] [(.double (FP.ddiv (lw_delta p1 p2 p3) (FP.dadd (lw_rate p1 p2 p3) (lw_delta p1 p2 p3))))])) _
    refine XS.dstore X11.here hx rfl (hb hby at_70) rfl (l' := #[.val (.int p1), .val (.int p2), .val (.int p3), .val (.int (lw_r p1 p2 p3)), .val (.int (lw_d p1 p2 p3)), .val (.double (lw_scale p1 p2 p3)), .second, .val (.double (lw_rate p1 p2 p3)), .second, .val (.double (lw_delta p1 p2 p3)), .second, .val (.ref ad3), .val (.double (lw_lost p1 p2 p3)), .second, .unset, .unset, .unset, .unset, .unset]) rfl ?_
    show Steps p.tables e below (T11.setTop (mkF m 72 #[.val (.int p1), .val (.int p2), .val (.int p3), .val (.int (lw_r p1 p2 p3)), .val (.int (lw_d p1 p2 p3)), .val (.double (lw_scale p1 p2 p3)), .second, .val (.double (lw_rate p1 p2 p3)), .second, .val (.double (lw_delta p1 p2 p3)), .second, .val (.ref ad3), .val (.double (lw_lost p1 p2 p3)), .second, .unset, .unset, .unset, .unset, .unset] [])) _
    refine st12 _ ?_
    show Steps p.tables e below (T12.setTop (mkF m 75 #[.val (.int p1), .val (.int p2), .val (.int p3), .val (.int (lw_r p1 p2 p3)), .val (.int (lw_d p1 p2 p3)), .val (.double (lw_scale p1 p2 p3)), .second, .val (.double (lw_rate p1 p2 p3)), .second, .val (.double (lw_delta p1 p2 p3)), .second, .val (.ref ad3), .val (.double (lw_lost p1 p2 p3)), .second, .unset, .unset, .unset, .unset, .unset] [(.ref ad12)])) _
    refine XS.dup X12.here hx rfl (hb hby at_75) rfl rfl ?_
    show Steps p.tables e below (T12.setTop (mkF m 76 #[.val (.int p1), .val (.int p2), .val (.int p3), .val (.int (lw_r p1 p2 p3)), .val (.int (lw_d p1 p2 p3)), .val (.double (lw_scale p1 p2 p3)), .second, .val (.double (lw_rate p1 p2 p3)), .second, .val (.double (lw_delta p1 p2 p3)), .second, .val (.ref ad3), .val (.double (lw_lost p1 p2 p3)), .second, .unset, .unset, .unset, .unset, .unset] [(.ref ad12), (.ref ad12)])) _
    refine XS.dload X12.here hx rfl (hb hby at_76) rfl ?_
    show Steps p.tables e below (T12.setTop (mkF m 78 #[.val (.int p1), .val (.int p2), .val (.int p3), .val (.int (lw_r p1 p2 p3)), .val (.int (lw_d p1 p2 p3)), .val (.double (lw_scale p1 p2 p3)), .second, .val (.double (lw_rate p1 p2 p3)), .second, .val (.double (lw_delta p1 p2 p3)), .second, .val (.ref ad3), .val (.double (lw_lost p1 p2 p3)), .second, .unset, .unset, .unset, .unset, .unset] [(.double (lw_delta p1 p2 p3)), (.ref ad12), (.ref ad12)])) _
    refine st17.trans ?_
    show Steps p.tables e below (T17.setTop (mkF m 81 #[.val (.int p1), .val (.int p2), .val (.int p3), .val (.int (lw_r p1 p2 p3)), .val (.int (lw_d p1 p2 p3)), .val (.double (lw_scale p1 p2 p3)), .second, .val (.double (lw_rate p1 p2 p3)), .second, .val (.double (lw_delta p1 p2 p3)), .second, .val (.ref ad3), .val (.double (lw_lost p1 p2 p3)), .second, .unset, .unset, .unset, .unset, .unset] [(.ref ad12)])) _
    refine XS.astore X17.here hx rfl (hb hby at_81) rfl rfl (l' := #[.val (.int p1), .val (.int p2), .val (.int p3), .val (.int (lw_r p1 p2 p3)), .val (.int (lw_d p1 p2 p3)), .val (.double (lw_scale p1 p2 p3)), .second, .val (.double (lw_rate p1 p2 p3)), .second, .val (.double (lw_delta p1 p2 p3)), .second, .val (.ref ad3), .val (.double (lw_lost p1 p2 p3)), .second, .val (.ref ad12), .unset, .unset, .unset, .unset]) rfl ?_
    show Steps p.tables e below (T17.setTop (mkF m 83 #[.val (.int p1), .val (.int p2), .val (.int p3), .val (.int (lw_r p1 p2 p3)), .val (.int (lw_d p1 p2 p3)), .val (.double (lw_scale p1 p2 p3)), .second, .val (.double (lw_rate p1 p2 p3)), .second, .val (.double (lw_delta p1 p2 p3)), .second, .val (.ref ad3), .val (.double (lw_lost p1 p2 p3)), .second, .val (.ref ad12), .unset, .unset, .unset, .unset] [])) _
    refine XS.aload X17.here hx rfl (hb hby at_83) rfl rfl ?_
    show Steps p.tables e below (T17.setTop (mkF m 85 #[.val (.int p1), .val (.int p2), .val (.int p3), .val (.int (lw_r p1 p2 p3)), .val (.int (lw_d p1 p2 p3)), .val (.double (lw_scale p1 p2 p3)), .second, .val (.double (lw_rate p1 p2 p3)), .second, .val (.double (lw_delta p1 p2 p3)), .second, .val (.ref ad3), .val (.double (lw_lost p1 p2 p3)), .second, .val (.ref ad12), .unset, .unset, .unset, .unset] [(.ref ad12)])) _
    refine st22 _ ?_
    show Steps p.tables e below (T22.setTop (mkF m 88 #[.val (.int p1), .val (.int p2), .val (.int p3), .val (.int (lw_r p1 p2 p3)), .val (.int (lw_d p1 p2 p3)), .val (.double (lw_scale p1 p2 p3)), .second, .val (.double (lw_rate p1 p2 p3)), .second, .val (.double (lw_delta p1 p2 p3)), .second, .val (.ref ad3), .val (.double (lw_lost p1 p2 p3)), .second, .val (.ref ad12), .unset, .unset, .unset, .unset] [(.ref ad22), (.ref ad12)])) _
    refine XS.dup X22.here hx rfl (hb hby at_88) rfl rfl ?_
    show Steps p.tables e below (T22.setTop (mkF m 89 #[.val (.int p1), .val (.int p2), .val (.int p3), .val (.int (lw_r p1 p2 p3)), .val (.int (lw_d p1 p2 p3)), .val (.double (lw_scale p1 p2 p3)), .second, .val (.double (lw_rate p1 p2 p3)), .second, .val (.double (lw_delta p1 p2 p3)), .second, .val (.ref ad3), .val (.double (lw_lost p1 p2 p3)), .second, .val (.ref ad12), .unset, .unset, .unset, .unset] [(.ref ad22), (.ref ad22), (.ref ad12)])) _
    refine XS.dload X22.here hx rfl (hb hby at_89) rfl ?_
    show Steps p.tables e below (T22.setTop (mkF m 91 #[.val (.int p1), .val (.int p2), .val (.int p3), .val (.int (lw_r p1 p2 p3)), .val (.int (lw_d p1 p2 p3)), .val (.double (lw_scale p1 p2 p3)), .second, .val (.double (lw_rate p1 p2 p3)), .second, .val (.double (lw_delta p1 p2 p3)), .second, .val (.ref ad3), .val (.double (lw_lost p1 p2 p3)), .second, .val (.ref ad12), .unset, .unset, .unset, .unset] [(.double (lw_rate p1 p2 p3)), (.ref ad22), (.ref ad22), (.ref ad12)])) _
    refine st29.trans ?_
    show Steps p.tables e below (T29.setTop (mkF m 94 #[.val (.int p1), .val (.int p2), .val (.int p3), .val (.int (lw_r p1 p2 p3)), .val (.int (lw_d p1 p2 p3)), .val (.double (lw_scale p1 p2 p3)), .second, .val (.double (lw_rate p1 p2 p3)), .second, .val (.double (lw_delta p1 p2 p3)), .second, .val (.ref ad3), .val (.double (lw_lost p1 p2 p3)), .second, .val (.ref ad12), .unset, .unset, .unset, .unset] [(.ref ad22), (.ref ad12)])) _
    refine st36.trans ?_
    show Steps p.tables e below (T36.setTop (mkF m 97 #[.val (.int p1), .val (.int p2), .val (.int p3), .val (.int (lw_r p1 p2 p3)), .val (.int (lw_d p1 p2 p3)), .val (.double (lw_scale p1 p2 p3)), .second, .val (.double (lw_rate p1 p2 p3)), .second, .val (.double (lw_delta p1 p2 p3)), .second, .val (.ref ad3), .val (.double (lw_lost p1 p2 p3)), .second, .val (.ref ad12), .unset, .unset, .unset, .unset] [(.double (FP.ddiv (lw_delta p1 p2 p3) (FP.dadd (lw_delta p1 p2 p3) (lw_rate p1 p2 p3))))])) _
    refine XS.dstore X36.here hx rfl (hb hby at_97) rfl (l' := #[.val (.int p1), .val (.int p2), .val (.int p3), .val (.int (lw_r p1 p2 p3)), .val (.int (lw_d p1 p2 p3)), .val (.double (lw_scale p1 p2 p3)), .second, .val (.double (lw_rate p1 p2 p3)), .second, .val (.double (lw_delta p1 p2 p3)), .second, .val (.ref ad3), .val (.double (lw_lost p1 p2 p3)), .second, .val (.ref ad12), .val (.double (lw_gain p1 p2 p3)), .second, .unset, .unset]) rfl ?_
    show Steps p.tables e below (T36.setTop (mkF m 99 #[.val (.int p1), .val (.int p2), .val (.int p3), .val (.int (lw_r p1 p2 p3)), .val (.int (lw_d p1 p2 p3)), .val (.double (lw_scale p1 p2 p3)), .second, .val (.double (lw_rate p1 p2 p3)), .second, .val (.double (lw_delta p1 p2 p3)), .second, .val (.ref ad3), .val (.double (lw_lost p1 p2 p3)), .second, .val (.ref ad12), .val (.double (lw_gain p1 p2 p3)), .second, .unset, .unset] [])) _
    refine XS.iload X36.here hx rfl (hb hby at_99) rfl ?_
    show Steps p.tables e below (T36.setTop (mkF m 101 #[.val (.int p1), .val (.int p2), .val (.int p3), .val (.int (lw_r p1 p2 p3)), .val (.int (lw_d p1 p2 p3)), .val (.double (lw_scale p1 p2 p3)), .second, .val (.double (lw_rate p1 p2 p3)), .second, .val (.double (lw_delta p1 p2 p3)), .second, .val (.ref ad3), .val (.double (lw_lost p1 p2 p3)), .second, .val (.ref ad12), .val (.double (lw_gain p1 p2 p3)), .second, .unset, .unset] [(.int (lw_d p1 p2 p3))])) _
    refine XS.i2dS X36.here hx rfl (hb hby at_101) rfl rfl ?_
    show Steps p.tables e below (T36.setTop (mkF m 102 #[.val (.int p1), .val (.int p2), .val (.int p3), .val (.int (lw_r p1 p2 p3)), .val (.int (lw_d p1 p2 p3)), .val (.double (lw_scale p1 p2 p3)), .second, .val (.double (lw_rate p1 p2 p3)), .second, .val (.double (lw_delta p1 p2 p3)), .second, .val (.ref ad3), .val (.double (lw_lost p1 p2 p3)), .second, .val (.ref ad12), .val (.double (lw_gain p1 p2 p3)), .second, .unset, .unset] [(.double (FP.i2d (lw_d p1 p2 p3)))])) _
    refine XS.iloadN X36.here hx rfl (hb hby at_102) rfl ?_
    show Steps p.tables e below (T36.setTop (mkF m 103 #[.val (.int p1), .val (.int p2), .val (.int p3), .val (.int (lw_r p1 p2 p3)), .val (.int (lw_d p1 p2 p3)), .val (.double (lw_scale p1 p2 p3)), .second, .val (.double (lw_rate p1 p2 p3)), .second, .val (.double (lw_delta p1 p2 p3)), .second, .val (.ref ad3), .val (.double (lw_lost p1 p2 p3)), .second, .val (.ref ad12), .val (.double (lw_gain p1 p2 p3)), .second, .unset, .unset] [(.int (lw_r p1 p2 p3)), (.double (FP.i2d (lw_d p1 p2 p3)))])) _
    refine XS.iload X36.here hx rfl (hb hby at_103) rfl ?_
    show Steps p.tables e below (T36.setTop (mkF m 105 #[.val (.int p1), .val (.int p2), .val (.int p3), .val (.int (lw_r p1 p2 p3)), .val (.int (lw_d p1 p2 p3)), .val (.double (lw_scale p1 p2 p3)), .second, .val (.double (lw_rate p1 p2 p3)), .second, .val (.double (lw_delta p1 p2 p3)), .second, .val (.ref ad3), .val (.double (lw_lost p1 p2 p3)), .second, .val (.ref ad12), .val (.double (lw_gain p1 p2 p3)), .second, .unset, .unset] [(.int (lw_d p1 p2 p3)), (.int (lw_r p1 p2 p3)), (.double (FP.i2d (lw_d p1 p2 p3)))])) _
    refine XS.iadd X36.here hx rfl (hb hby at_105) rfl ?_
    show Steps p.tables e below (T36.setTop (mkF m 106 #[.val (.int p1), .val (.int p2), .val (.int p3), .val (.int (lw_r p1 p2 p3)), .val (.int (lw_d p1 p2 p3)), .val (.double (lw_scale p1 p2 p3)), .second, .val (.double (lw_rate p1 p2 p3)), .second, .val (.double (lw_delta p1 p2 p3)), .second, .val (.ref ad3), .val (.double (lw_lost p1 p2 p3)), .second, .val (.ref ad12), .val (.double (lw_gain p1 p2 p3)), .second, .unset, .unset] [(.int ((lw_r p1 p2 p3) + (lw_d p1 p2 p3))), (.double (FP.i2d (lw_d p1 p2 p3)))])) _
    refine XS.i2dS X36.here hx rfl (hb hby at_106) rfl rfl ?_
    show Steps p.tables e below (T36.setTop (mkF m 107 #[.val (.int p1), .val (.int p2), .val (.int p3), .val (.int (lw_r p1 p2 p3)), .val (.int (lw_d p1 p2 p3)), .val (.double (lw_scale p1 p2 p3)), .second, .val (.double (lw_rate p1 p2 p3)), .second, .val (.double (lw_delta p1 p2 p3)), .second, .val (.ref ad3), .val (.double (lw_lost p1 p2 p3)), .second, .val (.ref ad12), .val (.double (lw_gain p1 p2 p3)), .second, .unset, .unset] [(.double (FP.i2d ((lw_r p1 p2 p3) + (lw_d p1 p2 p3)))), (.double (FP.i2d (lw_d p1 p2 p3)))])) _
    refine XS.ddivS X36.here hx rfl (hb hby at_107) rfl (own_ref p1 p2 p3).1 rfl ?_
    show Steps p.tables e below (T36.setTop (mkF m 108 #[.val (.int p1), .val (.int p2), .val (.int p3), .val (.int (lw_r p1 p2 p3)), .val (.int (lw_d p1 p2 p3)), .val (.double (lw_scale p1 p2 p3)), .second, .val (.double (lw_rate p1 p2 p3)), .second, .val (.double (lw_delta p1 p2 p3)), .second, .val (.ref ad3), .val (.double (lw_lost p1 p2 p3)), .second, .val (.ref ad12), .val (.double (lw_gain p1 p2 p3)), .second, .unset, .unset] [(.double (FP.ddiv (FP.i2d (lw_d p1 p2 p3)) (FP.i2d ((lw_r p1 p2 p3) + (lw_d p1 p2 p3)))))])) _
    refine XS.dstore X36.here hx rfl (hb hby at_108) rfl (l' := #[.val (.int p1), .val (.int p2), .val (.int p3), .val (.int (lw_r p1 p2 p3)), .val (.int (lw_d p1 p2 p3)), .val (.double (lw_scale p1 p2 p3)), .second, .val (.double (lw_rate p1 p2 p3)), .second, .val (.double (lw_delta p1 p2 p3)), .second, .val (.ref ad3), .val (.double (lw_lost p1 p2 p3)), .second, .val (.ref ad12), .val (.double (lw_gain p1 p2 p3)), .second, .val (.double (lw_ref p1 p2 p3)), .second]) rfl ?_
    show Steps p.tables e below (T36.setTop (mkF m 110 #[.val (.int p1), .val (.int p2), .val (.int p3), .val (.int (lw_r p1 p2 p3)), .val (.int (lw_d p1 p2 p3)), .val (.double (lw_scale p1 p2 p3)), .second, .val (.double (lw_rate p1 p2 p3)), .second, .val (.double (lw_delta p1 p2 p3)), .second, .val (.ref ad3), .val (.double (lw_lost p1 p2 p3)), .second, .val (.ref ad12), .val (.double (lw_gain p1 p2 p3)), .second, .val (.double (lw_ref p1 p2 p3)), .second] [])) _
    refine XS.dload X36.here hx rfl (hb hby at_110) rfl ?_
    show Steps p.tables e below (T36.setTop (mkF m 112 #[.val (.int p1), .val (.int p2), .val (.int p3), .val (.int (lw_r p1 p2 p3)), .val (.int (lw_d p1 p2 p3)), .val (.double (lw_scale p1 p2 p3)), .second, .val (.double (lw_rate p1 p2 p3)), .second, .val (.double (lw_delta p1 p2 p3)), .second, .val (.ref ad3), .val (.double (lw_lost p1 p2 p3)), .second, .val (.ref ad12), .val (.double (lw_gain p1 p2 p3)), .second, .val (.double (lw_ref p1 p2 p3)), .second] [(.double (lw_lost p1 p2 p3))])) _
    refine XS.dload X36.here hx rfl (hb hby at_112) rfl ?_
    show Steps p.tables e below (T36.setTop (mkF m 114 #[.val (.int p1), .val (.int p2), .val (.int p3), .val (.int (lw_r p1 p2 p3)), .val (.int (lw_d p1 p2 p3)), .val (.double (lw_scale p1 p2 p3)), .second, .val (.double (lw_rate p1 p2 p3)), .second, .val (.double (lw_delta p1 p2 p3)), .second, .val (.ref ad3), .val (.double (lw_lost p1 p2 p3)), .second, .val (.ref ad12), .val (.double (lw_gain p1 p2 p3)), .second, .val (.double (lw_ref p1 p2 p3)), .second] [(.double (lw_ref p1 p2 p3)), (.double (lw_lost p1 p2 p3))])) _
    refine XS.dcmpS X36.here hx rfl (hb hby at_114) rfl rfl ?_
    show Steps p.tables e below (T36.setTop (mkF m 115 #[.val (.int p1), .val (.int p2), .val (.int p3), .val (.int (lw_r p1 p2 p3)), .val (.int (lw_d p1 p2 p3)), .val (.double (lw_scale p1 p2 p3)), .second, .val (.double (lw_rate p1 p2 p3)), .second, .val (.double (lw_delta p1 p2 p3)), .second, .val (.ref ad3), .val (.double (lw_lost p1 p2 p3)), .second, .val (.ref ad12), .val (.double (lw_gain p1 p2 p3)), .second, .val (.double (lw_ref p1 p2 p3)), .second] [(.int (cmpValue (FP.dcmp (lw_lost p1 p2 p3) (lw_ref p1 p2 p3)) .l))])) _
    refine XS.ifNo X36.here hx rfl (hb hby at_115) rfl (own_e1 p1 p2 p3) ?_
    show Steps p.tables e below (T36.setTop (mkF m 118 #[.val (.int p1), .val (.int p2), .val (.int p3), .val (.int (lw_r p1 p2 p3)), .val (.int (lw_d p1 p2 p3)), .val (.double (lw_scale p1 p2 p3)), .second, .val (.double (lw_rate p1 p2 p3)), .second, .val (.double (lw_delta p1 p2 p3)), .second, .val (.ref ad3), .val (.double (lw_lost p1 p2 p3)), .second, .val (.ref ad12), .val (.double (lw_gain p1 p2 p3)), .second, .val (.double (lw_ref p1 p2 p3)), .second] [])) _
    refine XS.dload X36.here hx rfl (hb hby at_118) rfl ?_
    show Steps p.tables e below (T36.setTop (mkF m 120 #[.val (.int p1), .val (.int p2), .val (.int p3), .val (.int (lw_r p1 p2 p3)), .val (.int (lw_d p1 p2 p3)), .val (.double (lw_scale p1 p2 p3)), .second, .val (.double (lw_rate p1 p2 p3)), .second, .val (.double (lw_delta p1 p2 p3)), .second, .val (.ref ad3), .val (.double (lw_lost p1 p2 p3)), .second, .val (.ref ad12), .val (.double (lw_gain p1 p2 p3)), .second, .val (.double (lw_ref p1 p2 p3)), .second] [(.double (lw_lost p1 p2 p3))])) _
    refine XS.dload X36.here hx rfl (hb hby at_120) rfl ?_
    show Steps p.tables e below (T36.setTop (mkF m 122 #[.val (.int p1), .val (.int p2), .val (.int p3), .val (.int (lw_r p1 p2 p3)), .val (.int (lw_d p1 p2 p3)), .val (.double (lw_scale p1 p2 p3)), .second, .val (.double (lw_rate p1 p2 p3)), .second, .val (.double (lw_delta p1 p2 p3)), .second, .val (.ref ad3), .val (.double (lw_lost p1 p2 p3)), .second, .val (.ref ad12), .val (.double (lw_gain p1 p2 p3)), .second, .val (.double (lw_ref p1 p2 p3)), .second] [(.double (lw_gain p1 p2 p3)), (.double (lw_lost p1 p2 p3))])) _
    refine XS.dcmpS X36.here hx rfl (hb hby at_122) rfl rfl ?_
    show Steps p.tables e below (T36.setTop (mkF m 123 #[.val (.int p1), .val (.int p2), .val (.int p3), .val (.int (lw_r p1 p2 p3)), .val (.int (lw_d p1 p2 p3)), .val (.double (lw_scale p1 p2 p3)), .second, .val (.double (lw_rate p1 p2 p3)), .second, .val (.double (lw_delta p1 p2 p3)), .second, .val (.ref ad3), .val (.double (lw_lost p1 p2 p3)), .second, .val (.ref ad12), .val (.double (lw_gain p1 p2 p3)), .second, .val (.double (lw_ref p1 p2 p3)), .second] [(.int (cmpValue (FP.dcmp (lw_lost p1 p2 p3) (lw_gain p1 p2 p3)) .l))])) _
    refine XS.ifNo X36.here hx rfl (hb hby at_123) rfl (own_e2 p1 p2 p3) ?_
    show Steps p.tables e below (T36.setTop (mkF m 126 #[.val (.int p1), .val (.int p2), .val (.int p3), .val (.int (lw_r p1 p2 p3)), .val (.int (lw_d p1 p2 p3)), .val (.double (lw_scale p1 p2 p3)), .second, .val (.double (lw_rate p1 p2 p3)), .second, .val (.double (lw_delta p1 p2 p3)), .second, .val (.ref ad3), .val (.double (lw_lost p1 p2 p3)), .second, .val (.ref ad12), .val (.double (lw_gain p1 p2 p3)), .second, .val (.double (lw_ref p1 p2 p3)), .second] [])) _
    refine XS.dload X36.here hx rfl (hb hby at_126) rfl ?_
    show Steps p.tables e below (T36.setTop (mkF m 128 #[.val (.int p1), .val (.int p2), .val (.int p3), .val (.int (lw_r p1 p2 p3)), .val (.int (lw_d p1 p2 p3)), .val (.double (lw_scale p1 p2 p3)), .second, .val (.double (lw_rate p1 p2 p3)), .second, .val (.double (lw_delta p1 p2 p3)), .second, .val (.ref ad3), .val (.double (lw_lost p1 p2 p3)), .second, .val (.ref ad12), .val (.double (lw_gain p1 p2 p3)), .second, .val (.double (lw_ref p1 p2 p3)), .second] [(.double (lw_lost p1 p2 p3))])) _
    refine XS.dconst0 X36.here hx rfl (hb hby at_128) rfl ?_
    show Steps p.tables e below (T36.setTop (mkF m 129 #[.val (.int p1), .val (.int p2), .val (.int p3), .val (.int (lw_r p1 p2 p3)), .val (.int (lw_d p1 p2 p3)), .val (.double (lw_scale p1 p2 p3)), .second, .val (.double (lw_rate p1 p2 p3)), .second, .val (.double (lw_delta p1 p2 p3)), .second, .val (.ref ad3), .val (.double (lw_lost p1 p2 p3)), .second, .val (.ref ad12), .val (.double (lw_gain p1 p2 p3)), .second, .val (.double (lw_ref p1 p2 p3)), .second] [(.double (0 : UInt64)), (.double (lw_lost p1 p2 p3))])) _
    refine XS.dcmpS X36.here hx rfl (hb hby at_129) rfl rfl ?_
    show Steps p.tables e below (T36.setTop (mkF m 130 #[.val (.int p1), .val (.int p2), .val (.int p3), .val (.int (lw_r p1 p2 p3)), .val (.int (lw_d p1 p2 p3)), .val (.double (lw_scale p1 p2 p3)), .second, .val (.double (lw_rate p1 p2 p3)), .second, .val (.double (lw_delta p1 p2 p3)), .second, .val (.ref ad3), .val (.double (lw_lost p1 p2 p3)), .second, .val (.ref ad12), .val (.double (lw_gain p1 p2 p3)), .second, .val (.double (lw_ref p1 p2 p3)), .second] [(.int (cmpValue (FP.dcmp (lw_lost p1 p2 p3) (0 : UInt64)) .l))])) _
    refine XS.ifNo X36.here hx rfl (hb hby at_130) rfl (own_e3 p1 p2 p3) ?_
    show Steps p.tables e below (T36.setTop (mkF m 133 #[.val (.int p1), .val (.int p2), .val (.int p3), .val (.int (lw_r p1 p2 p3)), .val (.int (lw_d p1 p2 p3)), .val (.double (lw_scale p1 p2 p3)), .second, .val (.double (lw_rate p1 p2 p3)), .second, .val (.double (lw_delta p1 p2 p3)), .second, .val (.ref ad3), .val (.double (lw_lost p1 p2 p3)), .second, .val (.ref ad12), .val (.double (lw_gain p1 p2 p3)), .second, .val (.double (lw_ref p1 p2 p3)), .second] [])) _
    refine XS.dload X36.here hx rfl (hb hby at_133) rfl ?_
    show Steps p.tables e below (T36.setTop (mkF m 135 #[.val (.int p1), .val (.int p2), .val (.int p3), .val (.int (lw_r p1 p2 p3)), .val (.int (lw_d p1 p2 p3)), .val (.double (lw_scale p1 p2 p3)), .second, .val (.double (lw_rate p1 p2 p3)), .second, .val (.double (lw_delta p1 p2 p3)), .second, .val (.ref ad3), .val (.double (lw_lost p1 p2 p3)), .second, .val (.ref ad12), .val (.double (lw_gain p1 p2 p3)), .second, .val (.double (lw_ref p1 p2 p3)), .second] [(.double (lw_lost p1 p2 p3))])) _
    refine XS.dconst1 X36.here hx rfl (hb hby at_135) rfl ?_
    show Steps p.tables e below (T36.setTop (mkF m 136 #[.val (.int p1), .val (.int p2), .val (.int p3), .val (.int (lw_r p1 p2 p3)), .val (.int (lw_d p1 p2 p3)), .val (.double (lw_scale p1 p2 p3)), .second, .val (.double (lw_rate p1 p2 p3)), .second, .val (.double (lw_delta p1 p2 p3)), .second, .val (.ref ad3), .val (.double (lw_lost p1 p2 p3)), .second, .val (.ref ad12), .val (.double (lw_gain p1 p2 p3)), .second, .val (.double (lw_ref p1 p2 p3)), .second] [(.double (4607182418800017408 : UInt64)), (.double (lw_lost p1 p2 p3))])) _
    refine XS.dcmpS X36.here hx rfl (hb hby at_136) rfl rfl ?_
    show Steps p.tables e below (T36.setTop (mkF m 137 #[.val (.int p1), .val (.int p2), .val (.int p3), .val (.int (lw_r p1 p2 p3)), .val (.int (lw_d p1 p2 p3)), .val (.double (lw_scale p1 p2 p3)), .second, .val (.double (lw_rate p1 p2 p3)), .second, .val (.double (lw_delta p1 p2 p3)), .second, .val (.ref ad3), .val (.double (lw_lost p1 p2 p3)), .second, .val (.ref ad12), .val (.double (lw_gain p1 p2 p3)), .second, .val (.double (lw_ref p1 p2 p3)), .second] [(.int (cmpValue (FP.dcmp (lw_lost p1 p2 p3) (4607182418800017408 : UInt64)) .g))])) _
    refine XS.ifNo X36.here hx rfl (hb hby at_137) rfl (own_e4 p1 p2 p3) ?_
    show Steps p.tables e below (T36.setTop (mkF m 140 #[.val (.int p1), .val (.int p2), .val (.int p3), .val (.int (lw_r p1 p2 p3)), .val (.int (lw_d p1 p2 p3)), .val (.double (lw_scale p1 p2 p3)), .second, .val (.double (lw_rate p1 p2 p3)), .second, .val (.double (lw_delta p1 p2 p3)), .second, .val (.ref ad3), .val (.double (lw_lost p1 p2 p3)), .second, .val (.ref ad12), .val (.double (lw_gain p1 p2 p3)), .second, .val (.double (lw_ref p1 p2 p3)), .second] [])) _
    refine XS.iconst X36.here hx rfl (hb hby at_140) ?_
    show Steps p.tables e below (T36.setTop (mkF m 141 #[.val (.int p1), .val (.int p2), .val (.int p3), .val (.int (lw_r p1 p2 p3)), .val (.int (lw_d p1 p2 p3)), .val (.double (lw_scale p1 p2 p3)), .second, .val (.double (lw_rate p1 p2 p3)), .second, .val (.double (lw_delta p1 p2 p3)), .second, .val (.ref ad3), .val (.double (lw_lost p1 p2 p3)), .second, .val (.ref ad12), .val (.double (lw_gain p1 p2 p3)), .second, .val (.double (lw_ref p1 p2 p3)), .second] [(.int (1 : Int32))])) _
    refine XS.goto X36.here hx rfl (pc0 := 141) (pc' := 145) rfl (hb hby at_141) (by decide) (by decide) ?_
    show Steps p.tables e below (T36.setTop (mkF m 145 #[.val (.int p1), .val (.int p2), .val (.int p3), .val (.int (lw_r p1 p2 p3)), .val (.int (lw_d p1 p2 p3)), .val (.double (lw_scale p1 p2 p3)), .second, .val (.double (lw_rate p1 p2 p3)), .second, .val (.double (lw_delta p1 p2 p3)), .second, .val (.ref ad3), .val (.double (lw_lost p1 p2 p3)), .second, .val (.ref ad12), .val (.double (lw_gain p1 p2 p3)), .second, .val (.double (lw_ref p1 p2 p3)), .second] [(.int (1 : Int32))])) _
    exact retN X36 hx (t := .boolean) Bd.returns (by simp) (hb hby at_145) hr
  · show Q_lw Z p1 p2 p3  h0 n0 _ T36.heap _
    exact ⟨rfl, Nn36⟩
set_option maxRecDepth 65536 in
set_option maxHeartbeats 40000000 in
theorem comes_1 {Post : Tables → Env → Array Value → State → Outcome → State → Prop} (hpost : ∀ tb e args s v u, (limb_1_1.after args s (.returned v) u = true ∧ limb_1_2.after args s (.returned v) u = true ∧ True) → FrameEnd s (.returned v) u (Jvm.fieldLocs frame_1_writes args s ++ Jvm.arrayLocs frame_1_arrays args s ++ Jvm.staticLocs frame_1_statics s) 16 128 → Post tb e args s (.returned v) u) :
    ArmFor flags0 classFile x code maxLocals ret World_1 tables_1 room_1 Calls_1 rest_1 Pre_1 Post := by
  intro l hfl _ _ p e ha hc hk s m args below hf hA hF happ hP
  obtain ⟨hcalls, hrest, hpre⟩ := hP
  obtain ⟨-, -, -, hnamed, -, -, -, hat⟩ := (Spec.applies_iff hf).mp happ
  obtain ⟨hg, hn⟩ := and_e (Cond.before_iff.mp (show (Jvm.Cond.and given_1 narrow_1).before args s = true from hpre))
  obtain ⟨h1, g0⟩ := and_e hg
  obtain ⟨i0, g1⟩ := and_e g0
  obtain ⟨i1, g2⟩ := and_e g1
  obtain ⟨w0, w1, w2, rfl⟩ : ∃ w0 w1 w2 : Value, args = #[w0, w1, w2] := by
    have hs : args.size = 3 := by simpa [Cond.value, given_1] using h1
    obtain ⟨L⟩ := args
    match L, hs with
    | [w0, w1, w2], _ => exact ⟨w0, w1, w2, rfl⟩
  have hw := fun d (hd : d ∈ tables_1) => atoms_spec (ws := Jvm.Cond.code x code maxLocals ret :: tables_1) hat d (List.mem_cons_of_mem _ hd)
  obtain ⟨v0, e0⟩ := is_v i0
  obtain rfl : w0 = (.int v0) := Option.some.inj e0
  obtain ⟨v1, e1⟩ := is_v i1
  obtain rfl : w1 = (.int v1) := Option.some.inj e1
  obtain ⟨v2, e2⟩ := is_v g2
  obtain rfl : w2 = (.int v2) := Option.some.inj e2
  obtain ⟨n, o, h1, h2, h3, _, L, rfl, ⟨rfl, N⟩, hq⟩ := rm_lw l s _ hw tables_1 v0 v1 v2  s.heap s.heap.size (Nat.le_refl _)  p e ha hc hk s m _ below hf ((Spec.applies_iff_loose hf).mp happ).1 ⟨rfl, State.Warmed39.refl s, rfl⟩ trivial
  refine ⟨n, _, h1, h2, h3, hpost _ _ _ _ _ _ ⟨Cond.after_iff.mpr rfl, Cond.after_iff.mpr (eq_i res_at (Term.int_eval (1)) rfl), trivial⟩ ⟨hq.1, hq.2.1, (hq.2.2.sift fun y hy => Or.inr (N y hy)).mono (by decide) (by decide)⟩⟩
theorem main_1_1 : Claimed_1_1 := comes_1 fun _ _ _ _ _ _ h hF => ⟨h.1, hF⟩
theorem main_1_2 : Claimed_1_2 := comes_1 fun _ _ _ _ _ _ h hF => ⟨h.2.1, hF⟩
end Jvm.Pilot.@@N@@
namespace Jvm.Pilot.@@N@@
open Jvm Jvm.ClassFile Sem Op Lib Jvm.Free Jvm.Stand Jvm.Pilot.@@N@@.Jvm.D
/-! MADE BY PROGRAM (witnessworld.py) out of the Statement's table words and the real class files: 17 classes; the members and pool entries that the words name. The judged class is class 1, her method 1. -/
namespace start1
open Jvm.ClassFile
def u (s : String) : CpInfo := .utf8 (stringToUtf16 s)
/-- a pool by its gaps: so many unusable entries, then the entry; so many at the end -/
def gap : Nat → List CpInfo → List CpInfo
  | 0, r => r
  | n + 1, r => .unusable :: gap n r
def poolList (es : List (Nat × CpInfo)) (last : Nat) : List CpInfo := es.foldr (fun e r => gap e.1 (e.2 :: r)) (gap last [])
def pool (es : List (Nat × CpInfo)) (last : Nat) : Array CpInfo := ⟨poolList es last⟩
def fileOf (pool : Array CpInfo) (this : Nat) (attrs : Array Attribute := #[]) (ms : Array MethodInfo := #[]) (fl : Nat := 33) (sup : Nat := 0) (ifs : Array Nat := #[]) (fds : Array FieldInfo := #[]) : ClassFile where
  minorVersion := 0
  majorVersion := 65
  constantPool := pool
  accessFlags := fl
  thisClass := this
  superClass := sup
  interfaces := ifs
  fields := fds
  methods := ms
  attributes := attrs
def plain (name : String) (sup : Option ClassId) : Class where
  name := name
  kind := .ordinary
  loader := none
  accessFlags := 33
  super := sup
  interfaces := #[]
  cf := none
  fields := #[]
  methods := #[]
  instanceTypes := #[]
  staticTypes := #[]
  resolved := #[]
  callSites := []
  init := .initialized
  statics := none
  mirror := none

def pool0 : Array CpInfo := pool [(5, u "<init>"), (0, u "()V"), (1, .class_ 10), (1, u "java/lang/Object")] 113

def k0c0 : Code := { maxStack := 0, maxLocals := 1, code := object_method_1_code, exceptionTable := #[], attributes := #[] }
def k0m0 : Method := { name := "<init>", desc := "()V", sig := { parameters := [], returnType := none }, accessFlags := 1, code := some k0c0 }
/-- java/lang/Object -/
def k0 : Class := { plain "java/lang/Object" none with
  accessFlags := 33
  interfaces := #[]
  cf := some (fileOf pool0 8 #[] #[{ accessFlags := 1, nameIndex := 5, descriptorIndex := 6, attributes := #[] }] 33 0 #[] #[])
  fields := #[]
  methods := #[k0m0]
  instanceTypes := #[]
  staticTypes := #[]
  resolved := Array.replicate 124 none
  statics := none }

def pool1 : Array CpInfo := pool [(2, .class_ 4), (1, u "java/lang/Object"), (0, u "<init>"), (0, u "()V"), (0, .integer 1048575), (0, .double 4652218415073722368), (1, .class_ 11), (0, u "com/example/gavelflow/gavelflow/market/PoissonArrivals"), (0, .methodref 10 13), (0, .nameAndType 5 14), (0, u "(D)V"), (0, .class_ 16), (0, u "com/example/gavelflow/gavelflow/market/Discounting"), (0, .methodref 15 13), (0, .methodref 10 19), (0, .nameAndType 20 21), (0, u "discountLostToNextArrival"), (0, u "(Lcom/example/gavelflow/gavelflow/market/Discounting;)D"), (0, .methodref 10 23), (0, .nameAndType 24 21), (0, u "discountToNextArrival"), (0, .class_ 26), (0, u "com/example/gavelflow/gavelflow/market/PoissonArrivalsDiscountLostToNextArrivalPinLaw"), (2, u "law"), (0, u "(III)Z")] 3

def k1m0 : Method := { name := "<init>", desc := "()V", sig := { parameters := [], returnType := none }, accessFlags := 1, code := none }
def k1c1 : Code := { maxStack := 5, maxLocals := 19, code := code, exceptionTable := #[], attributes := #[] }
def k1m1 : Method := { name := "law", desc := "(III)Z", sig := { parameters := [.int, .int, .int], returnType := some .boolean }, accessFlags := 9, code := some k1c1 }
/-- com/example/gavelflow/gavelflow/market/PoissonArrivalsDiscountLostToNextArrivalPinLaw -/
def k1 : Class := { plain "com/example/gavelflow/gavelflow/market/PoissonArrivalsDiscountLostToNextArrivalPinLaw" (some 0) with
  accessFlags := 49
  interfaces := #[]
  cf := some (fileOf pool1 25 #[] #[{ accessFlags := 1, nameIndex := 5, descriptorIndex := 6, attributes := #[] }, { accessFlags := 9, nameIndex := 29, descriptorIndex := 30, attributes := #[] }] 49 2 #[] #[])
  fields := #[]
  methods := #[k1m0, k1m1]
  instanceTypes := #[]
  staticTypes := #[]
  resolved := Array.replicate 34 none
  statics := none }

def pool2 : Array CpInfo := pool [(1, .methodref 2 3), (0, .class_ 4), (0, .nameAndType 5 6), (0, u "java/lang/Object"), (0, u "<init>"), (0, u "()V"), (0, .class_ 8), (0, u "java/lang/Record")] 13

def k2c0 : Code := { maxStack := 1, maxLocals := 1, code := jdk_30_method_1_code, exceptionTable := #[], attributes := #[] }
def k2m0 : Method := { name := "<init>", desc := "()V", sig := { parameters := [], returnType := none }, accessFlags := 4, code := some k2c0 }
/-- java/lang/Record -/
def k2 : Class := { plain "java/lang/Record" (some 0) with
  accessFlags := 1057
  interfaces := #[]
  cf := some (fileOf pool2 7 #[] #[{ accessFlags := 4, nameIndex := 5, descriptorIndex := 6, attributes := #[] }] 1057 2 #[] #[])
  fields := #[]
  methods := #[k2m0]
  instanceTypes := #[]
  staticTypes := #[]
  resolved := Array.replicate 22 none
  statics := none }

def pool3 : Array CpInfo := pool [(1, .methodref 2 3), (0, .class_ 4), (0, .nameAndType 5 6), (0, u "java/lang/Record"), (0, u "<init>"), (0, u "()V"), (0, .methodref 8 9), (0, .class_ 10), (0, .nameAndType 11 12), (0, u "java/lang/Double"), (0, u "isFinite"), (0, u "(D)Z"), (9, .fieldref 23 24), (0, .class_ 25), (0, .nameAndType 26 27), (0, u "com/example/gavelflow/gavelflow/market/PoissonArrivals"), (0, u "rate"), (0, u "D"), (0, .methodref 29 30), (0, .class_ 31), (0, .nameAndType 32 33), (0, u "com/example/gavelflow/gavelflow/market/Discounting"), (0, u "forceOfInterest"), (0, u "()D"), (12, u "(D)V"), (4, u "discountToNextArrival"), (0, u "(Lcom/example/gavelflow/gavelflow/market/Discounting;)D"), (0, u "discountLostToNextArrival")] 30

def k3c0 : Code := { maxStack := 4, maxLocals := 3, code := prog_18_method_1_code, exceptionTable := #[], attributes := #[] }
def k3m0 : Method := { name := "<init>", desc := "(D)V", sig := { parameters := [.double], returnType := none }, accessFlags := 1, code := some k3c0 }
def k3c1 : Code := { maxStack := 6, maxLocals := 2, code := prog_18_method_2_code, exceptionTable := #[], attributes := #[] }
def k3m1 : Method := { name := "discountToNextArrival", desc := "(Lcom/example/gavelflow/gavelflow/market/Discounting;)D", sig := { parameters := [(.object "com/example/gavelflow/gavelflow/market/Discounting")], returnType := some .double }, accessFlags := 1, code := some k3c1 }
def k3c2 : Code := { maxStack := 6, maxLocals := 4, code := prog_18_method_3_code, exceptionTable := #[], attributes := #[] }
def k3m2 : Method := { name := "discountLostToNextArrival", desc := "(Lcom/example/gavelflow/gavelflow/market/Discounting;)D", sig := { parameters := [(.object "com/example/gavelflow/gavelflow/market/Discounting")], returnType := some .double }, accessFlags := 1, code := some k3c2 }
/-- com/example/gavelflow/gavelflow/market/PoissonArrivals -/
def k3 : Class := { plain "com/example/gavelflow/gavelflow/market/PoissonArrivals" (some 2) with
  accessFlags := 49
  interfaces := #[]
  cf := some (fileOf pool3 23 #[] #[{ accessFlags := 1, nameIndex := 5, descriptorIndex := 46, attributes := #[] }, { accessFlags := 1, nameIndex := 51, descriptorIndex := 52, attributes := #[] }, { accessFlags := 1, nameIndex := 53, descriptorIndex := 52, attributes := #[] }] 49 2 #[] #[{ accessFlags := 18, nameIndex := 26, descriptorIndex := 27, attributes := #[] }])
  fields := #[{ name := "rate", type := .double, accessFlags := 18, slot := 0, constantValue := 0 }]
  methods := #[k3m0, k3m1, k3m2]
  instanceTypes := #[.double]
  staticTypes := #[]
  resolved := Array.replicate 84 none
  statics := none }

def pool4 : Array CpInfo := pool [(1, .class_ 2), (0, u "java/io/Serializable"), (0, .class_ 4), (0, u "java/lang/Object")] 2

/-- java/io/Serializable -/
def k4 : Class := { plain "java/io/Serializable" (some 0) with
  accessFlags := 1537
  interfaces := #[]
  cf := some (fileOf pool4 1 #[] #[] 1537 3 #[] #[])
  fields := #[]
  methods := #[]
  instanceTypes := #[]
  staticTypes := #[]
  resolved := Array.replicate 7 none
  statics := none }

def pool5 : Array CpInfo := pool [(2, .class_ 4), (1, u "java/lang/Object"), (0, u "<init>"), (0, u "()V"), (1, .class_ 10), (1, u "java/lang/Number"), (2, .class_ 14), (0, u "java/io/Serializable"), (0, u "serialVersionUID"), (0, u "J")] 20

def k5m0 : Method := { name := "<init>", desc := "()V", sig := { parameters := [], returnType := none }, accessFlags := 1, code := none }
/-- java/lang/Number -/
def k5 : Class := { plain "java/lang/Number" (some 0) with
  accessFlags := 1057
  interfaces := #[4]
  cf := some (fileOf pool5 8 #[] #[{ accessFlags := 1, nameIndex := 5, descriptorIndex := 6, attributes := #[] }] 1057 2 #[13] #[{ accessFlags := 26, nameIndex := 15, descriptorIndex := 16, attributes := #[] }])
  fields := #[{ name := "serialVersionUID", type := .long, accessFlags := 26, slot := 0, constantValue := 0 }]
  methods := #[k5m0]
  instanceTypes := #[]
  staticTypes := #[.long]
  resolved := Array.replicate 37 none
  statics := none }

def pool6 : Array CpInfo := pool [(1, .class_ 2), (0, u "java/lang/Comparable"), (0, .class_ 4), (0, u "java/lang/Object")] 7

/-- java/lang/Comparable -/
def k6 : Class := { plain "java/lang/Comparable" (some 0) with
  accessFlags := 1537
  interfaces := #[]
  cf := some (fileOf pool6 1 #[] #[] 1537 3 #[] #[])
  fields := #[]
  methods := #[]
  instanceTypes := #[]
  staticTypes := #[]
  resolved := Array.replicate 12 none
  statics := none }

def pool7 : Array CpInfo := pool [(1, .class_ 2), (0, u "java/lang/constant/Constable"), (0, .class_ 4), (0, u "java/lang/Object")] 6

/-- java/lang/constant/Constable -/
def k7 : Class := { plain "java/lang/constant/Constable" (some 0) with
  accessFlags := 1537
  interfaces := #[]
  cf := some (fileOf pool7 1 #[] #[] 1537 3 #[] #[])
  fields := #[]
  methods := #[]
  instanceTypes := #[]
  staticTypes := #[]
  resolved := Array.replicate 11 none
  statics := none }

def pool8 : Array CpInfo := pool [(1, .class_ 2), (0, u "java/lang/constant/ConstantDesc"), (0, .class_ 4), (0, u "java/lang/Object")] 32

/-- java/lang/constant/ConstantDesc -/
def k8 : Class := { plain "java/lang/constant/ConstantDesc" (some 0) with
  accessFlags := 1537
  interfaces := #[]
  cf := some (fileOf pool8 1 #[] #[] 1537 3 #[] #[])
  fields := #[]
  methods := #[]
  instanceTypes := #[]
  staticTypes := #[]
  resolved := Array.replicate 37 none
  statics := none }

def pool9 : Array CpInfo := pool [(1, .class_ 2), (0, u "java/lang/Double"), (10, u "isFinite"), (0, u "(D)Z"), (8, .class_ 25), (1, u "java/lang/Math"), (12, .methodref 23 39), (0, .nameAndType 40 41), (0, u "abs"), (0, u "(D)D"), (69, .double 9218868437227405311), (2, .class_ 116), (1, u "java/lang/Number"), (3, u "value"), (0, u "D"), (51, u "TYPE"), (0, u "Ljava/lang/Class;"), (0, .class_ 176), (0, u "java/lang/Comparable"), (0, .class_ 178), (0, u "java/lang/constant/Constable"), (0, .class_ 180), (0, u "java/lang/constant/ConstantDesc"), (0, u "POSITIVE_INFINITY"), (3, u "NEGATIVE_INFINITY"), (2, u "NaN"), (2, u "MAX_VALUE"), (0, u "MIN_NORMAL"), (0, u "MIN_VALUE"), (2, u "SIZE"), (0, u "I"), (1, u "PRECISION"), (1, u "MAX_EXPONENT"), (1, u "MIN_EXPONENT"), (1, u "BYTES"), (3, u "serialVersionUID"), (0, u "J")] 79

def k9c0 : Code := { maxStack := 4, maxLocals := 2, code := jdk_117_method_8_code, exceptionTable := #[], attributes := #[] }
def k9m0 : Method := { name := "isFinite", desc := "(D)Z", sig := { parameters := [.double], returnType := some .boolean }, accessFlags := 9, code := some k9c0 }
/-- java/lang/Double -/
def k9 : Class := { plain "java/lang/Double" (some 5) with
  accessFlags := 49
  interfaces := #[6, 7, 8]
  cf := some (fileOf pool9 1 #[] #[{ accessFlags := 9, nameIndex := 13, descriptorIndex := 14, attributes := #[] }] 49 114 #[175, 177, 179] #[{ accessFlags := 25, nameIndex := 181, descriptorIndex := 121, attributes := #[] }, { accessFlags := 25, nameIndex := 185, descriptorIndex := 121, attributes := #[] }, { accessFlags := 25, nameIndex := 188, descriptorIndex := 121, attributes := #[] }, { accessFlags := 25, nameIndex := 191, descriptorIndex := 121, attributes := #[] }, { accessFlags := 25, nameIndex := 192, descriptorIndex := 121, attributes := #[] }, { accessFlags := 25, nameIndex := 193, descriptorIndex := 121, attributes := #[] }, { accessFlags := 25, nameIndex := 196, descriptorIndex := 197, attributes := #[] }, { accessFlags := 25, nameIndex := 199, descriptorIndex := 197, attributes := #[] }, { accessFlags := 25, nameIndex := 201, descriptorIndex := 197, attributes := #[] }, { accessFlags := 25, nameIndex := 203, descriptorIndex := 197, attributes := #[] }, { accessFlags := 25, nameIndex := 205, descriptorIndex := 197, attributes := #[] }, { accessFlags := 25, nameIndex := 173, descriptorIndex := 174, attributes := #[] }, { accessFlags := 18, nameIndex := 120, descriptorIndex := 121, attributes := #[] }, { accessFlags := 26, nameIndex := 209, descriptorIndex := 210, attributes := #[] }])
  fields := #[{ name := "POSITIVE_INFINITY", type := .double, accessFlags := 25, slot := 0, constantValue := 0 }, { name := "NEGATIVE_INFINITY", type := .double, accessFlags := 25, slot := 1, constantValue := 0 }, { name := "NaN", type := .double, accessFlags := 25, slot := 2, constantValue := 0 }, { name := "MAX_VALUE", type := .double, accessFlags := 25, slot := 3, constantValue := 0 }, { name := "MIN_NORMAL", type := .double, accessFlags := 25, slot := 4, constantValue := 0 }, { name := "MIN_VALUE", type := .double, accessFlags := 25, slot := 5, constantValue := 0 }, { name := "SIZE", type := .int, accessFlags := 25, slot := 6, constantValue := 0 }, { name := "PRECISION", type := .int, accessFlags := 25, slot := 7, constantValue := 0 }, { name := "MAX_EXPONENT", type := .int, accessFlags := 25, slot := 8, constantValue := 0 }, { name := "MIN_EXPONENT", type := .int, accessFlags := 25, slot := 9, constantValue := 0 }, { name := "BYTES", type := .int, accessFlags := 25, slot := 10, constantValue := 0 }, { name := "TYPE", type := (.object "java/lang/Class"), accessFlags := 25, slot := 11, constantValue := 0 }, { name := "value", type := .double, accessFlags := 18, slot := 0, constantValue := 0 }, { name := "serialVersionUID", type := .long, accessFlags := 26, slot := 12, constantValue := 0 }]
  methods := #[k9m0]
  instanceTypes := #[.double]
  staticTypes := #[.double, .double, .double, .double, .double, .double, .int, .int, .int, .int, .int, (.object "java/lang/Class"), .long]
  resolved := Array.replicate 290 none
  statics := none }

def pool10 : Array CpInfo := pool [(1, .class_ 2), (0, u "java/lang/Math"), (1, .class_ 6), (1, u "java/lang/Object"), (0, u "<init>"), (0, u "()V"), (5, u "(D)D"), (83, .class_ 100), (1, u "java/lang/Math$RandomNumberGeneratorHolder"), (23, u "abs"), (47, u "negativeZeroFloatBits"), (0, u "J"), (2, u "negativeZeroDoubleBits"), (68, u "$assertionsDisabled"), (0, u "Z"), (91, u "twoToTheDoubleScaleDown"), (0, u "D"), (4, u "twoToTheDoubleScaleUp"), (9, u "E"), (3, u "PI"), (2, u "TAU"), (2, u "DEGREES_TO_RADIANS"), (0, u "RADIANS_TO_DEGREES")] 94

def k10m0 : Method := { name := "<init>", desc := "()V", sig := { parameters := [], returnType := none }, accessFlags := 2, code := none }
def k10c1 : Code := { maxStack := 4, maxLocals := 2, code := jdk_29_method_64_code, exceptionTable := #[], attributes := #[] }
def k10m1 : Method := { name := "abs", desc := "(D)D", sig := { parameters := [.double], returnType := some .double }, accessFlags := 9, code := some k10c1 }
/-- java/lang/Math -/
def k10 : Class := { plain "java/lang/Math" (some 0) with
  accessFlags := 49
  interfaces := #[]
  cf := some (fileOf pool10 1 #[.nestMembers #[98]] #[{ accessFlags := 2, nameIndex := 7, descriptorIndex := 8, attributes := #[] }, { accessFlags := 9, nameIndex := 124, descriptorIndex := 14, attributes := #[] }] 49 4 #[] #[{ accessFlags := 25, nameIndex := 354, descriptorIndex := 339, attributes := #[] }, { accessFlags := 25, nameIndex := 358, descriptorIndex := 339, attributes := #[] }, { accessFlags := 25, nameIndex := 361, descriptorIndex := 339, attributes := #[] }, { accessFlags := 26, nameIndex := 364, descriptorIndex := 339, attributes := #[] }, { accessFlags := 26, nameIndex := 365, descriptorIndex := 339, attributes := #[] }, { accessFlags := 26, nameIndex := 172, descriptorIndex := 173, attributes := #[] }, { accessFlags := 26, nameIndex := 176, descriptorIndex := 173, attributes := #[] }, { accessFlags := 8, nameIndex := 344, descriptorIndex := 339, attributes := #[] }, { accessFlags := 8, nameIndex := 338, descriptorIndex := 339, attributes := #[] }, { accessFlags := 4120, nameIndex := 245, descriptorIndex := 246, attributes := #[] }])
  fields := #[{ name := "E", type := .double, accessFlags := 25, slot := 0, constantValue := 0 }, { name := "PI", type := .double, accessFlags := 25, slot := 1, constantValue := 0 }, { name := "TAU", type := .double, accessFlags := 25, slot := 2, constantValue := 0 }, { name := "DEGREES_TO_RADIANS", type := .double, accessFlags := 26, slot := 3, constantValue := 0 }, { name := "RADIANS_TO_DEGREES", type := .double, accessFlags := 26, slot := 4, constantValue := 0 }, { name := "negativeZeroFloatBits", type := .long, accessFlags := 26, slot := 5, constantValue := 0 }, { name := "negativeZeroDoubleBits", type := .long, accessFlags := 26, slot := 6, constantValue := 0 }, { name := "twoToTheDoubleScaleUp", type := .double, accessFlags := 8, slot := 7, constantValue := 0 }, { name := "twoToTheDoubleScaleDown", type := .double, accessFlags := 8, slot := 8, constantValue := 0 }, { name := "$assertionsDisabled", type := .boolean, accessFlags := 4120, slot := 9, constantValue := 0 }]
  methods := #[k10m0, k10m1]
  instanceTypes := #[]
  staticTypes := #[.double, .double, .double, .double, .double, .long, .long, .double, .double, .boolean]
  resolved := Array.replicate 460 none
  statics := none }

def pool11 : Array CpInfo := pool [(1, .methodref 2 3), (0, .class_ 4), (0, .nameAndType 5 6), (0, u "java/lang/Record"), (0, u "<init>"), (0, u "()V"), (0, .methodref 8 9), (0, .class_ 10), (0, .nameAndType 11 12), (0, u "java/lang/Double"), (0, u "isFinite"), (0, u "(D)Z"), (9, .fieldref 23 24), (0, .class_ 25), (0, .nameAndType 26 27), (0, u "com/example/gavelflow/gavelflow/market/Discounting"), (0, u "forceOfInterest"), (0, u "D"), (9, u "(D)V"), (33, u "()D")] 36

def k11c0 : Code := { maxStack := 4, maxLocals := 3, code := prog_13_method_1_code, exceptionTable := #[], attributes := #[] }
def k11m0 : Method := { name := "<init>", desc := "(D)V", sig := { parameters := [.double], returnType := none }, accessFlags := 1, code := some k11c0 }
def k11c1 : Code := { maxStack := 2, maxLocals := 1, code := prog_13_method_10_code, exceptionTable := #[], attributes := #[] }
def k11m1 : Method := { name := "forceOfInterest", desc := "()D", sig := { parameters := [], returnType := some .double }, accessFlags := 1, code := some k11c1 }
/-- com/example/gavelflow/gavelflow/market/Discounting -/
def k11 : Class := { plain "com/example/gavelflow/gavelflow/market/Discounting" (some 2) with
  accessFlags := 49
  interfaces := #[]
  cf := some (fileOf pool11 23 #[] #[{ accessFlags := 1, nameIndex := 5, descriptorIndex := 37, attributes := #[] }, { accessFlags := 1, nameIndex := 26, descriptorIndex := 71, attributes := #[] }] 49 2 #[] #[{ accessFlags := 18, nameIndex := 26, descriptorIndex := 27, attributes := #[] }])
  fields := #[{ name := "forceOfInterest", type := .double, accessFlags := 18, slot := 0, constantValue := 0 }]
  methods := #[k11m0, k11m1]
  instanceTypes := #[.double]
  staticTypes := #[]
  resolved := Array.replicate 108 none
  statics := none }

def pool12 : Array CpInfo := pool [(1, u "java/lang/Cloneable"), (0, .class_ 1), (0, u "java/lang/Object"), (0, .class_ 3)] 3

/-- java/lang/Cloneable -/
def k12 : Class := { plain "java/lang/Cloneable" (some 0) with
  accessFlags := 1537
  interfaces := #[]
  cf := some (fileOf pool12 2 #[] #[] 1537 4 #[] #[])
  fields := #[]
  methods := #[]
  instanceTypes := #[]
  staticTypes := #[]
  resolved := Array.replicate 8 none
  statics := none }

/-- the primitive byte -/
def k13 : Class := { plain "byte" none with kind := .primitive 'B', accessFlags := 0x411 }
/-- [B -/
def k14 : Class := { plain "[B" (some 0) with kind := .array 13 .byte, interfaces := #[12, 4], accessFlags := 1041 }

/-- the primitive int -/
def k15 : Class := { plain "int" none with kind := .primitive 'I', accessFlags := 0x411 }
/-- [I -/
def k16 : Class := { plain "[I" (some 0) with kind := .array 15 .int, interfaces := #[12, 4], accessFlags := 1041 }

def heap : Heap := #[]
def classes : Array Class := #[k0, k1, k2, k3, k4, k5, k6, k7, k8, k9, k10, k11, k12, k13, k14, k15, k16]
def interned : List (Array UInt16 × Addr) := []
def slotsUsed : Nat := 0
def theMethod : MethodId := ⟨1, 1⟩
def args0 : Array Value := #[.int 3, .int 4, .int 5]
def aboutOver (below : List Frame) : State where
  vm := { classes := classes, interned := interned.toArray }
  heap := heap
  slotsUsed := slotsUsed
  threads := #[{ frames := .invoking theMethod args0 :: below }]
def below0 : List Frame := [.native { method := ⟨0, 0⟩, args := #[] }]
def about1 : State := aboutOver below0
def p0 : Program := .bare "" "" ""
def e0 : Env := launch0.env 0 0 0
theorem w_frames : about1.frames = Frame.invoking theMethod args0 :: below0 := rfl
set_option maxRecDepth 65536 in
theorem w_args : argsFit about1.vm theMethod args0 = true := by decide +kernel
set_option maxRecDepth 65536 in
theorem w_heap : heapFits about1 = true := by decide +kernel
set_option maxRecDepth 65536 in
theorem w_runnable : about1.curStatus? = some .runnable := by decide +kernel
set_option maxRecDepth 65536 in
theorem w_alone : about1.alone = true := by decide +kernel
set_option maxRecDepth 65536 in
theorem w_named : about1.methodNamed? x = some theMethod := by decide +kernel
set_option maxRecDepth 65536 in
theorem w_hears : about1.hears theMethod below0 = true := by decide +kernel
set_option maxRecDepth 65536 in
theorem w_ripe : about1.ripe theMethod args0 below0 = true := by decide +kernel
theorem w_running : about1.status = .running := rfl
set_option maxRecDepth 65536 in
theorem w_room : about1.hasRoom e0.platform room_1 = true :=
  launch0.hasRoom_least _ room_1 (by decide +kernel) (by decide +kernel) (by decide +kernel) (by decide +kernel) (by decide +kernel) (by decide +kernel)
theorem allAtoms_all (ts : List Jvm.Cond) (a : Array Jvm.Value) (st : Jvm.State) : (allAtoms ts).before a st = ts.all (fun c => c.before a st) := by
  induction ts with
  | nil => rfl
  | cons c t ih =>
    show (Jvm.Cond.and c (allAtoms t)).before a st = _
    rw [Jvm.Cond.before_and, ih, List.all_cons]
def words1 : List Jvm.Cond := Jvm.Cond.code x code maxLocals ret :: tables_1
/-- a 'code' word, met by the world's own term for the bytes: nothing is compared byte by byte -/
theorem code_word {y : MethodName} {bytes : ByteArray} {mx : Nat} {rt : Option FieldType} {a : Array Value} {s : State} {m : MethodId} {meth : Method} {c : Code} (h1 : s.methodNamed? y = some m) (h2 : s.vm.method? m = some meth) (h3 : meth.code = some c) (h4 : c.code = bytes)
    (h5 : (c.maxLocals == mx && c.exceptionTable.isEmpty && decide (c.maxStack ≤ mostOperands) && decide (meth.sig.returnType = rt) && !meth.locks && decide (parseMethodDescriptor y.desc = some meth.sig)) = true) : (Jvm.Cond.code y bytes mx rt).before a s = true := by
  simp only [Bool.and_eq_true, beq_iff_eq, Bool.not_eq_true', decide_eq_true_eq] at h5
  obtain ⟨⟨⟨⟨⟨g1, g2⟩, g3⟩, g4⟩, g5⟩, g6⟩ := h5
  simp [Cond.before, Cond.holds, Cond.value, h1, h2, h3, h4, g1, g2, g3, g4, g5, g6]
def isCode : Jvm.Cond → Bool
  | .code _ _ _ _ => true
  | _ => false
theorem all_split {L : List Jvm.Cond} {P : Jvm.Cond → Bool} (h1 : L.all (fun c => isCode c || P c) = true) (h2 : ∀ c ∈ L.filter isCode, P c = true) : L.all P = true := by
  refine List.all_eq_true.mpr fun c hc => ?_
  have h := List.all_eq_true.mp h1 c hc
  rcases Bool.eq_false_or_eq_true (isCode c) with hi | hi
  · exact h2 c (List.mem_filter.mpr ⟨hc, hi⟩)
  · simpa [hi] using h
set_option maxRecDepth 65536 in
theorem w_c0 : (Jvm.Cond.code x code maxLocals ret).before args0 about1 = true := code_word (m := ⟨1, 1⟩) (meth := k1m1) (c := k1c1) (by decide +kernel) rfl rfl rfl (by decide +kernel)
set_option maxRecDepth 65536 in
theorem w_c1 : (Jvm.Cond.code ({ cls := "com/example/gavelflow/gavelflow/market/PoissonArrivals", name := "<init>", desc := "(D)V" } : Jvm.MethodName) prog_18_method_1_code (3 : Nat) (Option.none : Option Jvm.ClassFile.FieldType)).before args0 about1 = true := code_word (m := ⟨3, 0⟩) (meth := k3m0) (c := k3c0) (by decide +kernel) rfl rfl rfl (by decide +kernel)
set_option maxRecDepth 65536 in
theorem w_c2 : (Jvm.Cond.code ({ cls := "java/lang/Record", name := "<init>", desc := "()V" } : Jvm.MethodName) jdk_30_method_1_code (1 : Nat) (Option.none : Option Jvm.ClassFile.FieldType)).before args0 about1 = true := code_word (m := ⟨2, 0⟩) (meth := k2m0) (c := k2c0) (by decide +kernel) rfl rfl rfl (by decide +kernel)
set_option maxRecDepth 65536 in
theorem w_c3 : (Jvm.Cond.code ({ cls := "java/lang/Object", name := "<init>", desc := "()V" } : Jvm.MethodName) object_method_1_code (1 : Nat) (Option.none : Option Jvm.ClassFile.FieldType)).before args0 about1 = true := code_word (m := ⟨0, 0⟩) (meth := k0m0) (c := k0c0) (by decide +kernel) rfl rfl rfl (by decide +kernel)
set_option maxRecDepth 65536 in
theorem w_c4 : (Jvm.Cond.code ({ cls := "java/lang/Double", name := "isFinite", desc := "(D)Z" } : Jvm.MethodName) jdk_117_method_8_code (2 : Nat) (Option.some Jvm.ClassFile.FieldType.boolean)).before args0 about1 = true := code_word (m := ⟨9, 0⟩) (meth := k9m0) (c := k9c0) (by decide +kernel) rfl rfl rfl (by decide +kernel)
set_option maxRecDepth 65536 in
theorem w_c5 : (Jvm.Cond.code ({ cls := "java/lang/Math", name := "abs", desc := "(D)D" } : Jvm.MethodName) jdk_29_method_64_code (2 : Nat) (Option.some Jvm.ClassFile.FieldType.double)).before args0 about1 = true := code_word (m := ⟨10, 1⟩) (meth := k10m1) (c := k10c1) (by decide +kernel) rfl rfl rfl (by decide +kernel)
set_option maxRecDepth 65536 in
theorem w_c6 : (Jvm.Cond.code ({ cls := "com/example/gavelflow/gavelflow/market/Discounting", name := "<init>", desc := "(D)V" } : Jvm.MethodName) prog_13_method_1_code (3 : Nat) (Option.none : Option Jvm.ClassFile.FieldType)).before args0 about1 = true := code_word (m := ⟨11, 0⟩) (meth := k11m0) (c := k11c0) (by decide +kernel) rfl rfl rfl (by decide +kernel)
set_option maxRecDepth 65536 in
theorem w_c7 : (Jvm.Cond.code ({ cls := "com/example/gavelflow/gavelflow/market/PoissonArrivals", name := "discountLostToNextArrival", desc := "(Lcom/example/gavelflow/gavelflow/market/Discounting;)D" } : Jvm.MethodName) prog_18_method_3_code (4 : Nat) (Option.some Jvm.ClassFile.FieldType.double)).before args0 about1 = true := code_word (m := ⟨3, 2⟩) (meth := k3m2) (c := k3c2) (by decide +kernel) rfl rfl rfl (by decide +kernel)
set_option maxRecDepth 65536 in
theorem w_c8 : (Jvm.Cond.code ({ cls := "com/example/gavelflow/gavelflow/market/Discounting", name := "forceOfInterest", desc := "()D" } : Jvm.MethodName) prog_13_method_10_code (1 : Nat) (Option.some Jvm.ClassFile.FieldType.double)).before args0 about1 = true := code_word (m := ⟨11, 1⟩) (meth := k11m1) (c := k11c1) (by decide +kernel) rfl rfl rfl (by decide +kernel)
set_option maxRecDepth 65536 in
theorem w_c9 : (Jvm.Cond.code ({ cls := "com/example/gavelflow/gavelflow/market/PoissonArrivals", name := "discountToNextArrival", desc := "(Lcom/example/gavelflow/gavelflow/market/Discounting;)D" } : Jvm.MethodName) prog_18_method_2_code (2 : Nat) (Option.some Jvm.ClassFile.FieldType.double)).before args0 about1 = true := code_word (m := ⟨3, 1⟩) (meth := k3m1) (c := k3c1) (by decide +kernel) rfl rfl rfl (by decide +kernel)
def codes1 : List Jvm.Cond := [Jvm.Cond.code x code maxLocals ret, Jvm.Cond.code ({ cls := "com/example/gavelflow/gavelflow/market/PoissonArrivals", name := "<init>", desc := "(D)V" } : Jvm.MethodName) prog_18_method_1_code (3 : Nat) (Option.none : Option Jvm.ClassFile.FieldType), Jvm.Cond.code ({ cls := "java/lang/Record", name := "<init>", desc := "()V" } : Jvm.MethodName) jdk_30_method_1_code (1 : Nat) (Option.none : Option Jvm.ClassFile.FieldType), Jvm.Cond.code ({ cls := "java/lang/Object", name := "<init>", desc := "()V" } : Jvm.MethodName) object_method_1_code (1 : Nat) (Option.none : Option Jvm.ClassFile.FieldType), Jvm.Cond.code ({ cls := "java/lang/Double", name := "isFinite", desc := "(D)Z" } : Jvm.MethodName) jdk_117_method_8_code (2 : Nat) (Option.some Jvm.ClassFile.FieldType.boolean), Jvm.Cond.code ({ cls := "java/lang/Math", name := "abs", desc := "(D)D" } : Jvm.MethodName) jdk_29_method_64_code (2 : Nat) (Option.some Jvm.ClassFile.FieldType.double), Jvm.Cond.code ({ cls := "com/example/gavelflow/gavelflow/market/Discounting", name := "<init>", desc := "(D)V" } : Jvm.MethodName) prog_13_method_1_code (3 : Nat) (Option.none : Option Jvm.ClassFile.FieldType), Jvm.Cond.code ({ cls := "com/example/gavelflow/gavelflow/market/PoissonArrivals", name := "discountLostToNextArrival", desc := "(Lcom/example/gavelflow/gavelflow/market/Discounting;)D" } : Jvm.MethodName) prog_18_method_3_code (4 : Nat) (Option.some Jvm.ClassFile.FieldType.double), Jvm.Cond.code ({ cls := "com/example/gavelflow/gavelflow/market/Discounting", name := "forceOfInterest", desc := "()D" } : Jvm.MethodName) prog_13_method_10_code (1 : Nat) (Option.some Jvm.ClassFile.FieldType.double), Jvm.Cond.code ({ cls := "com/example/gavelflow/gavelflow/market/PoissonArrivals", name := "discountToNextArrival", desc := "(Lcom/example/gavelflow/gavelflow/market/Discounting;)D" } : Jvm.MethodName) prog_18_method_2_code (2 : Nat) (Option.some Jvm.ClassFile.FieldType.double)]
set_option maxRecDepth 65536 in
theorem codes_eq : words1.filter isCode = codes1 := rfl
theorem w_codes : ∀ c ∈ words1.filter isCode, c.before args0 about1 = true := by
  rw [codes_eq]
  intro c hc
  simp only [codes1, List.mem_cons, List.not_mem_nil, or_false] at hc
  rcases hc with rfl | rfl | rfl | rfl | rfl | rfl | rfl | rfl | rfl | rfl
  · exact w_c0
  · exact w_c1
  · exact w_c2
  · exact w_c3
  · exact w_c4
  · exact w_c5
  · exact w_c6
  · exact w_c7
  · exact w_c8
  · exact w_c9
set_option maxRecDepth 65536 in
theorem w_t1 : (words1.take 24).all (fun c => isCode c || c.before args0 about1) = true := by decide +kernel
set_option maxRecDepth 65536 in
theorem w_t2 : ((words1.drop 24).take 24).all (fun c => isCode c || c.before args0 about1) = true := by decide +kernel
set_option maxRecDepth 65536 in
theorem w_t3 : ((words1.drop 24).drop 24).all (fun c => isCode c || c.before args0 about1) = true := by decide +kernel
theorem w_tables : (allAtoms (Jvm.Cond.code x code maxLocals ret :: tables_1)).before args0 about1 = true := by
  rw [allAtoms_all]
  show words1.all (fun c => c.before args0 about1) = true
  refine all_split ?_ w_codes
  rw [← List.take_append_drop 24 words1, List.all_append, w_t1, ← List.take_append_drop 24 (words1.drop 24), List.all_append, w_t2, w_t3]
  rfl
set_option maxRecDepth 65536 in
theorem w_case : (Jvm.Cond.and given_1 narrow_1).before args0 about1 = true := by decide +kernel
theorem w_applies : (headSpec (Jvm.Cond.code x code maxLocals ret :: tables_1) room_1).applies x e0.platform about1 = true :=
  (Spec.applies_iff w_frames).mpr ⟨w_running, w_runnable, w_alone, w_named, w_hears, w_ripe, w_room, w_tables⟩
theorem atStart : AtStart classFile x code maxLocals ret World_1 tables_1 room_1 Calls_1 rest_1 Pre_1 launch0 p0 e0 about1 theMethod args0 below0 :=
  ⟨lists_1, trivial, launch0.admits_env _ _ _, launch0.least_env, fairChoices_fair.cas, fairChoices_fair.clock, w_frames, w_args, w_heap, w_applies, trivial, trivial, w_case⟩
end start1
theorem witness_1 : WitnessClaimed_1 := ⟨start1.p0, start1.e0, start1.about1, start1.theMethod, start1.args0, start1.below0, start1.atStart⟩
end Jvm.Pilot.@@N@@
