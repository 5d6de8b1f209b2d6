import JvmDerived
import JvmDerived.Pilot.@@N@@Statement
import JvmDerived.Pilot.@@N@@Code
set_option linter.unusedVariables false
set_option linter.unusedSimpArgs false
@@BLOCK:NumsL.lean.txt@@
namespace Jvm.RoadKit
open Sem ClassFile Op Lib Jvm.Stand Jvm.Free Jvm.LawKit
section New
variable {p : Program} {l : Launch} {e : Env} {R : Room} {s : State} {m : MethodId} {args : Array Value} {below : List Frame} {meth : Method} {c : Code} {T : State} {locs : List Loc} {cells slots : Nat}
theorem retI (X : Stand p l e R s m args below meth c T locs cells slots) (hx : p.tables.exec = Jvm.exec) {pc : Nat} {Ls : Array Slot} {z : Int32} {rest : List Value} (hret : meth.sig.returnType = some .int) (hd : decode c.code pc = .ok (.ireturn, 1)) {fs : List Frame}
    (hl : ∀ (f : JFrame) (acts : List Action), f.method = m → f.locked = none → f.entered = [] → (doReturn e (T.setTop f) acts (some (.int z))).1 = T.setFrames fs) : Steps p.tables e below (T.setTop (mkF m pc Ls (.int z :: rest))) (T.setFrames fs) := by
  have hm' : T.vm.method? m = some meth := X.method'
  have hn : narrow .int (.int z) = .int z := rfl
  show Steps p.tables e below (T.setTop { method := m, pc := pc, locals := Ls, stack := _ :: rest, locked := none }) _
  jvm_step X.here [X.here.top, hx, hd, hm', hret, hn]
  first | (intro acts; rw [hl _ acts rfl rfl rfl]) | rw [hl _ _ rfl rfl rfl]
  exact Steps.refl _
end New
end Jvm.RoadKit
namespace Jvm.Pilot.@@N@@
open Jvm Jvm.ClassFile Sem Op Lib Jvm.Free Jvm.Stand Jvm.LawKit Jvm.RoadKit Bundle Jvm.Pilot.@@N@@.Jvm.D
/-! own text: doubles as whole numbers of 2^-1074 (own_Fin), what a double can hold (own_Rep), and the four operations by bounds -/
def own_Rep (z : Int) : Prop := ∃ (s : Bool) (c : Nat) (q : Int), FP.Core.fits FP.Core.b64 (.fin s c q) ∧ FP.Core.zval FP.Core.b64 (.fin s c q) = z
def own_Fin (a : UInt64) (z : Int) : Prop := FP.Core.DFin a ∧ FP.Core.zval FP.Core.b64 (FP.Core.val64 a) = z
def own_U : Int := ((FP.Core.one64 : Nat) : Int)
theorem own_U_pos : 0 < own_U := Int.natCast_pos.mpr FP.Core.one64_pos
theorem own_U_lit : own_U = 202402253307310618352495346718917307049556649764142118356901358027430339567995346891960383701437124495187077864316811911389808737385793476867013399940738509921517424276566361364466907742093216341239767678472745068562007483424692698618103355649159556340810056512358769552333414615230502532186327508646006263307707741093494784 := by decide +kernel
theorem own_Fin.rep {a : UInt64} {z : Int} (h : own_Fin a z) : own_Rep z := by
  obtain ⟨⟨s, c, q, e⟩, h⟩ := h
  refine ⟨s, c, q, ?_, ?_⟩
  · rw [← e]; exact FP.Core.val64_fits a
  · rw [← e]; exact h
theorem own_Fin.ne {a : UInt64} {z : Int} (h : own_Fin a z) : FP.Core.val64 a ≠ .nan := h.1.ne_nan
theorem own_Fin.nn {a : UInt64} {z : Int} (h : own_Fin a z) : Jvm.Free.Fl.NoNaN64 a := Jvm.Free.Fl.val64_no.mpr h.ne
def own_Val (a : UInt64) (z : Int) : Prop := FP.Core.val64 a ≠ .nan ∧ FP.Core.zval FP.Core.b64 (FP.Core.val64 a) = z
theorem own_Fin.v {a : UInt64} {z : Int} (h : own_Fin a z) : own_Val a z := ⟨h.ne, h.2⟩
theorem own_Val.nn {a : UInt64} {z : Int} (h : own_Val a z) : Jvm.Free.Fl.NoNaN64 a := Jvm.Free.Fl.val64_no.mpr h.1
theorem own_Fin.cast {a : UInt64} {z w : Int} (h : own_Fin a z) (e : z = w) : own_Fin a w := e ▸ h
theorem own_signed_le (s : Bool) (n : Nat) : FP.Core.signed s n ≤ (n : Int) ∧ -(n : Int) ≤ FP.Core.signed s n := by
  cases s <;> simp only [FP.Core.signed, if_true, Bool.false_eq_true, if_false] <;> omega
theorem own_zval_inf (f : FP.Core.Fmt) (s : Bool) : FP.Core.zval f (.inf s) = FP.Core.signed s (f.tails * 2 ^ (f.exps - 2)) := rfl
theorem own_zval_fin (f : FP.Core.Fmt) (s : Bool) (c : Nat) (q : Int) : FP.Core.zval f (.fin s c q) = FP.Core.signed s (FP.Core.inUnits c q f.qmin) := rfl
theorem own_Rep.lt {z : Int} (h : own_Rep z) : z < ((FP.Core.b64.tails * 2 ^ (FP.Core.b64.exps - 2) : Nat) : Int) ∧ -((FP.Core.b64.tails * 2 ^ (FP.Core.b64.exps - 2) : Nat) : Int) < z := by
  obtain ⟨s, c, q, hf, rfl⟩ := h
  have h1 := FP.Core.zmag_lt_top FP.Core.good_b64 hf
  have h2 := own_signed_le s (FP.Core.inUnits c q FP.Core.b64.qmin)
  rw [own_zval_fin]
  generalize FP.Core.inUnits c q FP.Core.b64.qmin = n at *
  generalize FP.Core.b64.tails * 2 ^ (FP.Core.b64.exps - 2) = t at *
  omega
theorem own_fin_of {r : UInt64} {lo hi : Int} (hn : FP.Core.val64 r ≠ .nan) (rl : own_Rep lo) (rh : own_Rep hi) (h1 : lo ≤ FP.Core.zval FP.Core.b64 (FP.Core.val64 r)) (h2 : FP.Core.zval FP.Core.b64 (FP.Core.val64 r) ≤ hi) :
    ∃ z, own_Fin r z ∧ lo ≤ z ∧ z ≤ hi := by
  refine ⟨_, ⟨?_, rfl⟩, h1, h2⟩
  have a := rl.lt
  have b := rh.lt
  cases hv : FP.Core.val64 r with
  | nan => exact absurd hv hn
  | fin s c q => exact ⟨s, c, q, hv⟩
  | inf s =>
    exfalso
    rw [hv, own_zval_inf] at h1 h2
    generalize FP.Core.b64.tails * 2 ^ (FP.Core.b64.exps - 2) = t at *
    cases s <;> simp only [FP.Core.signed, if_true, Bool.false_eq_true, if_false] at h1 h2 <;> omega
theorem own_add {a b : UInt64} {x y lo hi : Int} (ha : own_Fin a x) (hb : own_Fin b y) (rl : own_Rep lo) (rh : own_Rep hi) (h1 : lo ≤ x + y) (h2 : x + y ≤ hi) : ∃ z, own_Fin (FP.dadd a b) z ∧ lo ≤ z ∧ z ≤ hi := by
  obtain ⟨s1, c1, q1, f1, e1⟩ := id rl
  obtain ⟨s2, c2, q2, f2, e2⟩ := id rh
  have ev : FP.Core.val64 (FP.dadd a b) = _ := FP.Core.val64_dadd a b
  refine own_fin_of ((FP.Core.notNaN_iff _).mp (FP.Core.dadd_out ha.1.notNaN hb.1)) rl rh ?_ ?_
  · rw [ev, ← e1]
    exact FP.Core.sum_ge FP.Core.good_b64 ha.1 hb.1 (FP.Core.val64_fits a) (FP.Core.val64_fits b) f1 (fun q => nomatch q) (by rw [e1, ha.2, hb.2]; exact h1)
  · rw [ev, ← e2]
    exact FP.Core.sum_le FP.Core.good_b64 ha.1 hb.1 (FP.Core.val64_fits a) (FP.Core.val64_fits b) f2 (fun q => nomatch q) (by rw [e2, ha.2, hb.2]; exact h2)
theorem own_add_e {a b : UInt64} {x y : Int} (ha : own_Fin a x) (hb : own_Fin b y) (r : own_Rep (x + y)) : own_Fin (FP.dadd a b) (x + y) := by
  obtain ⟨z, h, h1, h2⟩ := own_add ha hb r r (Int.le_refl _) (Int.le_refl _)
  exact h.cast (Int.le_antisymm h2 h1)
theorem own_fin_negate {d : FP.Core.Datum} (h : ∃ s c q, d = .fin s c q) : ∃ s c q, FP.Core.negate d = .fin s c q := by
  obtain ⟨s, c, q, rfl⟩ := h
  exact ⟨!s, c, q, rfl⟩
theorem own_sub {a b : UInt64} {x y lo hi : Int} (ha : own_Fin a x) (hb : own_Fin b y) (rl : own_Rep lo) (rh : own_Rep hi) (h1 : lo ≤ x - y) (h2 : x - y ≤ hi) : ∃ z, own_Fin (FP.dsub a b) z ∧ lo ≤ z ∧ z ≤ hi := by
  obtain ⟨s1, c1, q1, f1, e1⟩ := id rl
  obtain ⟨s2, c2, q2, f2, e2⟩ := id rh
  have ev : FP.Core.val64 (FP.dsub a b) = _ := FP.Core.val64_dsub a b
  refine own_fin_of ((FP.Core.notNaN_iff _).mp (FP.Core.dsub_out ha.1.notNaN hb.1)) rl rh ?_ ?_
  · rw [ev, ← e1]
    exact FP.Core.sum_ge FP.Core.good_b64 ha.1 (own_fin_negate hb.1) (FP.Core.val64_fits a) (FP.Core.negate_fits (FP.Core.val64_fits b)) f1 (fun q => nomatch q) (by rw [e1, ha.2, FP.Core.zval_negate, hb.2]; omega)
  · rw [ev, ← e2]
    exact FP.Core.sum_le FP.Core.good_b64 ha.1 (own_fin_negate hb.1) (FP.Core.val64_fits a) (FP.Core.negate_fits (FP.Core.val64_fits b)) f2 (fun q => nomatch q) (by rw [e2, ha.2, FP.Core.zval_negate, hb.2]; omega)
theorem own_sub_e {a b : UInt64} {x y : Int} (ha : own_Fin a x) (hb : own_Fin b y) (r : own_Rep (x - y)) : own_Fin (FP.dsub a b) (x - y) := by
  obtain ⟨z, h, h1, h2⟩ := own_sub ha hb r r (Int.le_refl _) (Int.le_refl _)
  exact h.cast (Int.le_antisymm h2 h1)
theorem own_qq : (FP.Core.b64.qmin - 2 * FP.Core.b64.qmin).toNat = (-FP.Core.b64.qmin).toNat := by rw [FP.Core.qmin_b64]; rfl
theorem own_mul_ge {a b : UInt64} {x y lo : Int} (ha : own_Fin a x) (hb : own_Fin b y) (rl : own_Rep lo) (h1 : lo * own_U ≤ x * y) : lo ≤ FP.Core.zval FP.Core.b64 (FP.Core.val64 (FP.dmul a b)) := by
  obtain ⟨s1, c1, q1, f1, e1⟩ := id rl
  obtain ⟨s, c, q, ea⟩ := id ha.1
  obtain ⟨t, d, r, eb⟩ := id hb.1
  have fa := FP.Core.val64_fits a
  have fb := FP.Core.val64_fits b
  have za := ha.2
  have zb := hb.2
  have ev : FP.Core.val64 (FP.dmul a b) = _ := FP.Core.val64_dmul a b
  rw [ea] at fa za ev
  rw [eb] at fb zb ev
  obtain ⟨p1, p2, p3⟩ := FP.Core.product_units fa fb
  rw [p1] at ev
  have hq : 2 * FP.Core.b64.qmin ≤ FP.Core.b64.qmin := by rw [FP.Core.qmin_b64]; decide
  have hs : FP.Core.signed (s != t) (FP.Core.inUnits (c * d) (q + r) (2 * FP.Core.b64.qmin)) = x * y := by
    rw [p3, FP.Core.signed_xor, ← za, ← zb]; rfl
  have hu : ((2 ^ (FP.Core.b64.qmin - 2 * FP.Core.b64.qmin).toNat : Nat) : Int) = own_U := by rw [own_qq, FP.Core.pow_qmin64]; rfl
  rw [ev, ← e1]
  exact FP.Core.zval_round_ge FP.Core.good_b64 f1 (fun q => nomatch q) hq p2 (by rw [hs, hu, e1]; exact h1)
theorem own_mul_le {a b : UInt64} {x y hi : Int} (ha : own_Fin a x) (hb : own_Fin b y) (rh : own_Rep hi) (h2 : x * y ≤ hi * own_U) : FP.Core.zval FP.Core.b64 (FP.Core.val64 (FP.dmul a b)) ≤ hi := by
  obtain ⟨s2, c2, q2, f2, e2⟩ := id rh
  obtain ⟨s, c, q, ea⟩ := id ha.1
  obtain ⟨t, d, r, eb⟩ := id hb.1
  have fa := FP.Core.val64_fits a
  have fb := FP.Core.val64_fits b
  have za := ha.2
  have zb := hb.2
  have ev : FP.Core.val64 (FP.dmul a b) = _ := FP.Core.val64_dmul a b
  rw [ea] at fa za ev
  rw [eb] at fb zb ev
  obtain ⟨p1, p2, p3⟩ := FP.Core.product_units fa fb
  rw [p1] at ev
  have hq : 2 * FP.Core.b64.qmin ≤ FP.Core.b64.qmin := by rw [FP.Core.qmin_b64]; decide
  have hs : FP.Core.signed (s != t) (FP.Core.inUnits (c * d) (q + r) (2 * FP.Core.b64.qmin)) = x * y := by
    rw [p3, FP.Core.signed_xor, ← za, ← zb]; rfl
  have hu : ((2 ^ (FP.Core.b64.qmin - 2 * FP.Core.b64.qmin).toNat : Nat) : Int) = own_U := by rw [own_qq, FP.Core.pow_qmin64]; rfl
  rw [ev, ← e2]
  exact FP.Core.zval_round_le FP.Core.good_b64 f2 (fun q => nomatch q) hq p2 (by rw [hs, hu, e2]; exact h2)
theorem own_mul_ne {a b : UInt64} {x y : Int} (ha : own_Fin a x) (hb : own_Fin b y) : FP.Core.val64 (FP.dmul a b) ≠ .nan := (FP.Core.notNaN_iff _).mp (FP.Core.dmul_out ha.1 hb.1)
theorem own_mul {a b : UInt64} {x y lo hi : Int} (ha : own_Fin a x) (hb : own_Fin b y) (rl : own_Rep lo) (rh : own_Rep hi) (h1 : lo * own_U ≤ x * y) (h2 : x * y ≤ hi * own_U) : ∃ z, own_Fin (FP.dmul a b) z ∧ lo ≤ z ∧ z ≤ hi :=
  own_fin_of (own_mul_ne ha hb) rl rh (own_mul_ge ha hb rl h1) (own_mul_le ha hb rh h2)
theorem own_mul_e {a b : UInt64} {x y z : Int} (ha : own_Fin a x) (hb : own_Fin b y) (r : own_Rep z) (e : x * y = z * own_U) : own_Fin (FP.dmul a b) z := by
  obtain ⟨w, h, h1, h2⟩ := own_mul ha hb r r (Int.le_of_eq e.symm) (Int.le_of_eq e)
  exact h.cast (Int.le_antisymm h2 h1)
theorem own_ratio_units {c d : Nat} {q r m : Int} (hq : m ≤ q) (hr : m ≤ r) (hm : m < 0) :
    FP.Core.inUnits c (q - r) (m + m - r) = FP.Core.inUnits c q m * 2 ^ (-m).toNat ∧ ∀ v : Nat, v * 2 ^ (m - (m + m - r)).toNat * d = v * FP.Core.inUnits d r m := by
  constructor
  · unfold FP.Core.inUnits
    rw [show (q - r - (m + m - r)).toNat = (q - m).toNat + (-m).toNat by omega, Nat.pow_add, Nat.mul_assoc]
  · intro v
    unfold FP.Core.inUnits
    rw [show (m - (m + m - r)).toNat = (r - m).toNat by omega, Nat.mul_assoc, Nat.mul_comm d]
theorem own_ratio_le {s s' t : Bool} {c d : Nat} {q r : Int} {V : FP.Core.Datum} (hx : FP.Core.fits FP.Core.b64 (.fin s c q)) (hy : FP.Core.fits FP.Core.b64 (.fin t d r)) (hd : 0 < d) (hV : FP.Core.fits FP.Core.b64 V) (hn : V ≠ .nan)
    (h : FP.Core.inUnits c q FP.Core.b64.qmin * FP.Core.one64 ≤ FP.Core.zmag FP.Core.b64 V * FP.Core.inUnits d r FP.Core.b64.qmin) : FP.Core.zmag FP.Core.b64 (FP.Core.roundRatio FP.Core.b64 s' c d (q - r)) ≤ FP.Core.zmag FP.Core.b64 V := by
  have hm : FP.Core.b64.qmin < 0 := by rw [FP.Core.qmin_b64]; decide
  obtain ⟨u1, u2⟩ := own_ratio_units (c := c) (d := d) hx.2.1 hy.2.1 hm
  have hqx := hx.2.1
  have hqy := hy.2.1
  refine FP.Core.zmag_roundRatio_le FP.Core.good_b64 (e0 := FP.Core.b64.qmin + FP.Core.b64.qmin - r) hd hV hn (by omega) (by omega) ?_
  rw [u1, u2, FP.Core.pow_qmin64]; exact h
theorem own_ratio_ge {s s' t : Bool} {c d : Nat} {q r : Int} {V : FP.Core.Datum} (hx : FP.Core.fits FP.Core.b64 (.fin s c q)) (hy : FP.Core.fits FP.Core.b64 (.fin t d r)) (hd : 0 < d) (hV : FP.Core.fits FP.Core.b64 V)
    (h : FP.Core.zmag FP.Core.b64 V * FP.Core.inUnits d r FP.Core.b64.qmin ≤ FP.Core.inUnits c q FP.Core.b64.qmin * FP.Core.one64) : FP.Core.zmag FP.Core.b64 V ≤ FP.Core.zmag FP.Core.b64 (FP.Core.roundRatio FP.Core.b64 s' c d (q - r)) := by
  have hm : FP.Core.b64.qmin < 0 := by rw [FP.Core.qmin_b64]; decide
  obtain ⟨u1, u2⟩ := own_ratio_units (c := c) (d := d) hx.2.1 hy.2.1 hm
  have hqx := hx.2.1
  have hqy := hy.2.1
  refine FP.Core.zmag_roundRatio_ge FP.Core.good_b64 (e0 := FP.Core.b64.qmin + FP.Core.b64.qmin - r) hd hV (by omega) (by omega) ?_
  rw [u1, u2, FP.Core.pow_qmin64]; exact h
theorem own_quot {a b : UInt64} {y : Int} {s : Bool} {c : Nat} {q : Int} (ea : FP.Core.val64 a = .fin s c q) (hb : own_Fin b y) (hy : 0 < y) :
    ∃ d r, FP.Core.val64 b = .fin false d r ∧ 0 < d ∧ y = ((FP.Core.inUnits d r FP.Core.b64.qmin : Nat) : Int) ∧ FP.Core.val64 (FP.ddiv a b) = FP.Core.roundRatio FP.Core.b64 s c d (q - r) := by
  obtain ⟨t, d, r, eb⟩ := id hb.1
  have zb := hb.2
  rw [eb, own_zval_fin] at zb
  obtain ⟨k1, k2⟩ := FP.Core.signed_pos (s := t) (m := FP.Core.inUnits d r FP.Core.b64.qmin) (by rw [zb]; exact hy)
  have ht : t = false := by
    cases t with
    | false => rfl
    | true =>
      simp only [FP.Core.signed, if_true] at k1; omega
  subst ht
  have hd : 0 < d := by
    rcases Nat.eq_zero_or_pos d with h | h
    · subst h; unfold FP.Core.inUnits at k2; omega
    · exact h
  refine ⟨d, r, eb, hd, by rw [← zb, k1], ?_⟩
  have ev : FP.Core.val64 (FP.ddiv a b) = _ := FP.Core.val64_ddiv a b
  rw [ea, eb] at ev
  rw [ev]
  show (if d = 0 then _ else FP.Core.roundRatio FP.Core.b64 (s != false) c d (q - r)) = _
  rw [if_neg (Nat.pos_iff_ne_zero.mp hd)]
  cases s <;> rfl
theorem own_div_le {a b : UInt64} {x y hi : Int} (ha : own_Fin a x) (hb : own_Fin b y) (hy : 0 < y) (rh : own_Rep hi) (h2 : x * own_U ≤ hi * y) : FP.Core.zval FP.Core.b64 (FP.Core.val64 (FP.ddiv a b)) ≤ hi := by
  obtain ⟨s2, c2, q2, f2, e2⟩ := id rh
  obtain ⟨s, c, q, ea⟩ := id ha.1
  obtain ⟨d, r, eb, hd, ey, ev⟩ := own_quot ea hb hy
  have fa := FP.Core.val64_fits a
  have fb := FP.Core.val64_fits b
  have za := ha.2
  rw [ea] at fa za
  rw [eb] at fb
  have l1 := own_ratio_le (s' := s) fa fb hd f2 (fun q => nomatch q)
  have l2 := own_ratio_ge (s' := s) fa fb hd f2
  have hY : 0 < FP.Core.inUnits d r FP.Core.b64.qmin := by omega
  rw [ev, ← e2]
  unfold FP.Core.zval
  rw [FP.Core.sgn_roundRatio]
  rw [own_zval_fin] at za
  have e2' : FP.Core.signed s2 (FP.Core.zmag FP.Core.b64 (.fin s2 c2 q2)) = hi := e2
  show FP.Core.signed s _ ≤ FP.Core.signed s2 _
  rw [← e2', ← za, ey] at h2
  unfold own_U at h2
  rw [← FP.Core.signed_mul, ← FP.Core.signed_mul] at h2
  generalize FP.Core.zmag FP.Core.b64 (FP.Core.roundRatio FP.Core.b64 s c d (q - r)) = zR at *
  generalize FP.Core.zmag FP.Core.b64 (.fin s2 c2 q2) = v at *
  have hz : v * FP.Core.inUnits d r FP.Core.b64.qmin = 0 → v = 0 := fun h => (Nat.mul_eq_zero.mp h).resolve_right (by omega)
  generalize v * FP.Core.inUnits d r FP.Core.b64.qmin = B at *
  generalize FP.Core.inUnits c q FP.Core.b64.qmin * FP.Core.one64 = A at *
  cases s <;> cases s2 <;> simp only [FP.Core.signed, if_true, Bool.false_eq_true, if_false] at h2 ⊢
  · have := l1 (by omega); omega
  · have := l1 (by omega); have := hz (by omega); omega
  · omega
  · have := l2 (by omega); omega
theorem own_neg {a : UInt64} {x : Int} (ha : own_Fin a x) : own_Fin (FP.dneg a) (-x) := by
  have e : FP.Core.val64 (FP.dneg a) = _ := FP.val64_dneg a
  refine ⟨?_, ?_⟩
  · show ∃ s c q, _ = _
    rw [e]; exact own_fin_negate ha.1
  · rw [e, FP.Core.zval_negate, ha.2]
theorem own_div_ge {a b : UInt64} {x y lo : Int} (ha : own_Fin a x) (hb : own_Fin b y) (hy : 0 < y) (rl : own_Rep lo) (h1 : lo * y ≤ x * own_U) : lo ≤ FP.Core.zval FP.Core.b64 (FP.Core.val64 (FP.ddiv a b)) := by
  obtain ⟨s2, c2, q2, f2, e2⟩ := id rl
  obtain ⟨s, c, q, ea⟩ := id ha.1
  obtain ⟨d, r, eb, hd, ey, ev⟩ := own_quot ea hb hy
  have fa := FP.Core.val64_fits a
  have fb := FP.Core.val64_fits b
  have za := ha.2
  rw [ea] at fa za
  rw [eb] at fb
  have l1 := own_ratio_le (s' := s) fa fb hd f2 (fun q => nomatch q)
  have l2 := own_ratio_ge (s' := s) fa fb hd f2
  have hY : 0 < FP.Core.inUnits d r FP.Core.b64.qmin := by omega
  rw [ev, ← e2]
  unfold FP.Core.zval
  rw [FP.Core.sgn_roundRatio]
  rw [own_zval_fin] at za
  have e2' : FP.Core.signed s2 (FP.Core.zmag FP.Core.b64 (.fin s2 c2 q2)) = lo := e2
  show FP.Core.signed s2 _ ≤ FP.Core.signed s _
  rw [← e2', ← za, ey] at h1
  unfold own_U at h1
  rw [← FP.Core.signed_mul, ← FP.Core.signed_mul] at h1
  generalize FP.Core.zmag FP.Core.b64 (FP.Core.roundRatio FP.Core.b64 s c d (q - r)) = zR at *
  generalize FP.Core.zmag FP.Core.b64 (.fin s2 c2 q2) = v at *
  have hz : v * FP.Core.inUnits d r FP.Core.b64.qmin = 0 → v = 0 := fun h => (Nat.mul_eq_zero.mp h).resolve_right (by omega)
  generalize v * FP.Core.inUnits d r FP.Core.b64.qmin = B at *
  generalize FP.Core.inUnits c q FP.Core.b64.qmin * FP.Core.one64 = A at *
  cases s <;> cases s2 <;> simp only [FP.Core.signed, if_true, Bool.false_eq_true, if_false] at h1 ⊢
  · have := l2 (by omega); omega
  · omega
  · have := l1 (by omega); have := hz (by omega); omega
  · have := l1 (by omega); omega
theorem own_div {a b : UInt64} {x y lo hi : Int} (ha : own_Fin a x) (hb : own_Fin b y) (hy : 0 < y) (rl : own_Rep lo) (rh : own_Rep hi) (h1 : lo * y ≤ x * own_U) (h2 : x * own_U ≤ hi * y) : ∃ z, own_Fin (FP.ddiv a b) z ∧ lo ≤ z ∧ z ≤ hi := by
  refine own_fin_of ?_ rl rh (own_div_ge ha hb hy rl h1) (own_div_le ha hb hy rh h2)
  obtain ⟨s, c, q, ea⟩ := id ha.1
  obtain ⟨d, r, eb, hd, ey, ev⟩ := own_quot ea hb hy
  rw [ev]; exact FP.Core.roundRatio_ne_nan _ _ _ _ _
theorem own_div_e {a b : UInt64} {x y z : Int} (ha : own_Fin a x) (hb : own_Fin b y) (hy : 0 < y) (r : own_Rep z) (e : x * own_U = z * y) : own_Fin (FP.ddiv a b) z := by
  obtain ⟨w, h, h1, h2⟩ := own_div ha hb hy r r (Int.le_of_eq e.symm) (Int.le_of_eq e)
  exact h.cast (Int.le_antisymm h2 h1)
/-- quotients of one value are one double -/
theorem own_div_same {a b a' b' : UInt64} {x y x' y' : Int} (ha : own_Fin a x) (hb : own_Fin b y) (ha' : own_Fin a' x') (hb' : own_Fin b' y') (hx : 0 < x) (hx' : 0 < x') (hy : 0 < y) (hy' : 0 < y') (e : x * y' = x' * y) : FP.Core.val64 (FP.ddiv a b) = FP.Core.val64 (FP.ddiv a' b') := by
  obtain ⟨s, c, q, ea⟩ := id ha.1
  obtain ⟨d, r, eb, hd, ey, ev⟩ := own_quot ea hb hy
  obtain ⟨s', c', q', ea'⟩ := id ha'.1
  obtain ⟨d', r', eb', hd', ey', ev'⟩ := own_quot ea' hb' hy'
  have za := ha.2
  have za' := ha'.2
  have fa := FP.Core.val64_fits a
  have fb := FP.Core.val64_fits b
  have fa' := FP.Core.val64_fits a'
  have fb' := FP.Core.val64_fits b'
  rw [ea] at za fa
  rw [ea'] at za' fa'
  rw [eb] at fb
  rw [eb'] at fb'
  rw [own_zval_fin] at za za'
  obtain ⟨k1, k2⟩ := FP.Core.signed_pos (s := s) (m := FP.Core.inUnits c q FP.Core.b64.qmin) (by rw [za]; exact hx)
  obtain ⟨k1', k2'⟩ := FP.Core.signed_pos (s := s') (m := FP.Core.inUnits c' q' FP.Core.b64.qmin) (by rw [za']; exact hx')
  have hs : s = false := by
    cases s with
    | false => rfl
    | true => simp only [FP.Core.signed, if_true] at k1; omega
  have hs' : s' = false := by
    cases s' with
    | false => rfl
    | true => simp only [FP.Core.signed, if_true] at k1'; omega
  subst hs hs'
  rw [ev, ev']
  have E : FP.Core.inUnits c q FP.Core.b64.qmin * FP.Core.inUnits d' r' FP.Core.b64.qmin = FP.Core.inUnits c' q' FP.Core.b64.qmin * FP.Core.inUnits d r FP.Core.b64.qmin := by
    have h : ((FP.Core.inUnits c q FP.Core.b64.qmin * FP.Core.inUnits d' r' FP.Core.b64.qmin : Nat) : Int) = ((FP.Core.inUnits c' q' FP.Core.b64.qmin * FP.Core.inUnits d r FP.Core.b64.qmin : Nat) : Int) := by
      rw [Int.natCast_mul, Int.natCast_mul, ← k1, ← k1', za, za', ← ey, ← ey']; exact e
    exact Int.ofNat_inj.mp h
  have g1 := fa.2.1
  have g2 := fb.2.1
  have g3 := fa'.2.1
  have g4 := fb'.2.1
  generalize FP.Core.b64.qmin = m at *
  refine FP.Core.roundRatio_congr hd hd' ?_
  unfold FP.Core.inUnits at E
  generalize ha1 : (q - m).toNat = A1 at *
  generalize ha2 : (r - m).toNat = A2 at *
  generalize ha3 : (q' - m).toNat = A3 at *
  generalize ha4 : (r' - m).toNat = A4 at *
  have E' : c * d' * 2 ^ (A1 + A4) = c' * d * 2 ^ (A3 + A2) := by
    rw [Nat.pow_add, Nat.pow_add]
    calc c * d' * (2 ^ A1 * 2 ^ A4) = c * 2 ^ A1 * (d' * 2 ^ A4) := by simp only [Nat.mul_assoc, Nat.mul_left_comm, Nat.mul_comm]
      _ = c' * 2 ^ A3 * (d * 2 ^ A2) := E
      _ = c' * d * (2 ^ A3 * 2 ^ A2) := by simp only [Nat.mul_assoc, Nat.mul_left_comm, Nat.mul_comm]
  rcases Nat.le_total (A3 + A2) (A1 + A4) with h | h
  · rw [show (q - r - (q' - r')).toNat = (A1 + A4) - (A3 + A2) by omega, show (q' - r' - (q - r)).toNat = 0 by omega]
    have : 2 ^ (A1 + A4) = 2 ^ ((A1 + A4) - (A3 + A2)) * 2 ^ (A3 + A2) := by rw [← Nat.pow_add]; congr 1; omega
    rw [this, ← Nat.mul_assoc] at E'
    rw [Nat.pow_zero, Nat.mul_one]
    exact Nat.eq_of_mul_eq_mul_right (Nat.two_pow_pos _) E'
  · rw [show (q - r - (q' - r')).toNat = 0 by omega, show (q' - r' - (q - r)).toNat = (A3 + A2) - (A1 + A4) by omega]
    have : 2 ^ (A3 + A2) = 2 ^ ((A3 + A2) - (A1 + A4)) * 2 ^ (A1 + A4) := by rw [← Nat.pow_add]; congr 1; omega
    rw [this, ← Nat.mul_assoc] at E'
    rw [Nat.pow_zero, Nat.mul_one]
    exact Nat.eq_of_mul_eq_mul_right (Nat.two_pow_pos _) E'
theorem own_cmp {a b : UInt64} {x y : Int} (ha : own_Val a x) (hb : own_Val b y) (o : CmpOp) : cmpValue (FP.dcmp a b) o = if x < y then -1 else if x = y then 0 else 1 := by
  rw [show FP.dcmp a b = _ from FP.Core.dcmp_zval ha.1 hb.1, ha.2, hb.2, FP.Core.compare_ite]
  by_cases h1 : x < y
  · rw [if_pos h1, if_pos h1]; rfl
  · rw [if_neg h1, if_neg h1]
    by_cases h2 : x = y
    · rw [if_pos h2, if_pos h2]; rfl
    · rw [if_neg h2, if_neg h2]; rfl
theorem own_if {a b : UInt64} {x y : Int} (ha : own_Val a x) (hb : own_Val b y) (o : CmpOp) :
    (ifCond.holds .eq (cmpValue (FP.dcmp a b) o) = decide (x = y)) ∧ (ifCond.holds .ne (cmpValue (FP.dcmp a b) o) = decide (x ≠ y)) ∧ (ifCond.holds .lt (cmpValue (FP.dcmp a b) o) = decide (x < y)) ∧
    (ifCond.holds .ge (cmpValue (FP.dcmp a b) o) = decide (y ≤ x)) ∧ (ifCond.holds .gt (cmpValue (FP.dcmp a b) o) = decide (y < x)) ∧ (ifCond.holds .le (cmpValue (FP.dcmp a b) o) = decide (x ≤ y)) := by
  rw [own_cmp ha hb o]
  by_cases h1 : x < y
  · rw [if_pos h1]
    rw [decide_eq_false (show ¬ x = y by omega), decide_eq_true (show x ≠ y by omega), decide_eq_true h1, decide_eq_false (show ¬ y ≤ x by omega), decide_eq_false (show ¬ y < x by omega), decide_eq_true (show x ≤ y by omega)]
    decide
  · rw [if_neg h1]
    by_cases h2 : x = y
    · rw [if_pos h2]
      rw [decide_eq_true h2, decide_eq_false (show ¬ x ≠ y by omega), decide_eq_false h1, decide_eq_true (show y ≤ x by omega), decide_eq_false (show ¬ y < x by omega), decide_eq_true (show x ≤ y by omega)]
      decide
    · rw [if_neg h2]
      rw [decide_eq_false h2, decide_eq_true (show x ≠ y by omega), decide_eq_false h1, decide_eq_true (show y ≤ x by omega), decide_eq_true (show y < x by omega), decide_eq_false (show ¬ x ≤ y by omega)]
      decide
theorem own_of_dint {i : Int} {a : UInt64} (h : FP.Core.DInt i a) : own_Fin a (i * own_U) := by
  refine ⟨?_, FP.Core.DInt_zval h⟩
  have h' : FP.Core.Whole i (FP.Core.val64 a) := h
  cases hv : FP.Core.val64 a with
  | nan => rw [hv] at h'; exact h'.elim
  | inf s => rw [hv] at h'; exact h'.elim
  | fin s c q => exact ⟨s, c, q, hv⟩
theorem own_i2d (n : Int32) : own_Fin (FP.i2d n) (n.toInt * own_U) := own_of_dint (FP.Core.i2d_int n)
theorem own_l2d {n : Int64} (h : n.toInt.natAbs ≤ 9007199254740992) : own_Fin (FP.l2d n) (n.toInt * own_U) := own_of_dint (FP.Core.l2d_int h)
theorem own_signed_self (n : Int) : FP.Core.signed (decide (n < 0)) n.natAbs = n := by
  by_cases h : n < 0
  · rw [decide_eq_true h]; simp only [FP.Core.signed, if_true]; omega
  · rw [decide_eq_false h]; simp only [FP.Core.signed, Bool.false_eq_true, if_false]; omega
theorem own_rep (n : Int) (k : Nat) {P : Int} (hP : ((2 ^ k : Nat) : Int) = P) (hn : n.natAbs < 9007199254740992) (hk : k ≤ 2045) : own_Rep (n * P) := by
  have hmax : FP.Core.b64.qmax = 971 := by decide
  obtain ⟨c', q', h1, h2⟩ := FP.Core.round_exact FP.Core.good_b64 (decide (n < 0)) (c := n.natAbs) (q := (k : Int) - 1074) (show n.natAbs < 2 ^ 53 by omega) (by rw [FP.Core.qmin_b64]; omega) (by rw [hmax]; omega)
  refine ⟨decide (n < 0), c', q', ?_, ?_⟩
  · rw [← h1]; exact FP.Core.round_fits FP.Core.good_b64 _
  · rw [own_zval_fin, h2]
    unfold FP.Core.inUnits
    rw [show ((k : Int) - 1074 - FP.Core.b64.qmin).toNat = k by rw [FP.Core.qmin_b64]; omega, FP.Core.signed_mul, hP, own_signed_self]
theorem own_rep_U (n : Int) (hn : n.natAbs < 9007199254740992) : own_Rep (n * own_U) := own_rep n 1074 rfl hn (by decide)
/-! own text: ints, longs and branches in plain integers -/
theorem own_h_eq (x : Int32) : (ifCond.holds .eq x = true) ↔ x.toInt = 0 := by
  simp only [ifCond.holds, beq_iff_eq, ← Int32.toInt_inj, Int32.toInt_zero]
theorem own_h_ne (x : Int32) : (ifCond.holds .ne x = true) ↔ x.toInt ≠ 0 := by
  simp only [ifCond.holds, bne_iff_ne, ne_eq, ← Int32.toInt_inj, Int32.toInt_zero]
theorem own_h_lt (x : Int32) : (ifCond.holds .lt x = true) ↔ x.toInt < 0 := by
  simp only [ifCond.holds, decide_eq_true_eq, Int32.lt_iff_toInt_lt, Int32.toInt_zero]
theorem own_h_ge (x : Int32) : (ifCond.holds .ge x = true) ↔ 0 ≤ x.toInt := by
  simp only [ifCond.holds, decide_eq_true_eq, ge_iff_le, Int32.le_iff_toInt_le, Int32.toInt_zero]
theorem own_h_gt (x : Int32) : (ifCond.holds .gt x = true) ↔ 0 < x.toInt := by
  simp only [ifCond.holds, decide_eq_true_eq, gt_iff_lt, Int32.lt_iff_toInt_lt, Int32.toInt_zero]
theorem own_h_le (x : Int32) : (ifCond.holds .le x = true) ↔ x.toInt ≤ 0 := by
  simp only [ifCond.holds, decide_eq_true_eq, Int32.le_iff_toInt_le, Int32.toInt_zero]
theorem own_c_eq (x y : Int32) : (if_icmp.holds .eq x y = true) ↔ x.toInt = y.toInt := by
  simp only [if_icmp.holds, beq_iff_eq, ← Int32.toInt_inj]
theorem own_c_ne (x y : Int32) : (if_icmp.holds .ne x y = true) ↔ x.toInt ≠ y.toInt := by
  simp only [if_icmp.holds, bne_iff_ne, ne_eq, ← Int32.toInt_inj]
theorem own_c_lt (x y : Int32) : (if_icmp.holds .lt x y = true) ↔ x.toInt < y.toInt := by
  simp only [if_icmp.holds, decide_eq_true_eq, Int32.lt_iff_toInt_lt]
theorem own_c_ge (x y : Int32) : (if_icmp.holds .ge x y = true) ↔ y.toInt ≤ x.toInt := by
  simp only [if_icmp.holds, decide_eq_true_eq, ge_iff_le, Int32.le_iff_toInt_le]
theorem own_c_gt (x y : Int32) : (if_icmp.holds .gt x y = true) ↔ y.toInt < x.toInt := by
  simp only [if_icmp.holds, decide_eq_true_eq, gt_iff_lt, Int32.lt_iff_toInt_lt]
theorem own_c_le (x y : Int32) : (if_icmp.holds .le x y = true) ↔ x.toInt ≤ y.toInt := by
  simp only [if_icmp.holds, decide_eq_true_eq, Int32.le_iff_toInt_le]
theorem own_L (x y : Int64) : (XT.cmpL x y).toInt = if y.toInt < x.toInt then 1 else if x.toInt = y.toInt then 0 else -1 := by
  unfold XT.cmpL
  simp only [Int64.lt_iff_toInt_lt, ← Int64.toInt_inj]
  split
  · rfl
  · split <;> rfl
theorem own_f_of {b : Bool} {p : Prop} (h : (b = true) ↔ p) (hp : ¬ p) : b = false := Bool.eq_false_iff.mpr fun q => hp (h.mp q)
theorem own_irem (x y : Int32) : (x - x / y * y).toInt = x.toInt.tmod y.toInt := by
  have a := (x % y).toInt_lt; have b := (x % y).le_toInt
  rw [Int32.toInt_mod] at a b
  rw [Int32.toInt_sub, Int32.toInt_mul, Int32.toInt_div, Int.bmod_mul_bmod, Int.sub_bmod_bmod, Int.mul_comm, ← Int.tmod_def]
  exact Jvm.Kit.bmod32 b a
theorem own_irem_nn {x y : Int32} (hx : 0 ≤ x.toInt) : (x - x / y * y).toInt = x.toInt % y.toInt := by rw [own_irem, Int.tmod_eq_emod_of_nonneg hx]
theorem own_ne0 {y : Int32} (h : y.toInt ≠ 0) : y ≠ 0 := fun q => h (by rw [q]; rfl)
theorem own_ne0L {y : Int64} (h : y.toInt ≠ 0) : y ≠ 0 := fun q => h (by rw [q]; rfl)
theorem own_mask31 (x : Int32) : 0 ≤ (x &&& 2147483647).toInt ∧ (x &&& 2147483647).toInt < 2147483648 := by
  rw [Jvm.Kit.i32_mask x 2147483647 (k := 31) (by decide) (by decide)]
  omega
def mk_d0 (j1 : Int64) (i1 : Int32) : UInt64 := (FP.l2d j1)
def mk_d1 (j1 : Int64) (i1 : Int32) : UInt64 := (if (ifCond.holds .eq (i1 &&& (1 : Int32))) = true then (mk_d0 j1 i1) else (FP.dneg (mk_d0 j1 i1)))
def mk_d2 (j1 : Int64) (i1 : Int32) : UInt64 := (if (ifCond.holds .eq (i1 &&& (2 : Int32))) = true then (mk_d1 j1 i1) else (FP.dmul (mk_d1 j1 i1) (9214871658872686752 : UInt64)))
def sg_res (j1 : Int64) : Int32 := (if (ifCond.holds .le (XT.cmpL j1 (0 : Int64))) = true then (if (ifCond.holds .ge (XT.cmpL j1 (0 : Int64))) = true then (0 : Int32) else (-1 : Int32)) else (1 : Int32))
def so_s (j1 : Int64) (i1 : Int32) : Int32 := (sg_res j1)
def so_r (j1 : Int64) (i1 : Int32) : Int32 := (if (ifCond.holds .eq (i1 &&& (1 : Int32))) = true then (so_s j1 i1) else (-(so_s j1 i1)))
def ss_res (d1 : UInt64) (d2 : UInt64) : Int32 := (if (ifCond.holds .le (cmpValue (FP.dcmp d1 (0 : UInt64)) .l)) = true then (if (ifCond.holds .ge (cmpValue (FP.dcmp d1 (0 : UInt64)) .g)) = true then (0 : Int32) else (if (ifCond.holds .ge (cmpValue (FP.dcmp d2 (0 : UInt64)) .g)) = true then (0 : Int32) else (1 : Int32))) else (if (ifCond.holds .gt (cmpValue (FP.dcmp d2 (0 : UInt64)) .l)) = true then (1 : Int32) else (if (ifCond.holds .ge (cmpValue (FP.dcmp d1 (0 : UInt64)) .g)) = true then (0 : Int32) else (if (ifCond.holds .ge (cmpValue (FP.dcmp d2 (0 : UInt64)) .g)) = true then (0 : Int32) else (1 : Int32)))))
def lw_ma (p1 : Int64) (p2 : Int64) (p3 : Int32) : Int32 := (p3 &&& (3 : Int32))
def lw_mb (p1 : Int64) (p2 : Int64) (p3 : Int32) : Int32 := ((XT.ushr p3 (2 : Int32)) &&& (3 : Int32))
def lw_u (p1 : Int64) (p2 : Int64) (p3 : Int32) : UInt64 := (mk_d2 p1 (lw_ma p1 p2 p3))
def lw_v (p1 : Int64) (p2 : Int64) (p3 : Int32) : UInt64 := (mk_d2 p2 (lw_mb p1 p2 p3))
def lw_exp0 (p1 : Int64) (p2 : Int64) (p3 : Int32) : Int32 := (if (if_icmp.holds .ne ((so_r p1 (lw_ma p1 p2 p3)) * (so_r p2 (lw_mb p1 p2 p3))) (1 : Int32)) = true then (0 : Int32) else (1 : Int32))
def lw_exp (p1 : Int64) (p2 : Int64) (p3 : Int32) : Int32 := (lw_exp0 p1 p2 p3)
theorem own_big : own_Fin (9214871658872686752 : UInt64) (20240225330731062057468256452200544577310668707558117544911151499012214410213289491783751287790013258677578195053240803230168010329962255783243047300181296493882372129177984906253350541501929561944592488127977942006306015116992082509346077082486878851245726373679637228176523124004442929765216203329295888647650623804148711157444203780469620443867755415548344512593561419757156873868001343049232196982285310962567078171836921609492761100409611994609014884943970332987946534596598864788592939652574690010384551184466760515738824777847215595663787557950758128222553107371274781089459874856232358865119472604808914625980416496630759424) := ⟨(FP.Core.fin_bits _).mpr (by decide), by decide +kernel⟩
theorem own_zero : own_Fin (0 : UInt64) (0) := ⟨(FP.Core.fin_bits _).mpr (by decide), by decide +kernel⟩
theorem own_one : own_Fin (4607182418800017408 : UInt64) (202402253307310618352495346718917307049556649764142118356901358027430339567995346891960383701437124495187077864316811911389808737385793476867013399940738509921517424276566361364466907742093216341239767678472745068562007483424692698618103355649159556340810056512358769552333414615230502532186327508646006263307707741093494784) := ⟨(FP.Core.fin_bits _).mpr (by decide), by decide +kernel⟩
theorem own_mone : own_Fin (13830554455654793216 : UInt64) (-202402253307310618352495346718917307049556649764142118356901358027430339567995346891960383701437124495187077864316811911389808737385793476867013399940738509921517424276566361364466907742093216341239767678472745068562007483424692698618103355649159556340810056512358769552333414615230502532186327508646006263307707741093494784) := ⟨(FP.Core.fin_bits _).mpr (by decide), by decide +kernel⟩

/-- the sign of a double that is no NaN -/
def own_Sg (a : UInt64) (s : Int) : Prop := ∃ z, own_Val a z ∧ ((s = 1 ∧ 0 < z) ∨ (s = -1 ∧ z < 0) ∨ (s = 0 ∧ z = 0))
theorem own_d0 (j : Int64) : ∃ z, own_Fin (FP.l2d j) z ∧ ((0 < j.toInt → 202402253307310618352495346718917307049556649764142118356901358027430339567995346891960383701437124495187077864316811911389808737385793476867013399940738509921517424276566361364466907742093216341239767678472745068562007483424692698618103355649159556340810056512358769552333414615230502532186327508646006263307707741093494784 ≤ z) ∧ (j.toInt < 0 → z ≤ -202402253307310618352495346718917307049556649764142118356901358027430339567995346891960383701437124495187077864316811911389808737385793476867013399940738509921517424276566361364466907742093216341239767678472745068562007483424692698618103355649159556340810056512358769552333414615230502532186327508646006263307707741093494784) ∧ (j.toInt = 0 → z = 0)) := by
  refine ⟨_, ⟨FP.Core.l2d_fin j, rfl⟩, ?_, ?_, ?_⟩
  · intro h
    have q := FP.Core.l2d_zval_ge (n := j) (V := 4607182418800017408) own_one.ne (by rw [own_one.2]; have := own_U_lit; unfold own_U at this; rw [this]; omega)
    rw [own_one.2] at q
    exact q
  · intro h
    have q := FP.Core.l2d_zval_le (n := j) (V := 13830554455654793216) own_mone.ne (by rw [own_mone.2]; have := own_U_lit; unfold own_U at this; rw [this]; omega)
    rw [own_mone.2] at q
    exact q
  · intro h
    have e : j = 0 := Int64.toInt_inj.mp h
    rw [e, show FP.l2d 0 = 0 from FP.Core.l2d_zero]
    exact own_zero.2
theorem own_bit (i : Int32) : (ifCond.holds .eq (i &&& (1 : Int32)) = true) ↔ i.toInt % 2 = 0 := by
  rw [own_h_eq, Jvm.Kit.i32_mask i 1 (k := 1) (by decide) (by decide)]; exact Iff.rfl
theorem own_d1 (j : Int64) (i : Int32) : ∃ z, own_Fin (mk_d1 j i) z ∧ ((i.toInt % 2 = 0 → (0 < j.toInt → 202402253307310618352495346718917307049556649764142118356901358027430339567995346891960383701437124495187077864316811911389808737385793476867013399940738509921517424276566361364466907742093216341239767678472745068562007483424692698618103355649159556340810056512358769552333414615230502532186327508646006263307707741093494784 ≤ z) ∧ (j.toInt < 0 → z ≤ -202402253307310618352495346718917307049556649764142118356901358027430339567995346891960383701437124495187077864316811911389808737385793476867013399940738509921517424276566361364466907742093216341239767678472745068562007483424692698618103355649159556340810056512358769552333414615230502532186327508646006263307707741093494784) ∧ (j.toInt = 0 → z = 0)) ∧ (i.toInt % 2 = 1 → (0 < j.toInt → z ≤ -202402253307310618352495346718917307049556649764142118356901358027430339567995346891960383701437124495187077864316811911389808737385793476867013399940738509921517424276566361364466907742093216341239767678472745068562007483424692698618103355649159556340810056512358769552333414615230502532186327508646006263307707741093494784) ∧ (j.toInt < 0 → 202402253307310618352495346718917307049556649764142118356901358027430339567995346891960383701437124495187077864316811911389808737385793476867013399940738509921517424276566361364466907742093216341239767678472745068562007483424692698618103355649159556340810056512358769552333414615230502532186327508646006263307707741093494784 ≤ z) ∧ (j.toInt = 0 → z = 0))) := by
  obtain ⟨z, hz, h1, h2, h3⟩ := own_d0 j
  unfold mk_d1
  by_cases c : ifCond.holds .eq (i &&& (1 : Int32)) = true
  · rw [if_pos c]; rw [own_bit] at c
    exact ⟨z, hz, fun _ => ⟨h1, h2, h3⟩, fun q => by omega⟩
  · rw [if_neg c]; rw [own_bit] at c
    refine ⟨-z, own_neg hz, fun q => absurd q c, fun _ => ⟨fun q => ?_, fun q => ?_, fun q => ?_⟩⟩
    · have := h1 q; omega
    · have := h2 q; omega
    · have := h3 q; omega
theorem own_m (j : Int64) (i : Int32) : Jvm.Free.Fl.NoNaN64 (FP.dmul (mk_d1 j i) (9214871658872686752 : UInt64)) := by
  obtain ⟨z, hz, -⟩ := own_d1 j i
  exact Jvm.Free.Fl.val64_no.mpr (own_mul_ne hz own_big)
theorem own_scaled {a : UInt64} {z : Int} (h : own_Fin a z) (hz : 202402253307310618352495346718917307049556649764142118356901358027430339567995346891960383701437124495187077864316811911389808737385793476867013399940738509921517424276566361364466907742093216341239767678472745068562007483424692698618103355649159556340810056512358769552333414615230502532186327508646006263307707741093494784 ≤ z ∨ z ≤ -202402253307310618352495346718917307049556649764142118356901358027430339567995346891960383701437124495187077864316811911389808737385793476867013399940738509921517424276566361364466907742093216341239767678472745068562007483424692698618103355649159556340810056512358769552333414615230502532186327508646006263307707741093494784 ∨ z = 0) : ∃ w, own_Val (FP.dmul a (9214871658872686752 : UInt64)) w ∧ (0 < w ↔ 0 < z) ∧ (w < 0 ↔ z < 0) := by
  have ru : own_Rep (1 * own_U) := own_rep_U 1 (by decide)
  have rm : own_Rep (-1 * own_U) := own_rep_U (-1) (by decide)
  have rz : own_Rep (0 * own_U) := own_rep_U 0 (by decide)
  rcases hz with hz | hz | hz
  · have q := own_mul_ge h own_big ru (by rw [own_U_lit]; omega)
    refine ⟨_, ⟨own_mul_ne h own_big, rfl⟩, ?_, ?_⟩ <;> (rw [own_U_lit] at q; omega)
  · have q := own_mul_le h own_big rm (by rw [own_U_lit]; omega)
    refine ⟨_, ⟨own_mul_ne h own_big, rfl⟩, ?_, ?_⟩ <;> (rw [own_U_lit] at q; omega)
  · have q := own_mul_e h own_big rz (by rw [hz, own_U_lit]; omega)
    refine ⟨_, q.v, ?_, ?_⟩ <;> omega
/-- what make gives has the sign that signOf says -/
theorem own_sgn (j : Int64) (i : Int32) : own_Sg (mk_d2 j i) (so_r j i).toInt ∧ ((so_r j i).toInt = 1 ∨ (so_r j i).toInt = -1 ∨ (so_r j i).toInt = 0) := by
  obtain ⟨z, hz, h0, h1⟩ := own_d1 j i
  have hs : (so_r j i).toInt = if 0 < j.toInt then (if i.toInt % 2 = 0 then 1 else -1) else if j.toInt < 0 then (if i.toInt % 2 = 0 then -1 else 1) else 0 := by
    unfold so_r so_s sg_res
    simp only [own_bit, own_h_le, own_h_ge, own_L, show (0 : Int64).toInt = 0 from rfl]
    repeat' split
    all_goals first | rfl | (exfalso; omega)
  have hk : 202402253307310618352495346718917307049556649764142118356901358027430339567995346891960383701437124495187077864316811911389808737385793476867013399940738509921517424276566361364466907742093216341239767678472745068562007483424692698618103355649159556340810056512358769552333414615230502532186327508646006263307707741093494784 ≤ z ∨ z ≤ -202402253307310618352495346718917307049556649764142118356901358027430339567995346891960383701437124495187077864316811911389808737385793476867013399940738509921517424276566361364466907742093216341239767678472745068562007483424692698618103355649159556340810056512358769552333414615230502532186327508646006263307707741093494784 ∨ z = 0 := by
    rcases Int.emod_two_eq i.toInt with q | q
    · have := h0 q; omega
    · have := h1 q; omega
  have key : ∀ w : Int, (0 < w ↔ 0 < z) → (w < 0 ↔ z < 0) → (((so_r j i).toInt = 1 ∧ 0 < w) ∨ ((so_r j i).toInt = -1 ∧ w < 0) ∨ ((so_r j i).toInt = 0 ∧ w = 0)) := by
    intro w k1 k2
    rw [hs]
    rcases Int.emod_two_eq i.toInt with q | q
    · have := h0 q; simp only [q, if_true]; repeat' split
      all_goals omega
    · have := h1 q; simp only [q, show ¬ ((1 : Int) = 0) by decide, if_false]; repeat' split
      all_goals omega
  refine ⟨?_, ?_⟩
  · unfold mk_d2
    by_cases c : ifCond.holds .eq (i &&& (2 : Int32)) = true
    · rw [if_pos c]; exact ⟨z, hz.v, key z Iff.rfl Iff.rfl⟩
    · rw [if_neg c]
      obtain ⟨w, hw, k1, k2⟩ := own_scaled hz hk
      exact ⟨w, hw, key w k1 k2⟩
  · rw [hs]; repeat' split
    all_goals omega
theorem own_ss {a b : UInt64} {s t : Int} (ha : own_Sg a s) (hb : own_Sg b t) : (ss_res a b).toInt = if (s = 1 ∧ t = 1) ∨ (s = -1 ∧ t = -1) then 1 else 0 := by
  obtain ⟨z, h1, h2⟩ := ha
  obtain ⟨w, h3, h4⟩ := hb
  unfold ss_res
  rw [(own_if h1 own_zero.v .l).2.2.2.2.2, (own_if h3 own_zero.v .l).2.2.2.2.1, (own_if h1 own_zero.v .g).2.2.2.1, (own_if h3 own_zero.v .g).2.2.2.1]
  simp only [decide_eq_true_eq]
  repeat' split
  all_goals first | rfl | (exfalso; omega)
theorem own_exp (p1 p2 : Int64) (p3 : Int32) : (lw_exp p1 p2 p3).toInt = if ((so_r p1 (lw_ma p1 p2 p3)).toInt = 1 ∧ (so_r p2 (lw_mb p1 p2 p3)).toInt = 1) ∨ ((so_r p1 (lw_ma p1 p2 p3)).toInt = -1 ∧ (so_r p2 (lw_mb p1 p2 p3)).toInt = -1) then 1 else 0 := by
  have h1 := (own_sgn p1 (lw_ma p1 p2 p3)).2
  have h2 := (own_sgn p2 (lw_mb p1 p2 p3)).2
  show (lw_exp0 p1 p2 p3).toInt = _
  unfold lw_exp0
  have e : (so_r p1 (lw_ma p1 p2 p3) * so_r p2 (lw_mb p1 p2 p3)).toInt = (so_r p1 (lw_ma p1 p2 p3)).toInt * (so_r p2 (lw_mb p1 p2 p3)).toInt := by
    rcases h1 with h1 | h1 | h1 <;> rcases h2 with h2 | h2 | h2 <;> exact Jvm.Kit.i32_mul (by rw [h1, h2]; decide) (by rw [h1, h2]; decide)
  rw [show (if if_icmp.holds .ne (so_r p1 (lw_ma p1 p2 p3) * so_r p2 (lw_mb p1 p2 p3)) (1 : Int32) = true then (0 : Int32) else 1) = if (so_r p1 (lw_ma p1 p2 p3)).toInt * (so_r p2 (lw_mb p1 p2 p3)).toInt ≠ 1 then 0 else 1 from by simp only [own_c_ne, e]; rfl]
  rcases h1 with h1 | h1 | h1 <;> rcases h2 with h2 | h2 | h2 <;> rw [h1, h2] <;> decide
theorem own_e1 (p1 p2 : Int64) (p3 : Int32) : if_icmp.holds .ne (ss_res (lw_u p1 p2 p3) (lw_v p1 p2 p3)) (lw_exp p1 p2 p3) = false := by
  refine own_f_of (own_c_ne _ _) ?_
  rw [own_exp, show (ss_res (lw_u p1 p2 p3) (lw_v p1 p2 p3)).toInt = _ from own_ss (own_sgn p1 (lw_ma p1 p2 p3)).1 (own_sgn p2 (lw_mb p1 p2 p3)).1]
  exact fun h => h rfl
theorem own_e2 (p1 p2 : Int64) (p3 : Int32) : if_icmp.holds .ne (ss_res (lw_v p1 p2 p3) (lw_u p1 p2 p3)) (lw_exp p1 p2 p3) = false := by
  refine own_f_of (own_c_ne _ _) ?_
  rw [own_exp, show (ss_res (lw_v p1 p2 p3) (lw_u p1 p2 p3)).toInt = _ from own_ss (own_sgn p2 (lw_mb p1 p2 p3)).1 (own_sgn p1 (lw_ma p1 p2 p3)).1]
  intro h
  apply h
  repeat' split
  all_goals first | rfl | (exfalso; omega)
theorem d1_0 : decode method_3_code 0 = .ok (.lload_n 0, 1) := by decide +kernel
theorem d1_1 : decode method_3_code 1 = .ok (.l2d, 1) := by decide +kernel
theorem d1_2 : decode method_3_code 2 = .ok (.dstore_n 3, 1) := by decide +kernel
theorem d1_3 : decode method_3_code 3 = .ok (.iload_n 2, 1) := by decide +kernel
theorem d1_4 : decode method_3_code 4 = .ok (.iconst 1, 1) := by decide +kernel
theorem d1_5 : decode method_3_code 5 = .ok (.iand, 1) := by decide +kernel
theorem d1_6 : decode method_3_code 6 = .ok (.ifCond .eq 6, 3) := by decide +kernel
theorem d1_9 : decode method_3_code 9 = .ok (.dload_n 3, 1) := by decide +kernel
theorem d1_10 : decode method_3_code 10 = .ok (.dneg, 1) := by decide +kernel
theorem d1_11 : decode method_3_code 11 = .ok (.dstore_n 3, 1) := by decide +kernel
theorem d1_12 : decode method_3_code 12 = .ok (.iload_n 2, 1) := by decide +kernel
theorem d1_13 : decode method_3_code 13 = .ok (.iconst 2, 1) := by decide +kernel
theorem d1_14 : decode method_3_code 14 = .ok (.iand, 1) := by decide +kernel
theorem d1_15 : decode method_3_code 15 = .ok (.ifCond .eq 9, 3) := by decide +kernel
theorem d1_18 : decode method_3_code 18 = .ok (.dload_n 3, 1) := by decide +kernel
theorem d1_19 : decode method_3_code 19 = .ok (.ldc2_w 7, 3) := by decide +kernel
theorem d1_22 : decode method_3_code 22 = .ok (.dmul, 1) := by decide +kernel
theorem d1_23 : decode method_3_code 23 = .ok (.dstore_n 3, 1) := by decide +kernel
theorem d1_24 : decode method_3_code 24 = .ok (.dload_n 3, 1) := by decide +kernel
theorem d1_25 : decode method_3_code 25 = .ok (.dreturn, 1) := by decide +kernel
theorem d2_0 : decode method_4_code 0 = .ok (.lload_n 0, 1) := by decide +kernel
theorem d2_1 : decode method_4_code 1 = .ok (.invokestatic 9, 3) := by decide +kernel
theorem d2_4 : decode method_4_code 4 = .ok (.istore_n 3, 1) := by decide +kernel
theorem d2_5 : decode method_4_code 5 = .ok (.iload_n 2, 1) := by decide +kernel
theorem d2_6 : decode method_4_code 6 = .ok (.iconst 1, 1) := by decide +kernel
theorem d2_7 : decode method_4_code 7 = .ok (.iand, 1) := by decide +kernel
theorem d2_8 : decode method_4_code 8 = .ok (.ifCond .eq 6, 3) := by decide +kernel
theorem d2_11 : decode method_4_code 11 = .ok (.iload_n 3, 1) := by decide +kernel
theorem d2_12 : decode method_4_code 12 = .ok (.ineg, 1) := by decide +kernel
theorem d2_13 : decode method_4_code 13 = .ok (.istore_n 3, 1) := by decide +kernel
theorem d2_14 : decode method_4_code 14 = .ok (.iload_n 3, 1) := by decide +kernel
theorem d2_15 : decode method_4_code 15 = .ok (.ireturn, 1) := by decide +kernel
theorem d3_0 : decode method_2_code 0 = .ok (.lload_n 0, 1) := by decide +kernel
theorem d3_1 : decode method_2_code 1 = .ok (.lconst 0, 1) := by decide +kernel
theorem d3_2 : decode method_2_code 2 = .ok (.lcmp, 1) := by decide +kernel
theorem d3_3 : decode method_2_code 3 = .ok (.ifCond .le 5, 3) := by decide +kernel
theorem d3_6 : decode method_2_code 6 = .ok (.iconst 1, 1) := by decide +kernel
theorem d3_7 : decode method_2_code 7 = .ok (.ireturn, 1) := by decide +kernel
theorem d3_8 : decode method_2_code 8 = .ok (.lload_n 0, 1) := by decide +kernel
theorem d3_9 : decode method_2_code 9 = .ok (.lconst 0, 1) := by decide +kernel
theorem d3_10 : decode method_2_code 10 = .ok (.lcmp, 1) := by decide +kernel
theorem d3_11 : decode method_2_code 11 = .ok (.ifCond .ge 5, 3) := by decide +kernel
theorem d3_14 : decode method_2_code 14 = .ok (.iconst (-1), 1) := by decide +kernel
theorem d3_15 : decode method_2_code 15 = .ok (.ireturn, 1) := by decide +kernel
theorem d3_16 : decode method_2_code 16 = .ok (.iconst 0, 1) := by decide +kernel
theorem d3_17 : decode method_2_code 17 = .ok (.ireturn, 1) := by decide +kernel
theorem d4_0 : decode prog_53_method_16_code 0 = .ok (.dload_n 0, 1) := by decide +kernel
theorem d4_1 : decode prog_53_method_16_code 1 = .ok (.dconst 0, 1) := by decide +kernel
theorem d4_2 : decode prog_53_method_16_code 2 = .ok (.dcmp .l, 1) := by decide +kernel
theorem d4_3 : decode prog_53_method_16_code 3 = .ok (.ifCond .le 9, 3) := by decide +kernel
theorem d4_6 : decode prog_53_method_16_code 6 = .ok (.dload_n 2, 1) := by decide +kernel
theorem d4_7 : decode prog_53_method_16_code 7 = .ok (.dconst 0, 1) := by decide +kernel
theorem d4_8 : decode prog_53_method_16_code 8 = .ok (.dcmp .l, 1) := by decide +kernel
theorem d4_9 : decode prog_53_method_16_code 9 = .ok (.ifCond .gt 15, 3) := by decide +kernel
theorem d4_12 : decode prog_53_method_16_code 12 = .ok (.dload_n 0, 1) := by decide +kernel
theorem d4_13 : decode prog_53_method_16_code 13 = .ok (.dconst 0, 1) := by decide +kernel
theorem d4_14 : decode prog_53_method_16_code 14 = .ok (.dcmp .g, 1) := by decide +kernel
theorem d4_15 : decode prog_53_method_16_code 15 = .ok (.ifCond .ge 13, 3) := by decide +kernel
theorem d4_18 : decode prog_53_method_16_code 18 = .ok (.dload_n 2, 1) := by decide +kernel
theorem d4_19 : decode prog_53_method_16_code 19 = .ok (.dconst 0, 1) := by decide +kernel
theorem d4_20 : decode prog_53_method_16_code 20 = .ok (.dcmp .g, 1) := by decide +kernel
theorem d4_21 : decode prog_53_method_16_code 21 = .ok (.ifCond .ge 7, 3) := by decide +kernel
theorem d4_24 : decode prog_53_method_16_code 24 = .ok (.iconst 1, 1) := by decide +kernel
theorem d4_25 : decode prog_53_method_16_code 25 = .ok (.goto 4, 3) := by decide +kernel
theorem d4_28 : decode prog_53_method_16_code 28 = .ok (.iconst 0, 1) := by decide +kernel
theorem d4_29 : decode prog_53_method_16_code 29 = .ok (.ireturn, 1) := by decide +kernel
theorem pn_0 : plainName "com/example/quadratur/quadratur/method/RootSearchSameSignPinLaw" = true := by first | (simp [plainName, overriddenIn]; done) | decide +kernel
theorem pn_1 : plainName "com/example/quadratur/quadratur/method/RootSearch" = true := by first | (simp [plainName, overriddenIn]; done) | decide +kernel
theorem pd_0 : parseMethodDescriptor "(J)I" = some ⟨[.long], some .int⟩ := by decide +kernel
theorem pd_1 : parseMethodDescriptor "(JI)D" = some ⟨[.long, .int], some .double⟩ := by decide +kernel
theorem pd_2 : parseMethodDescriptor "(JI)I" = some ⟨[.long, .int], some .int⟩ := by decide +kernel
theorem pd_3 : parseMethodDescriptor "(DD)Z" = some ⟨[.double, .double], some .boolean⟩ := by decide +kernel
theorem ef_mk (m : MethodId) (j1 : Int64) (i1 : Int32) : entryFrame m #[(.long j1), (.int i1)] 5 = (mkF m 0 #[.val (.long j1), .second, .val (.int i1), .unset, .unset] []) := by first | (simp [entryFrame, mkF, argsToLocals, Value.category]; done) | rfl
def Q_mk (Z : State) (j1 : Int64) (i1 : Int32)  (h0 : Heap) (n0 : Nat) (v : Option Value) (h : Heap) (L : List Loc) : Prop := v = some (.double (mk_d2 j1 i1)) ∧ Fr n0 L ∧ h = h0
set_option maxRecDepth 65536 in
set_option maxHeartbeats 40000000 in
theorem rm_mk (l : Launch) (Z : State) (a0 : Array Value) (hw : ∀ d ∈ tables_1, d.before a0 Z = true) (ws : List Jvm.Cond) (j1 : Int64) (i1 : Int32)  (h0 : Heap) (n0 : Nat) (Z0 : n0 ≤ h0.size)   (nn22 : Jvm.Free.Fl.NoNaN64 (FP.dmul (mk_d1 j1 i1) (9214871658872686752 : UInt64))) :
    MetFree l (⟨"com/example/quadratur/quadratur/method/RootSearchSameSignPinLaw", "make", "(JI)D"⟩ : MethodName) (head1 (Jvm.Cond.code (⟨"com/example/quadratur/quadratur/method/RootSearchSameSignPinLaw", "make", "(JI)D"⟩ : MethodName) method_3_code 5 (some .double) :: ws) ({ frames := 0, cells := 0, slots := 0, locals := 0 } : Room)) (fun a U => a = #[(.long j1), (.int i1)] ∧ Z.Warmed39 U.vm ∧ U.heap = h0) (fun _ _ _ _ _ => True) (fun _ U o U' => ∃ v L, o = .returned v ∧ Q_mk Z j1 i1  h0 n0 v U'.heap L ∧ FrameEnd U o U' L ({ frames := 0, cells := 0, slots := 0, locals := 0 } : Room).cells ({ frames := 0, cells := 0, slots := 0, locals := 0 } : Room).slots) := by
  refine MetFree.of_bodySF (plainFor_of_name pn_0) hisR ?_
  intro p e s m args below meth c s₁ Bd hml0 hP hK
  obtain ⟨rfl, hZ, hh⟩ := hP
  have hx := Bd.exec
  have hby := Bd.bytes
  have hml : c.maxLocals = 5 := hml0
  have hown : s.vm.findClass "com/example/quadratur/quadratur/method/RootSearchSameSignPinLaw" = some m.cls := findClass_of_methodNamed Bd.named
  have hnm := (name_of_methodNamed Bd.named Bd.method).1
  have X0 : Stand p l e ({ frames := 0, cells := 0, slots := 0, locals := 0 } : Room) s m #[(.long j1), (.int i1)] below meth c s₁ [] 0 0 := Stand.of_body Bd
  have e0 : s₁.heap = h0 := by rw [← hh, Bd.state]; rfl
  have N0 := Fr.nil n0
  have pre0 : ∀ t, Steps p.tables e below (s₁.setTop (mkF m 0 #[.val (.long j1), .second, .val (.int i1), .unset, .unset] [])) t → Steps p.tables e below (s₁.setTop (entryFrame m #[(.long j1), (.int i1)] 5)) t := fun t k => castTop (ef_mk m j1 i1) k
  obtain ⟨fs, hr, hrun, hended, hW, hsame⟩ := X0.leave (v := some (.double (mk_d2 j1 i1))) (fun h => by rw [Bd.returns] at h; cases h)
  refine ⟨_, _, pre0 _ ?_, hrun, hended, _, _, rfl, ?_, ⟨_, rfl⟩, hW, hsame.mono (Nat.le_of_ble_eq_true rfl) (Nat.le_of_ble_eq_true rfl)⟩
  · show Steps p.tables e below (s₁.setTop (mkF m 0 #[.val (.long j1), .second, .val (.int i1), .unset, .unset] [])) _
    refine XT.lloadN X0.here hx rfl (hb hby d1_0) rfl ?_
    show Steps p.tables e below (s₁.setTop (mkF m 1 #[.val (.long j1), .second, .val (.int i1), .unset, .unset] [(.long j1)])) _
    refine XS.l2dS X0.here hx rfl (hb hby d1_1) rfl rfl ?_
    show Steps p.tables e below (s₁.setTop (mkF m 2 #[.val (.long j1), .second, .val (.int i1), .unset, .unset] [(.double (FP.l2d j1))])) _
    refine XS.dstoreN X0.here hx rfl (hb hby d1_2) rfl (l' := #[.val (.long j1), .second, .val (.int i1), .val (.double (mk_d0 j1 i1)), .second]) rfl ?_
    show Steps p.tables e below (s₁.setTop (mkF m 3 #[.val (.long j1), .second, .val (.int i1), .val (.double (mk_d0 j1 i1)), .second] [])) _
    refine XS.iloadN X0.here hx rfl (hb hby d1_3) rfl ?_
    show Steps p.tables e below (s₁.setTop (mkF m 4 #[.val (.long j1), .second, .val (.int i1), .val (.double (mk_d0 j1 i1)), .second] [(.int i1)])) _
    refine XS.iconst X0.here hx rfl (hb hby d1_4) ?_
    show Steps p.tables e below (s₁.setTop (mkF m 5 #[.val (.long j1), .second, .val (.int i1), .val (.double (mk_d0 j1 i1)), .second] [(.int (1 : Int32)), (.int i1)])) _
    refine XS.iand X0.here hx rfl (hb hby d1_5) rfl ?_
    show Steps p.tables e below (s₁.setTop (mkF m 6 #[.val (.long j1), .second, .val (.int i1), .val (.double (mk_d0 j1 i1)), .second] [(.int (i1 &&& (1 : Int32)))])) _
    have sg1 : ∀ t, Steps p.tables e below (s₁.setTop (mkF m 12 #[.val (.long j1), .second, .val (.int i1), .val (.double (mk_d1 j1 i1)), .second] [])) t → Steps p.tables e below (s₁.setTop (mkF m 6 #[.val (.long j1), .second, .val (.int i1), .val (.double (mk_d0 j1 i1)), .second] [(.int (i1 &&& (1 : Int32)))])) t := by
      intro t k
      by_cases c2 : (ifCond.holds .eq (i1 &&& (1 : Int32))) = true
      · refine XS.ifYes X0.here hx rfl (pc0 := 6) (pc' := 12) rfl (hb hby d1_6) rfl c2 (by decide) (by decide) ?_
        show Steps p.tables e below (s₁.setTop (mkF m 12 #[.val (.long j1), .second, .val (.int i1), .val (.double (mk_d0 j1 i1)), .second] [])) t
        have q : (mk_d1 j1 i1) = (mk_d0 j1 i1) := by simp only [mk_d1, c2, if_true, if_false, Bool.false_eq_true]; try rfl
        rw [q] at k
        clear q
        exact k
      · refine XS.ifNo X0.here hx rfl (hb hby d1_6) rfl (Bool.eq_false_iff.mpr c2) ?_
        show Steps p.tables e below (s₁.setTop (mkF m 9 #[.val (.long j1), .second, .val (.int i1), .val (.double (mk_d0 j1 i1)), .second] [])) t
        refine XS.dloadN X0.here hx rfl (hb hby d1_9) rfl ?_
        show Steps p.tables e below (s₁.setTop (mkF m 10 #[.val (.long j1), .second, .val (.int i1), .val (.double (mk_d0 j1 i1)), .second] [(.double (mk_d0 j1 i1))])) t
        refine XS.dnegS X0.here hx rfl (hb hby d1_10) rfl rfl ?_
        show Steps p.tables e below (s₁.setTop (mkF m 11 #[.val (.long j1), .second, .val (.int i1), .val (.double (mk_d0 j1 i1)), .second] [(.double (FP.dneg (mk_d0 j1 i1)))])) t
        refine XS.dstoreN X0.here hx rfl (hb hby d1_11) rfl (l' := #[.val (.long j1), .second, .val (.int i1), .val (.double (FP.dneg (mk_d0 j1 i1))), .second]) rfl ?_
        show Steps p.tables e below (s₁.setTop (mkF m 12 #[.val (.long j1), .second, .val (.int i1), .val (.double (FP.dneg (mk_d0 j1 i1))), .second] [])) t
        have q : (mk_d1 j1 i1) = (FP.dneg (mk_d0 j1 i1)) := by simp only [mk_d1, c2, if_true, if_false, Bool.false_eq_true]; try rfl
        rw [q] at k
        clear q
        exact k
    refine sg1 _ ?_
    show Steps p.tables e below (s₁.setTop (mkF m 12 #[.val (.long j1), .second, .val (.int i1), .val (.double (mk_d1 j1 i1)), .second] [])) _
    refine XS.iloadN X0.here hx rfl (hb hby d1_12) rfl ?_
    show Steps p.tables e below (s₁.setTop (mkF m 13 #[.val (.long j1), .second, .val (.int i1), .val (.double (mk_d1 j1 i1)), .second] [(.int i1)])) _
    refine XS.iconst X0.here hx rfl (hb hby d1_13) ?_
    show Steps p.tables e below (s₁.setTop (mkF m 14 #[.val (.long j1), .second, .val (.int i1), .val (.double (mk_d1 j1 i1)), .second] [(.int (2 : Int32)), (.int i1)])) _
    refine XS.iand X0.here hx rfl (hb hby d1_14) rfl ?_
    show Steps p.tables e below (s₁.setTop (mkF m 15 #[.val (.long j1), .second, .val (.int i1), .val (.double (mk_d1 j1 i1)), .second] [(.int (i1 &&& (2 : Int32)))])) _
    have sg3 : ∀ t, Steps p.tables e below (s₁.setTop (mkF m 24 #[.val (.long j1), .second, .val (.int i1), .val (.double (mk_d2 j1 i1)), .second] [])) t → Steps p.tables e below (s₁.setTop (mkF m 15 #[.val (.long j1), .second, .val (.int i1), .val (.double (mk_d1 j1 i1)), .second] [(.int (i1 &&& (2 : Int32)))])) t := by
      intro t k
      by_cases c4 : (ifCond.holds .eq (i1 &&& (2 : Int32))) = true
      · refine XS.ifYes X0.here hx rfl (pc0 := 15) (pc' := 24) rfl (hb hby d1_15) rfl c4 (by decide) (by decide) ?_
        show Steps p.tables e below (s₁.setTop (mkF m 24 #[.val (.long j1), .second, .val (.int i1), .val (.double (mk_d1 j1 i1)), .second] [])) t
        have q : (mk_d2 j1 i1) = (mk_d1 j1 i1) := by simp only [mk_d2, c4, if_true, if_false, Bool.false_eq_true]; try rfl
        rw [q] at k
        clear q
        exact k
      · refine XS.ifNo X0.here hx rfl (hb hby d1_15) rfl (Bool.eq_false_iff.mpr c4) ?_
        show Steps p.tables e below (s₁.setTop (mkF m 18 #[.val (.long j1), .second, .val (.int i1), .val (.double (mk_d1 j1 i1)), .second] [])) t
        refine XS.dloadN X0.here hx rfl (hb hby d1_18) rfl ?_
        show Steps p.tables e below (s₁.setTop (mkF m 19 #[.val (.long j1), .second, .val (.int i1), .val (.double (mk_d1 j1 i1)), .second] [(.double (mk_d1 j1 i1))])) t
        refine X0.ldc2DoubleC hx hown (mvT hZ (hw _ (List.mem_of_getElem? (i := 14) rfl))) (g := (mkF m 19 #[.val (.long j1), .second, .val (.int i1), .val (.double (mk_d1 j1 i1)), .second] [(.double (mk_d1 j1 i1))])) rfl (hb hby d1_19) _ ?_
        show Steps p.tables e below (s₁.setTop (mkF m 22 #[.val (.long j1), .second, .val (.int i1), .val (.double (mk_d1 j1 i1)), .second] [(.double (9214871658872686752 : UInt64)), (.double (mk_d1 j1 i1))])) t
        refine XS.dmulS X0.here hx rfl (hb hby d1_22) rfl nn22 rfl ?_
        show Steps p.tables e below (s₁.setTop (mkF m 23 #[.val (.long j1), .second, .val (.int i1), .val (.double (mk_d1 j1 i1)), .second] [(.double (FP.dmul (mk_d1 j1 i1) (9214871658872686752 : UInt64)))])) t
        refine XS.dstoreN X0.here hx rfl (hb hby d1_23) rfl (l' := #[.val (.long j1), .second, .val (.int i1), .val (.double (FP.dmul (mk_d1 j1 i1) (9214871658872686752 : UInt64))), .second]) rfl ?_
        show Steps p.tables e below (s₁.setTop (mkF m 24 #[.val (.long j1), .second, .val (.int i1), .val (.double (FP.dmul (mk_d1 j1 i1) (9214871658872686752 : UInt64))), .second] [])) t
        have q : (mk_d2 j1 i1) = (FP.dmul (mk_d1 j1 i1) (9214871658872686752 : UInt64)) := by simp only [mk_d2, c4, if_true, if_false, Bool.false_eq_true]; try rfl
        rw [q] at k
        clear q
        exact k
    refine sg3 _ ?_
    show Steps p.tables e below (s₁.setTop (mkF m 24 #[.val (.long j1), .second, .val (.int i1), .val (.double (mk_d2 j1 i1)), .second] [])) _
    refine XS.dloadN X0.here hx rfl (hb hby d1_24) rfl ?_
    show Steps p.tables e below (s₁.setTop (mkF m 25 #[.val (.long j1), .second, .val (.int i1), .val (.double (mk_d2 j1 i1)), .second] [(.double (mk_d2 j1 i1))])) _
    exact retOut X0 hx (t := .double) Bd.returns rfl (Or.inr (Or.inr (Or.inl ⟨rfl, rfl, _, rfl⟩))) (hb hby d1_25) hr
  · show Q_mk Z j1 i1  h0 n0 _ s₁.heap _
    exact ⟨rfl, N0, e0⟩
theorem ef_sg (m : MethodId) (j1 : Int64) : entryFrame m #[(.long j1)] 2 = (mkF m 0 #[.val (.long j1), .second] []) := by first | (simp [entryFrame, mkF, argsToLocals, Value.category]; done) | rfl
def Q_sg (Z : State) (j1 : Int64)  (h0 : Heap) (n0 : Nat) (v : Option Value) (h : Heap) (L : List Loc) : Prop := v = some (.int (sg_res j1)) ∧ Fr n0 L ∧ h = h0
set_option maxRecDepth 65536 in
set_option maxHeartbeats 40000000 in
theorem rm_sg (l : Launch) (Z : State) (a0 : Array Value) (hw : ∀ d ∈ tables_1, d.before a0 Z = true) (ws : List Jvm.Cond) (j1 : Int64)  (h0 : Heap) (n0 : Nat) (Z0 : n0 ≤ h0.size)    :
    MetFree l (⟨"com/example/quadratur/quadratur/method/RootSearchSameSignPinLaw", "sign", "(J)I"⟩ : MethodName) (head1 (Jvm.Cond.code (⟨"com/example/quadratur/quadratur/method/RootSearchSameSignPinLaw", "sign", "(J)I"⟩ : MethodName) method_2_code 2 (some .int) :: ws) ({ frames := 0, cells := 0, slots := 0, locals := 0 } : Room)) (fun a U => a = #[(.long j1)] ∧ Z.Warmed39 U.vm ∧ U.heap = h0) (fun _ _ _ _ _ => True) (fun _ U o U' => ∃ v L, o = .returned v ∧ Q_sg Z j1  h0 n0 v U'.heap L ∧ FrameEnd U o U' L ({ frames := 0, cells := 0, slots := 0, locals := 0 } : Room).cells ({ frames := 0, cells := 0, slots := 0, locals := 0 } : Room).slots) := by
  refine MetFree.of_bodySF (plainFor_of_name pn_0) hisR ?_
  intro p e s m args below meth c s₁ Bd hml0 hP hK
  obtain ⟨rfl, hZ, hh⟩ := hP
  have hx := Bd.exec
  have hby := Bd.bytes
  have hml : c.maxLocals = 2 := hml0
  have hown : s.vm.findClass "com/example/quadratur/quadratur/method/RootSearchSameSignPinLaw" = some m.cls := findClass_of_methodNamed Bd.named
  have hnm := (name_of_methodNamed Bd.named Bd.method).1
  have X0 : Stand p l e ({ frames := 0, cells := 0, slots := 0, locals := 0 } : Room) s m #[(.long j1)] below meth c s₁ [] 0 0 := Stand.of_body Bd
  have e0 : s₁.heap = h0 := by rw [← hh, Bd.state]; rfl
  have N0 := Fr.nil n0
  have pre0 : ∀ t, Steps p.tables e below (s₁.setTop (mkF m 0 #[.val (.long j1), .second] [])) t → Steps p.tables e below (s₁.setTop (entryFrame m #[(.long j1)] 2)) t := fun t k => castTop (ef_sg m j1) k
  obtain ⟨fs, hr, hrun, hended, hW, hsame⟩ := X0.leave (v := some (.int (sg_res j1))) (fun h => by rw [Bd.returns] at h; cases h)
  refine ⟨_, _, pre0 _ ?_, hrun, hended, _, _, rfl, ?_, ⟨_, rfl⟩, hW, hsame.mono (Nat.le_of_ble_eq_true rfl) (Nat.le_of_ble_eq_true rfl)⟩
  · show Steps p.tables e below (s₁.setTop (mkF m 0 #[.val (.long j1), .second] [])) _
    refine XT.lloadN X0.here hx rfl (hb hby d3_0) rfl ?_
    show Steps p.tables e below (s₁.setTop (mkF m 1 #[.val (.long j1), .second] [(.long j1)])) _
    refine XT.lconst X0.here hx rfl (hb hby d3_1) ?_
    show Steps p.tables e below (s₁.setTop (mkF m 2 #[.val (.long j1), .second] [(.long (0 : Int64)), (.long j1)])) _
    refine XT.lcmp X0.here hx rfl (hb hby d3_2) rfl ?_
    show Steps p.tables e below (s₁.setTop (mkF m 3 #[.val (.long j1), .second] [(.int (XT.cmpL j1 (0 : Int64)))])) _
    by_cases c1 : (ifCond.holds .le (XT.cmpL j1 (0 : Int64))) = true
    · refine XS.ifYes X0.here hx rfl (pc0 := 3) (pc' := 8) rfl (hb hby d3_3) rfl c1 (by decide) (by decide) ?_
      show Steps p.tables e below (s₁.setTop (mkF m 8 #[.val (.long j1), .second] [])) _
      refine XT.lloadN X0.here hx rfl (hb hby d3_8) rfl ?_
      show Steps p.tables e below (s₁.setTop (mkF m 9 #[.val (.long j1), .second] [(.long j1)])) _
      refine XT.lconst X0.here hx rfl (hb hby d3_9) ?_
      show Steps p.tables e below (s₁.setTop (mkF m 10 #[.val (.long j1), .second] [(.long (0 : Int64)), (.long j1)])) _
      refine XT.lcmp X0.here hx rfl (hb hby d3_10) rfl ?_
      show Steps p.tables e below (s₁.setTop (mkF m 11 #[.val (.long j1), .second] [(.int (XT.cmpL j1 (0 : Int64)))])) _
      by_cases c2 : (ifCond.holds .ge (XT.cmpL j1 (0 : Int64))) = true
      · refine XS.ifYes X0.here hx rfl (pc0 := 11) (pc' := 16) rfl (hb hby d3_11) rfl c2 (by decide) (by decide) ?_
        show Steps p.tables e below (s₁.setTop (mkF m 16 #[.val (.long j1), .second] [])) _
        refine XS.iconst X0.here hx rfl (hb hby d3_16) ?_
        show Steps p.tables e below (s₁.setTop (mkF m 17 #[.val (.long j1), .second] [(.int (0 : Int32))])) _
        have q : (sg_res j1) = (0 : Int32) := by simp only [sg_res, c1, c2, if_true, if_false, Bool.false_eq_true]; try rfl
        rw [q] at hr
        exact retI X0 hx Bd.returns (hb hby d3_17) hr
      · refine XS.ifNo X0.here hx rfl (hb hby d3_11) rfl (Bool.eq_false_iff.mpr c2) ?_
        show Steps p.tables e below (s₁.setTop (mkF m 14 #[.val (.long j1), .second] [])) _
        refine XS.iconst X0.here hx rfl (hb hby d3_14) ?_
        show Steps p.tables e below (s₁.setTop (mkF m 15 #[.val (.long j1), .second] [(.int (-1 : Int32))])) _
        have q : (sg_res j1) = (-1 : Int32) := by simp only [sg_res, c1, c2, if_true, if_false, Bool.false_eq_true]; try rfl
        rw [q] at hr
        exact retI X0 hx Bd.returns (hb hby d3_15) hr
    · refine XS.ifNo X0.here hx rfl (hb hby d3_3) rfl (Bool.eq_false_iff.mpr c1) ?_
      show Steps p.tables e below (s₁.setTop (mkF m 6 #[.val (.long j1), .second] [])) _
      refine XS.iconst X0.here hx rfl (hb hby d3_6) ?_
      show Steps p.tables e below (s₁.setTop (mkF m 7 #[.val (.long j1), .second] [(.int (1 : Int32))])) _
      have q : (sg_res j1) = (1 : Int32) := by simp only [sg_res, c1, if_true, if_false, Bool.false_eq_true]; try rfl
      rw [q] at hr
      exact retI X0 hx Bd.returns (hb hby d3_7) hr
  · show Q_sg Z j1  h0 n0 _ s₁.heap _
    exact ⟨rfl, N0, e0⟩
theorem ef_so (m : MethodId) (j1 : Int64) (i1 : Int32) : entryFrame m #[(.long j1), (.int i1)] 4 = (mkF m 0 #[.val (.long j1), .second, .val (.int i1), .unset] []) := by first | (simp [entryFrame, mkF, argsToLocals, Value.category]; done) | rfl
def Q_so (Z : State) (j1 : Int64) (i1 : Int32)  (h0 : Heap) (n0 : Nat) (v : Option Value) (h : Heap) (L : List Loc) : Prop := v = some (.int (so_r j1 i1)) ∧ Fr n0 L ∧ h = h0
set_option maxRecDepth 65536 in
set_option maxHeartbeats 40000000 in
theorem rm_so (l : Launch) (Z : State) (a0 : Array Value) (hw : ∀ d ∈ tables_1, d.before a0 Z = true) (ws : List Jvm.Cond) (j1 : Int64) (i1 : Int32)  (h0 : Heap) (n0 : Nat) (Z0 : n0 ≤ h0.size)    :
    MetFree l (⟨"com/example/quadratur/quadratur/method/RootSearchSameSignPinLaw", "signOf", "(JI)I"⟩ : MethodName) (head1 (Jvm.Cond.code (⟨"com/example/quadratur/quadratur/method/RootSearchSameSignPinLaw", "signOf", "(JI)I"⟩ : MethodName) method_4_code 4 (some .int) :: ws) ({ frames := 1, cells := 0, slots := 0, locals := 13 } : Room)) (fun a U => a = #[(.long j1), (.int i1)] ∧ Z.Warmed39 U.vm ∧ U.heap = h0) (fun _ _ _ _ _ => True) (fun _ U o U' => ∃ v L, o = .returned v ∧ Q_so Z j1 i1  h0 n0 v U'.heap L ∧ FrameEnd U o U' L ({ frames := 1, cells := 0, slots := 0, locals := 13 } : Room).cells ({ frames := 1, cells := 0, slots := 0, locals := 13 } : Room).slots) := by
  refine MetFree.of_bodySF (plainFor_of_name pn_0) hisR ?_
  intro p e s m args below meth c s₁ Bd hml0 hP hK
  obtain ⟨rfl, hZ, hh⟩ := hP
  have hx := Bd.exec
  have hby := Bd.bytes
  have hml : c.maxLocals = 4 := hml0
  have hown : s.vm.findClass "com/example/quadratur/quadratur/method/RootSearchSameSignPinLaw" = some m.cls := findClass_of_methodNamed Bd.named
  have hnm := (name_of_methodNamed Bd.named Bd.method).1
  have X0 : Stand p l e ({ frames := 1, cells := 0, slots := 0, locals := 13 } : Room) s m #[(.long j1), (.int i1)] below meth c s₁ [] 0 0 := Stand.of_body Bd
  have e0 : s₁.heap = h0 := by rw [← hh, Bd.state]; rfl
  have N0 := Fr.nil n0
  have pre0 : ∀ t, Steps p.tables e below (s₁.setTop (mkF m 0 #[.val (.long j1), .second, .val (.int i1), .unset] [])) t → Steps p.tables e below (s₁.setTop (entryFrame m #[(.long j1), (.int i1)] 4)) t := fun t k => castTop (ef_so m j1 i1) k
  obtain ⟨_, _, ⟨T1, L1, k1, n1⟩, -, X1, ⟨Lc1, hQ1, l1, y1, z1⟩, st1⟩ := Jvm.LawKit.callS X0 hx (y := (⟨"com/example/quadratur/quadratur/method/RootSearchSameSignPinLaw", "sign", "(J)I"⟩ : MethodName)) hown (mvT hZ (hw _ (List.mem_of_getElem? (i := 7) rfl))) (mvT hZ (hw _ (List.mem_of_getElem? (i := 8) rfl))) (mvT hZ (hw _ (List.mem_of_getElem? (i := 2) rfl))) (mvT hZ (hw _ (List.mem_of_getElem? (i := 9) rfl))) (by decide) (backOf (W := 0) (rm_sg l Z a0 hw [] j1  (h0) n0 Z0  ) hZ (hw _ (List.mem_of_getElem? (i := 9) rfl)) (hw _ (List.mem_of_getElem? (i := 2) rfl)) (by decide) (by decide)) (g := (mkF m 1 #[.val (.long j1), .second, .val (.int i1), .unset] [(.long j1)])) rfl (by rw [hml]; rfl) (argsL := [(.long j1)]) (rest := []) (lenOf pd_0 rfl) rfl (by show 2 * 0 + _ ≤ _; exact Nat.le_of_eq rfl) (hb hby d2_1) (fun _ _ => ⟨rfl, e0, (by decide : 0 + 0 ≤ _), (by decide : 0 + 0 ≤ _)⟩)
  dsimp only [Pt.U, Pt.locs, Pt.cells, Pt.slots] at X1 l1 y1 z1 st1 hQ1
  subst l1 y1 z1
  obtain ⟨rfl, N1, e1⟩ := hQ1
  have Nn1 := Fr.app N0 N1
  obtain ⟨fs, hr, hrun, hended, hW, hsame⟩ := X1.leave (v := some (.int (so_r j1 i1))) (fun h => by rw [Bd.returns] at h; cases h)
  refine ⟨_, _, pre0 _ ?_, hrun, hended, _, _, rfl, ?_, ⟨_, rfl⟩, hW, hsame.mono (Nat.le_of_ble_eq_true rfl) (Nat.le_of_ble_eq_true rfl)⟩
  · show Steps p.tables e below (s₁.setTop (mkF m 0 #[.val (.long j1), .second, .val (.int i1), .unset] [])) _
    refine XT.lloadN X0.here hx rfl (hb hby d2_0) rfl ?_
    show Steps p.tables e below (s₁.setTop (mkF m 1 #[.val (.long j1), .second, .val (.int i1), .unset] [(.long j1)])) _
    refine st1 _ ?_
    show Steps p.tables e below (T1.setTop (mkF m 4 #[.val (.long j1), .second, .val (.int i1), .unset] [(.int (sg_res j1))])) _
    refine XS.istoreN X1.here hx rfl (hb hby d2_4) rfl (l' := #[.val (.long j1), .second, .val (.int i1), .val (.int (so_s j1 i1))]) rfl ?_
    show Steps p.tables e below (T1.setTop (mkF m 5 #[.val (.long j1), .second, .val (.int i1), .val (.int (so_s j1 i1))] [])) _
    refine XS.iloadN X1.here hx rfl (hb hby d2_5) rfl ?_
    show Steps p.tables e below (T1.setTop (mkF m 6 #[.val (.long j1), .second, .val (.int i1), .val (.int (so_s j1 i1))] [(.int i1)])) _
    refine XS.iconst X1.here hx rfl (hb hby d2_6) ?_
    show Steps p.tables e below (T1.setTop (mkF m 7 #[.val (.long j1), .second, .val (.int i1), .val (.int (so_s j1 i1))] [(.int (1 : Int32)), (.int i1)])) _
    refine XS.iand X1.here hx rfl (hb hby d2_7) rfl ?_
    show Steps p.tables e below (T1.setTop (mkF m 8 #[.val (.long j1), .second, .val (.int i1), .val (.int (so_s j1 i1))] [(.int (i1 &&& (1 : Int32)))])) _
    have sg2 : ∀ t, Steps p.tables e below (T1.setTop (mkF m 14 #[.val (.long j1), .second, .val (.int i1), .val (.int (so_r j1 i1))] [])) t → Steps p.tables e below (T1.setTop (mkF m 8 #[.val (.long j1), .second, .val (.int i1), .val (.int (so_s j1 i1))] [(.int (i1 &&& (1 : Int32)))])) t := by
      intro t k
      by_cases c3 : (ifCond.holds .eq (i1 &&& (1 : Int32))) = true
      · refine XS.ifYes X1.here hx rfl (pc0 := 8) (pc' := 14) rfl (hb hby d2_8) rfl c3 (by decide) (by decide) ?_
        show Steps p.tables e below (T1.setTop (mkF m 14 #[.val (.long j1), .second, .val (.int i1), .val (.int (so_s j1 i1))] [])) t
        have q : (so_r j1 i1) = (so_s j1 i1) := by simp only [so_r, c3, if_true, if_false, Bool.false_eq_true]; try rfl
        rw [q] at k
        clear q
        exact k
      · refine XS.ifNo X1.here hx rfl (hb hby d2_8) rfl (Bool.eq_false_iff.mpr c3) ?_
        show Steps p.tables e below (T1.setTop (mkF m 11 #[.val (.long j1), .second, .val (.int i1), .val (.int (so_s j1 i1))] [])) t
        refine XS.iloadN X1.here hx rfl (hb hby d2_11) rfl ?_
        show Steps p.tables e below (T1.setTop (mkF m 12 #[.val (.long j1), .second, .val (.int i1), .val (.int (so_s j1 i1))] [(.int (so_s j1 i1))])) t
        refine XS.ineg X1.here hx rfl (hb hby d2_12) rfl ?_
        show Steps p.tables e below (T1.setTop (mkF m 13 #[.val (.long j1), .second, .val (.int i1), .val (.int (so_s j1 i1))] [(.int (-(so_s j1 i1)))])) t
        refine XS.istoreN X1.here hx rfl (hb hby d2_13) rfl (l' := #[.val (.long j1), .second, .val (.int i1), .val (.int (-(so_s j1 i1)))]) rfl ?_
        show Steps p.tables e below (T1.setTop (mkF m 14 #[.val (.long j1), .second, .val (.int i1), .val (.int (-(so_s j1 i1)))] [])) t
        have q : (so_r j1 i1) = (-(so_s j1 i1)) := by simp only [so_r, c3, if_true, if_false, Bool.false_eq_true]; try rfl
        rw [q] at k
        clear q
        exact k
    refine sg2 _ ?_
    show Steps p.tables e below (T1.setTop (mkF m 14 #[.val (.long j1), .second, .val (.int i1), .val (.int (so_r j1 i1))] [])) _
    refine XS.iloadN X1.here hx rfl (hb hby d2_14) rfl ?_
    show Steps p.tables e below (T1.setTop (mkF m 15 #[.val (.long j1), .second, .val (.int i1), .val (.int (so_r j1 i1))] [(.int (so_r j1 i1))])) _
    exact retI X1 hx Bd.returns (hb hby d2_15) hr
  · show Q_so Z j1 i1  h0 n0 _ T1.heap _
    exact ⟨rfl, Nn1, e1⟩
theorem ef_ss (m : MethodId) (d1 : UInt64) (d2 : UInt64) : entryFrame m #[(.double d1), (.double d2)] 4 = (mkF m 0 #[.val (.double d1), .second, .val (.double d2), .second] []) := by first | (simp [entryFrame, mkF, argsToLocals, Value.category]; done) | rfl
def Q_ss (Z : State) (d1 : UInt64) (d2 : UInt64)  (h0 : Heap) (n0 : Nat) (v : Option Value) (h : Heap) (L : List Loc) : Prop := v = some (.int (ss_res d1 d2)) ∧ Fr n0 L ∧ h = h0
set_option maxRecDepth 65536 in
set_option maxHeartbeats 40000000 in
theorem rm_ss (l : Launch) (Z : State) (a0 : Array Value) (hw : ∀ d ∈ tables_1, d.before a0 Z = true) (ws : List Jvm.Cond) (d1 : UInt64) (d2 : UInt64)  (h0 : Heap) (n0 : Nat) (Z0 : n0 ≤ h0.size)    :
    MetFree l (⟨"com/example/quadratur/quadratur/method/RootSearch", "sameSign", "(DD)Z"⟩ : MethodName) (head1 (Jvm.Cond.code (⟨"com/example/quadratur/quadratur/method/RootSearch", "sameSign", "(DD)Z"⟩ : MethodName) prog_53_method_16_code 4 (some .boolean) :: ws) ({ frames := 0, cells := 0, slots := 0, locals := 0 } : Room)) (fun a U => a = #[(.double d1), (.double d2)] ∧ Z.Warmed39 U.vm ∧ U.heap = h0) (fun _ _ _ _ _ => True) (fun _ U o U' => ∃ v L, o = .returned v ∧ Q_ss Z d1 d2  h0 n0 v U'.heap L ∧ FrameEnd U o U' L ({ frames := 0, cells := 0, slots := 0, locals := 0 } : Room).cells ({ frames := 0, cells := 0, slots := 0, locals := 0 } : Room).slots) := by
  refine MetFree.of_bodySF (plainFor_of_name pn_1) hisR ?_
  intro p e s m args below meth c s₁ Bd hml0 hP hK
  obtain ⟨rfl, hZ, hh⟩ := hP
  have hx := Bd.exec
  have hby := Bd.bytes
  have hml : c.maxLocals = 4 := hml0
  have hown : s.vm.findClass "com/example/quadratur/quadratur/method/RootSearch" = some m.cls := findClass_of_methodNamed Bd.named
  have hnm := (name_of_methodNamed Bd.named Bd.method).1
  have X0 : Stand p l e ({ frames := 0, cells := 0, slots := 0, locals := 0 } : Room) s m #[(.double d1), (.double d2)] below meth c s₁ [] 0 0 := Stand.of_body Bd
  have e0 : s₁.heap = h0 := by rw [← hh, Bd.state]; rfl
  have N0 := Fr.nil n0
  have pre0 : ∀ t, Steps p.tables e below (s₁.setTop (mkF m 0 #[.val (.double d1), .second, .val (.double d2), .second] [])) t → Steps p.tables e below (s₁.setTop (entryFrame m #[(.double d1), (.double d2)] 4)) t := fun t k => castTop (ef_ss m d1 d2) k
  obtain ⟨fs, hr, hrun, hended, hW, hsame⟩ := X0.leave (v := some (.int (ss_res d1 d2))) (fun h => by rw [Bd.returns] at h; cases h)
  refine ⟨_, _, pre0 _ ?_, hrun, hended, _, _, rfl, ?_, ⟨_, rfl⟩, hW, hsame.mono (Nat.le_of_ble_eq_true rfl) (Nat.le_of_ble_eq_true rfl)⟩
  · show Steps p.tables e below (s₁.setTop (mkF m 0 #[.val (.double d1), .second, .val (.double d2), .second] [])) _
    refine XS.dloadN X0.here hx rfl (hb hby d4_0) rfl ?_
    show Steps p.tables e below (s₁.setTop (mkF m 1 #[.val (.double d1), .second, .val (.double d2), .second] [(.double d1)])) _
    refine XS.dconst0 X0.here hx rfl (hb hby d4_1) rfl ?_
    show Steps p.tables e below (s₁.setTop (mkF m 2 #[.val (.double d1), .second, .val (.double d2), .second] [(.double (0 : UInt64)), (.double d1)])) _
    refine XS.dcmpS X0.here hx rfl (hb hby d4_2) rfl rfl ?_
    show Steps p.tables e below (s₁.setTop (mkF m 3 #[.val (.double d1), .second, .val (.double d2), .second] [(.int (cmpValue (FP.dcmp d1 (0 : UInt64)) .l))])) _
    by_cases c1 : (ifCond.holds .le (cmpValue (FP.dcmp d1 (0 : UInt64)) .l)) = true
    · refine XS.ifYes X0.here hx rfl (pc0 := 3) (pc' := 12) rfl (hb hby d4_3) rfl c1 (by decide) (by decide) ?_
      show Steps p.tables e below (s₁.setTop (mkF m 12 #[.val (.double d1), .second, .val (.double d2), .second] [])) _
      refine XS.dloadN X0.here hx rfl (hb hby d4_12) rfl ?_
      show Steps p.tables e below (s₁.setTop (mkF m 13 #[.val (.double d1), .second, .val (.double d2), .second] [(.double d1)])) _
      refine XS.dconst0 X0.here hx rfl (hb hby d4_13) rfl ?_
      show Steps p.tables e below (s₁.setTop (mkF m 14 #[.val (.double d1), .second, .val (.double d2), .second] [(.double (0 : UInt64)), (.double d1)])) _
      refine XS.dcmpS X0.here hx rfl (hb hby d4_14) rfl rfl ?_
      show Steps p.tables e below (s₁.setTop (mkF m 15 #[.val (.double d1), .second, .val (.double d2), .second] [(.int (cmpValue (FP.dcmp d1 (0 : UInt64)) .g))])) _
      by_cases c2 : (ifCond.holds .ge (cmpValue (FP.dcmp d1 (0 : UInt64)) .g)) = true
      · refine XS.ifYes X0.here hx rfl (pc0 := 15) (pc' := 28) rfl (hb hby d4_15) rfl c2 (by decide) (by decide) ?_
        show Steps p.tables e below (s₁.setTop (mkF m 28 #[.val (.double d1), .second, .val (.double d2), .second] [])) _
        refine XS.iconst X0.here hx rfl (hb hby d4_28) ?_
        show Steps p.tables e below (s₁.setTop (mkF m 29 #[.val (.double d1), .second, .val (.double d2), .second] [(.int (0 : Int32))])) _
        have q : (ss_res d1 d2) = (0 : Int32) := by simp only [ss_res, c1, c2, if_true, if_false, Bool.false_eq_true]; try rfl
        rw [q] at hr
        exact retN X0 hx (t := .boolean) Bd.returns (by simp) (hb hby d4_29) hr
      · refine XS.ifNo X0.here hx rfl (hb hby d4_15) rfl (Bool.eq_false_iff.mpr c2) ?_
        show Steps p.tables e below (s₁.setTop (mkF m 18 #[.val (.double d1), .second, .val (.double d2), .second] [])) _
        refine XS.dloadN X0.here hx rfl (hb hby d4_18) rfl ?_
        show Steps p.tables e below (s₁.setTop (mkF m 19 #[.val (.double d1), .second, .val (.double d2), .second] [(.double d2)])) _
        refine XS.dconst0 X0.here hx rfl (hb hby d4_19) rfl ?_
        show Steps p.tables e below (s₁.setTop (mkF m 20 #[.val (.double d1), .second, .val (.double d2), .second] [(.double (0 : UInt64)), (.double d2)])) _
        refine XS.dcmpS X0.here hx rfl (hb hby d4_20) rfl rfl ?_
        show Steps p.tables e below (s₁.setTop (mkF m 21 #[.val (.double d1), .second, .val (.double d2), .second] [(.int (cmpValue (FP.dcmp d2 (0 : UInt64)) .g))])) _
        by_cases c3 : (ifCond.holds .ge (cmpValue (FP.dcmp d2 (0 : UInt64)) .g)) = true
        · refine XS.ifYes X0.here hx rfl (pc0 := 21) (pc' := 28) rfl (hb hby d4_21) rfl c3 (by decide) (by decide) ?_
          show Steps p.tables e below (s₁.setTop (mkF m 28 #[.val (.double d1), .second, .val (.double d2), .second] [])) _
          refine XS.iconst X0.here hx rfl (hb hby d4_28) ?_
          show Steps p.tables e below (s₁.setTop (mkF m 29 #[.val (.double d1), .second, .val (.double d2), .second] [(.int (0 : Int32))])) _
          have q : (ss_res d1 d2) = (0 : Int32) := by simp only [ss_res, c1, c2, c3, if_true, if_false, Bool.false_eq_true]; try rfl
          rw [q] at hr
          exact retN X0 hx (t := .boolean) Bd.returns (by simp) (hb hby d4_29) hr
        · refine XS.ifNo X0.here hx rfl (hb hby d4_21) rfl (Bool.eq_false_iff.mpr c3) ?_
          show Steps p.tables e below (s₁.setTop (mkF m 24 #[.val (.double d1), .second, .val (.double d2), .second] [])) _
          refine XS.iconst X0.here hx rfl (hb hby d4_24) ?_
          show Steps p.tables e below (s₁.setTop (mkF m 25 #[.val (.double d1), .second, .val (.double d2), .second] [(.int (1 : Int32))])) _
          refine XS.goto X0.here hx rfl (pc0 := 25) (pc' := 29) rfl (hb hby d4_25) (by decide) (by decide) ?_
          show Steps p.tables e below (s₁.setTop (mkF m 29 #[.val (.double d1), .second, .val (.double d2), .second] [(.int (1 : Int32))])) _
          have q : (ss_res d1 d2) = (1 : Int32) := by simp only [ss_res, c1, c2, c3, if_true, if_false, Bool.false_eq_true]; try rfl
          rw [q] at hr
          exact retN X0 hx (t := .boolean) Bd.returns (by simp) (hb hby d4_29) hr
    · refine XS.ifNo X0.here hx rfl (hb hby d4_3) rfl (Bool.eq_false_iff.mpr c1) ?_
      show Steps p.tables e below (s₁.setTop (mkF m 6 #[.val (.double d1), .second, .val (.double d2), .second] [])) _
      refine XS.dloadN X0.here hx rfl (hb hby d4_6) rfl ?_
      show Steps p.tables e below (s₁.setTop (mkF m 7 #[.val (.double d1), .second, .val (.double d2), .second] [(.double d2)])) _
      refine XS.dconst0 X0.here hx rfl (hb hby d4_7) rfl ?_
      show Steps p.tables e below (s₁.setTop (mkF m 8 #[.val (.double d1), .second, .val (.double d2), .second] [(.double (0 : UInt64)), (.double d2)])) _
      refine XS.dcmpS X0.here hx rfl (hb hby d4_8) rfl rfl ?_
      show Steps p.tables e below (s₁.setTop (mkF m 9 #[.val (.double d1), .second, .val (.double d2), .second] [(.int (cmpValue (FP.dcmp d2 (0 : UInt64)) .l))])) _
      by_cases c4 : (ifCond.holds .gt (cmpValue (FP.dcmp d2 (0 : UInt64)) .l)) = true
      · refine XS.ifYes X0.here hx rfl (pc0 := 9) (pc' := 24) rfl (hb hby d4_9) rfl c4 (by decide) (by decide) ?_
        show Steps p.tables e below (s₁.setTop (mkF m 24 #[.val (.double d1), .second, .val (.double d2), .second] [])) _
        refine XS.iconst X0.here hx rfl (hb hby d4_24) ?_
        show Steps p.tables e below (s₁.setTop (mkF m 25 #[.val (.double d1), .second, .val (.double d2), .second] [(.int (1 : Int32))])) _
        refine XS.goto X0.here hx rfl (pc0 := 25) (pc' := 29) rfl (hb hby d4_25) (by decide) (by decide) ?_
        show Steps p.tables e below (s₁.setTop (mkF m 29 #[.val (.double d1), .second, .val (.double d2), .second] [(.int (1 : Int32))])) _
        have q : (ss_res d1 d2) = (1 : Int32) := by simp only [ss_res, c1, c4, if_true, if_false, Bool.false_eq_true]; try rfl
        rw [q] at hr
        exact retN X0 hx (t := .boolean) Bd.returns (by simp) (hb hby d4_29) hr
      · refine XS.ifNo X0.here hx rfl (hb hby d4_9) rfl (Bool.eq_false_iff.mpr c4) ?_
        show Steps p.tables e below (s₁.setTop (mkF m 12 #[.val (.double d1), .second, .val (.double d2), .second] [])) _
        refine XS.dloadN X0.here hx rfl (hb hby d4_12) rfl ?_
        show Steps p.tables e below (s₁.setTop (mkF m 13 #[.val (.double d1), .second, .val (.double d2), .second] [(.double d1)])) _
        refine XS.dconst0 X0.here hx rfl (hb hby d4_13) rfl ?_
        show Steps p.tables e below (s₁.setTop (mkF m 14 #[.val (.double d1), .second, .val (.double d2), .second] [(.double (0 : UInt64)), (.double d1)])) _
        refine XS.dcmpS X0.here hx rfl (hb hby d4_14) rfl rfl ?_
        show Steps p.tables e below (s₁.setTop (mkF m 15 #[.val (.double d1), .second, .val (.double d2), .second] [(.int (cmpValue (FP.dcmp d1 (0 : UInt64)) .g))])) _
        by_cases c5 : (ifCond.holds .ge (cmpValue (FP.dcmp d1 (0 : UInt64)) .g)) = true
        · refine XS.ifYes X0.here hx rfl (pc0 := 15) (pc' := 28) rfl (hb hby d4_15) rfl c5 (by decide) (by decide) ?_
          show Steps p.tables e below (s₁.setTop (mkF m 28 #[.val (.double d1), .second, .val (.double d2), .second] [])) _
          refine XS.iconst X0.here hx rfl (hb hby d4_28) ?_
          show Steps p.tables e below (s₁.setTop (mkF m 29 #[.val (.double d1), .second, .val (.double d2), .second] [(.int (0 : Int32))])) _
          have q : (ss_res d1 d2) = (0 : Int32) := by simp only [ss_res, c1, c4, c5, if_true, if_false, Bool.false_eq_true]; try rfl
          rw [q] at hr
          exact retN X0 hx (t := .boolean) Bd.returns (by simp) (hb hby d4_29) hr
        · refine XS.ifNo X0.here hx rfl (hb hby d4_15) rfl (Bool.eq_false_iff.mpr c5) ?_
          show Steps p.tables e below (s₁.setTop (mkF m 18 #[.val (.double d1), .second, .val (.double d2), .second] [])) _
          refine XS.dloadN X0.here hx rfl (hb hby d4_18) rfl ?_
          show Steps p.tables e below (s₁.setTop (mkF m 19 #[.val (.double d1), .second, .val (.double d2), .second] [(.double d2)])) _
          refine XS.dconst0 X0.here hx rfl (hb hby d4_19) rfl ?_
          show Steps p.tables e below (s₁.setTop (mkF m 20 #[.val (.double d1), .second, .val (.double d2), .second] [(.double (0 : UInt64)), (.double d2)])) _
          refine XS.dcmpS X0.here hx rfl (hb hby d4_20) rfl rfl ?_
          show Steps p.tables e below (s₁.setTop (mkF m 21 #[.val (.double d1), .second, .val (.double d2), .second] [(.int (cmpValue (FP.dcmp d2 (0 : UInt64)) .g))])) _
          by_cases c6 : (ifCond.holds .ge (cmpValue (FP.dcmp d2 (0 : UInt64)) .g)) = true
          · refine XS.ifYes X0.here hx rfl (pc0 := 21) (pc' := 28) rfl (hb hby d4_21) rfl c6 (by decide) (by decide) ?_
            show Steps p.tables e below (s₁.setTop (mkF m 28 #[.val (.double d1), .second, .val (.double d2), .second] [])) _
            refine XS.iconst X0.here hx rfl (hb hby d4_28) ?_
            show Steps p.tables e below (s₁.setTop (mkF m 29 #[.val (.double d1), .second, .val (.double d2), .second] [(.int (0 : Int32))])) _
            have q : (ss_res d1 d2) = (0 : Int32) := by simp only [ss_res, c1, c4, c5, c6, if_true, if_false, Bool.false_eq_true]; try rfl
            rw [q] at hr
            exact retN X0 hx (t := .boolean) Bd.returns (by simp) (hb hby d4_29) hr
          · refine XS.ifNo X0.here hx rfl (hb hby d4_21) rfl (Bool.eq_false_iff.mpr c6) ?_
            show Steps p.tables e below (s₁.setTop (mkF m 24 #[.val (.double d1), .second, .val (.double d2), .second] [])) _
            refine XS.iconst X0.here hx rfl (hb hby d4_24) ?_
            show Steps p.tables e below (s₁.setTop (mkF m 25 #[.val (.double d1), .second, .val (.double d2), .second] [(.int (1 : Int32))])) _
            refine XS.goto X0.here hx rfl (pc0 := 25) (pc' := 29) rfl (hb hby d4_25) (by decide) (by decide) ?_
            show Steps p.tables e below (s₁.setTop (mkF m 29 #[.val (.double d1), .second, .val (.double d2), .second] [(.int (1 : Int32))])) _
            have q : (ss_res d1 d2) = (1 : Int32) := by simp only [ss_res, c1, c4, c5, c6, if_true, if_false, Bool.false_eq_true]; try rfl
            rw [q] at hr
            exact retN X0 hx (t := .boolean) Bd.returns (by simp) (hb hby d4_29) hr
  · show Q_ss Z d1 d2  h0 n0 _ s₁.heap _
    exact ⟨rfl, N0, e0⟩
theorem ef_lw (m : MethodId) (p1 : Int64) (p2 : Int64) (p3 : Int32) : entryFrame m #[(.long p1), (.long p2), (.int p3)] maxLocals = (mkF m 0 #[.val (.long p1), .second, .val (.long p2), .second, .val (.int p3), .unset, .unset, .unset, .unset, .unset, .unset, .unset] []) := by first | (simp [entryFrame, mkF, argsToLocals, Value.category, maxLocals]; done) | rfl
def Q_lw (Z : State) (p1 : Int64) (p2 : Int64) (p3 : Int32)  (h0 : Heap) (n0 : Nat) (v : Option Value) (h : Heap) (L : List Loc) : Prop := v = some (.int 1) ∧ Fr n0 L
set_option maxRecDepth 65536 in
set_option maxHeartbeats 40000000 in
theorem rm_lw (l : Launch) (Z : State) (a0 : Array Value) (hw : ∀ d ∈ tables_1, d.before a0 Z = true) (ws : List Jvm.Cond) (p1 : Int64) (p2 : Int64) (p3 : Int32)  (h0 : Heap) (n0 : Nat) (Z0 : n0 ≤ h0.size)    :
    MetFree l x (head1 (Jvm.Cond.code x code maxLocals ret :: ws) room_1) (fun a U => a = #[(.long p1), (.long p2), (.int p3)] ∧ Z.Warmed39 U.vm ∧ U.heap = h0) (fun _ _ _ _ _ => True) (fun _ U o U' => ∃ v L, o = .returned v ∧ Q_lw Z p1 p2 p3  h0 n0 v U'.heap L ∧ FrameEnd U o U' L 0 0) := by
  refine MetFree.of_bodySF (plainFor_of_name pn_0) hisR ?_
  intro p e s m args below meth c s₁ Bd hml0 hP hK
  obtain ⟨rfl, hZ, hh⟩ := hP
  have hx := Bd.exec
  have hby := Bd.bytes
  have hml : c.maxLocals = 12 := hml0
  have hown : s.vm.findClass "com/example/quadratur/quadratur/method/RootSearchSameSignPinLaw" = some m.cls := findClass_of_methodNamed Bd.named
  have hnm := (name_of_methodNamed Bd.named Bd.method).1
  have X0 : Stand p l e room_1 s m #[(.long p1), (.long p2), (.int p3)] below meth c s₁ [] 0 0 := Stand.of_body Bd
  have e0 : s₁.heap = h0 := by rw [← hh, Bd.state]; rfl
  have N0 := Fr.nil n0
  have pre0 : ∀ t, Steps p.tables e below (s₁.setTop (mkF m 0 #[.val (.long p1), .second, .val (.long p2), .second, .val (.int p3), .unset, .unset, .unset, .unset, .unset, .unset, .unset] [])) t → Steps p.tables e below (s₁.setTop (entryFrame m #[(.long p1), (.long p2), (.int p3)] maxLocals)) t := fun t k => castTop (ef_lw m p1 p2 p3) k
  obtain ⟨_, _, ⟨T1, L1, k1, n1⟩, -, X1, ⟨Lc1, hQ1, l1, y1, z1⟩, st1⟩ := Jvm.LawKit.callS X0 hx (y := (⟨"com/example/quadratur/quadratur/method/RootSearchSameSignPinLaw", "make", "(JI)D"⟩ : MethodName)) hown (mvT hZ (hw _ (List.mem_of_getElem? (i := 0) rfl))) (mvT hZ (hw _ (List.mem_of_getElem? (i := 1) rfl))) (mvT hZ (hw _ (List.mem_of_getElem? (i := 2) rfl))) (mvT hZ (hw _ (List.mem_of_getElem? (i := 3) rfl))) (by decide) (backOf (W := 0) (rm_mk l Z a0 hw [] p1 (lw_ma p1 p2 p3)  (h0) n0 Z0  (own_m p1 (lw_ma p1 p2 p3))) hZ (hw _ (List.mem_of_getElem? (i := 3) rfl)) (hw _ (List.mem_of_getElem? (i := 2) rfl)) (by decide) (by decide)) (g := (mkF m 17 #[.val (.long p1), .second, .val (.long p2), .second, .val (.int p3), .val (.int (lw_ma p1 p2 p3)), .val (.int (lw_mb p1 p2 p3)), .unset, .unset, .unset, .unset, .unset] [(.int (lw_ma p1 p2 p3)), (.long p1)])) rfl (by rw [hml]; rfl) (argsL := [(.long p1), (.int (lw_ma p1 p2 p3))]) (rest := []) (lenOf pd_1 rfl) rfl (by show 2 * 0 + _ ≤ _; exact Nat.le_of_eq rfl) (hb hby at_17) (fun _ _ => ⟨rfl, e0, (by decide : 0 + 0 ≤ _), (by decide : 0 + 0 ≤ _)⟩)
  dsimp only [Pt.U, Pt.locs, Pt.cells, Pt.slots] at X1 l1 y1 z1 st1 hQ1
  subst l1 y1 z1
  obtain ⟨rfl, N1, e1⟩ := hQ1
  have Nn1 := Fr.app N0 N1
  obtain ⟨_, _, ⟨T2, L2, k2, n2⟩, -, X2, ⟨Lc2, hQ2, l2, y2, z2⟩, st2⟩ := Jvm.LawKit.callS X1 hx (y := (⟨"com/example/quadratur/quadratur/method/RootSearchSameSignPinLaw", "make", "(JI)D"⟩ : MethodName)) hown (mvT hZ (hw _ (List.mem_of_getElem? (i := 0) rfl))) (mvT hZ (hw _ (List.mem_of_getElem? (i := 1) rfl))) (mvT hZ (hw _ (List.mem_of_getElem? (i := 2) rfl))) (mvT hZ (hw _ (List.mem_of_getElem? (i := 3) rfl))) (by decide) (backOf (W := 0) (rm_mk l Z a0 hw [] p2 (lw_mb p1 p2 p3)  (h0) n0 Z0  (own_m p2 (lw_mb p1 p2 p3))) hZ (hw _ (List.mem_of_getElem? (i := 3) rfl)) (hw _ (List.mem_of_getElem? (i := 2) rfl)) (by decide) (by decide)) (g := (mkF m 25 #[.val (.long p1), .second, .val (.long p2), .second, .val (.int p3), .val (.int (lw_ma p1 p2 p3)), .val (.int (lw_mb p1 p2 p3)), .val (.double (lw_u p1 p2 p3)), .second, .unset, .unset, .unset] [(.int (lw_mb p1 p2 p3)), (.long p2)])) rfl (by rw [hml]; rfl) (argsL := [(.long p2), (.int (lw_mb p1 p2 p3))]) (rest := []) (lenOf pd_1 rfl) rfl (by show 2 * 0 + _ ≤ _; exact Nat.le_of_eq rfl) (hb hby at_25) (fun _ _ => ⟨rfl, e1, (by decide : 0 + 0 ≤ _), (by decide : 0 + 0 ≤ _)⟩)
  dsimp only [Pt.U, Pt.locs, Pt.cells, Pt.slots] at X2 l2 y2 z2 st2 hQ2
  subst l2 y2 z2
  obtain ⟨rfl, N2, e2⟩ := hQ2
  have Nn2 := Fr.app Nn1 N2
  obtain ⟨_, _, ⟨T3, L3, k3, n3⟩, -, X3, ⟨Lc3, hQ3, l3, y3, z3⟩, st3⟩ := Jvm.LawKit.callS X2 hx (y := (⟨"com/example/quadratur/quadratur/method/RootSearchSameSignPinLaw", "signOf", "(JI)I"⟩ : MethodName)) hown (mvT hZ (hw _ (List.mem_of_getElem? (i := 4) rfl))) (mvT hZ (hw _ (List.mem_of_getElem? (i := 5) rfl))) (mvT hZ (hw _ (List.mem_of_getElem? (i := 2) rfl))) (mvT hZ (hw _ (List.mem_of_getElem? (i := 6) rfl))) (by decide) (backOf (W := 0) (rm_so l Z a0 hw [] p1 (lw_ma p1 p2 p3)  (h0) n0 Z0  ) hZ (hw _ (List.mem_of_getElem? (i := 6) rfl)) (hw _ (List.mem_of_getElem? (i := 2) rfl)) (by decide) (by decide)) (g := (mkF m 33 #[.val (.long p1), .second, .val (.long p2), .second, .val (.int p3), .val (.int (lw_ma p1 p2 p3)), .val (.int (lw_mb p1 p2 p3)), .val (.double (lw_u p1 p2 p3)), .second, .val (.double (lw_v p1 p2 p3)), .second, .unset] [(.int (lw_ma p1 p2 p3)), (.long p1)])) rfl (by rw [hml]; rfl) (argsL := [(.long p1), (.int (lw_ma p1 p2 p3))]) (rest := []) (lenOf pd_2 rfl) rfl (by show 2 * 0 + _ ≤ _; exact Nat.le_of_eq rfl) (hb hby at_33) (fun _ _ => ⟨rfl, e2, (by decide : 0 + 0 ≤ _), (by decide : 0 + 0 ≤ _)⟩)
  dsimp only [Pt.U, Pt.locs, Pt.cells, Pt.slots] at X3 l3 y3 z3 st3 hQ3
  subst l3 y3 z3
  obtain ⟨rfl, N3, e3⟩ := hQ3
  have Nn3 := Fr.app Nn2 N3
  obtain ⟨_, _, ⟨T4, L4, k4, n4⟩, -, X4, ⟨Lc4, hQ4, l4, y4, z4⟩, st4⟩ := Jvm.LawKit.callS X3 hx (y := (⟨"com/example/quadratur/quadratur/method/RootSearchSameSignPinLaw", "signOf", "(JI)I"⟩ : MethodName)) hown (mvT hZ (hw _ (List.mem_of_getElem? (i := 4) rfl))) (mvT hZ (hw _ (List.mem_of_getElem? (i := 5) rfl))) (mvT hZ (hw _ (List.mem_of_getElem? (i := 2) rfl))) (mvT hZ (hw _ (List.mem_of_getElem? (i := 6) rfl))) (by decide) (backOf (W := 1) (rm_so l Z a0 hw [] p2 (lw_mb p1 p2 p3)  (h0) n0 Z0  ) hZ (hw _ (List.mem_of_getElem? (i := 6) rfl)) (hw _ (List.mem_of_getElem? (i := 2) rfl)) (by decide) (by decide)) (g := (mkF m 39 #[.val (.long p1), .second, .val (.long p2), .second, .val (.int p3), .val (.int (lw_ma p1 p2 p3)), .val (.int (lw_mb p1 p2 p3)), .val (.double (lw_u p1 p2 p3)), .second, .val (.double (lw_v p1 p2 p3)), .second, .unset] [(.int (lw_mb p1 p2 p3)), (.long p2), (.int (so_r p1 (lw_ma p1 p2 p3)))])) rfl (by rw [hml]; rfl) (argsL := [(.long p2), (.int (lw_mb p1 p2 p3))]) (rest := [(.int (so_r p1 (lw_ma p1 p2 p3)))]) (lenOf pd_2 rfl) rfl (by show 2 * 0 + _ ≤ _; exact Nat.le_of_eq rfl) (hb hby at_39) (fun _ _ => ⟨rfl, e3, (by decide : 0 + 0 ≤ _), (by decide : 0 + 0 ≤ _)⟩)
  dsimp only [Pt.U, Pt.locs, Pt.cells, Pt.slots] at X4 l4 y4 z4 st4 hQ4
  subst l4 y4 z4
  obtain ⟨rfl, N4, e4⟩ := hQ4
  have Nn4 := Fr.app Nn3 N4
  obtain ⟨_, _, ⟨T7, L7, k7, n7⟩, -, X7, ⟨Lc7, hQ7, l7, y7, z7⟩, st7⟩ := Jvm.LawKit.callS X4 hx (y := (⟨"com/example/quadratur/quadratur/method/RootSearch", "sameSign", "(DD)Z"⟩ : MethodName)) hown (mvT hZ (hw _ (List.mem_of_getElem? (i := 10) rfl))) (mvT hZ (hw _ (List.mem_of_getElem? (i := 11) rfl))) (mvT hZ (hw _ (List.mem_of_getElem? (i := 12) rfl))) (mvT hZ (hw _ (List.mem_of_getElem? (i := 13) rfl))) (by decide) (backOf (W := 0) (rm_ss l Z a0 hw [] (lw_u p1 p2 p3) (lw_v p1 p2 p3)  (h0) n0 Z0  ) hZ (hw _ (List.mem_of_getElem? (i := 13) rfl)) (hw _ (List.mem_of_getElem? (i := 12) rfl)) (by decide) (by decide)) (g := (mkF m 58 #[.val (.long p1), .second, .val (.long p2), .second, .val (.int p3), .val (.int (lw_ma p1 p2 p3)), .val (.int (lw_mb p1 p2 p3)), .val (.double (lw_u p1 p2 p3)), .second, .val (.double (lw_v p1 p2 p3)), .second, .val (.int (lw_exp p1 p2 p3))] [(.double (lw_v p1 p2 p3)), (.double (lw_u p1 p2 p3))])) rfl (by rw [hml]; rfl) (argsL := [(.double (lw_u p1 p2 p3)), (.double (lw_v p1 p2 p3))]) (rest := []) (lenOf pd_3 rfl) rfl (by show 2 * 0 + _ ≤ _; exact Nat.le_of_eq rfl) (hb hby at_58) (fun _ _ => ⟨rfl, e4, (by decide : 0 + 0 ≤ _), (by decide : 0 + 0 ≤ _)⟩)
  dsimp only [Pt.U, Pt.locs, Pt.cells, Pt.slots] at X7 l7 y7 z7 st7 hQ7
  subst l7 y7 z7
  obtain ⟨rfl, N7, e7⟩ := hQ7
  have Nn7 := Fr.app Nn4 N7
  obtain ⟨_, _, ⟨T8, L8, k8, n8⟩, -, X8, ⟨Lc8, hQ8, l8, y8, z8⟩, st8⟩ := Jvm.LawKit.callS X7 hx (y := (⟨"com/example/quadratur/quadratur/method/RootSearch", "sameSign", "(DD)Z"⟩ : MethodName)) hown (mvT hZ (hw _ (List.mem_of_getElem? (i := 10) rfl))) (mvT hZ (hw _ (List.mem_of_getElem? (i := 11) rfl))) (mvT hZ (hw _ (List.mem_of_getElem? (i := 12) rfl))) (mvT hZ (hw _ (List.mem_of_getElem? (i := 13) rfl))) (by decide) (backOf (W := 0) (rm_ss l Z a0 hw [] (lw_v p1 p2 p3) (lw_u p1 p2 p3)  (h0) n0 Z0  ) hZ (hw _ (List.mem_of_getElem? (i := 13) rfl)) (hw _ (List.mem_of_getElem? (i := 12) rfl)) (by decide) (by decide)) (g := (mkF m 70 #[.val (.long p1), .second, .val (.long p2), .second, .val (.int p3), .val (.int (lw_ma p1 p2 p3)), .val (.int (lw_mb p1 p2 p3)), .val (.double (lw_u p1 p2 p3)), .second, .val (.double (lw_v p1 p2 p3)), .second, .val (.int (lw_exp p1 p2 p3))] [(.double (lw_u p1 p2 p3)), (.double (lw_v p1 p2 p3))])) rfl (by rw [hml]; rfl) (argsL := [(.double (lw_v p1 p2 p3)), (.double (lw_u p1 p2 p3))]) (rest := []) (lenOf pd_3 rfl) rfl (by show 2 * 0 + _ ≤ _; exact Nat.le_of_eq rfl) (hb hby at_70) (fun _ _ => ⟨rfl, e7, (by decide : 0 + 0 ≤ _), (by decide : 0 + 0 ≤ _)⟩)
  dsimp only [Pt.U, Pt.locs, Pt.cells, Pt.slots] at X8 l8 y8 z8 st8 hQ8
  subst l8 y8 z8
  obtain ⟨rfl, N8, e8⟩ := hQ8
  have Nn8 := Fr.app Nn7 N8
  obtain ⟨fs, hr, hrun, hended, hW, hsame⟩ := X8.leave (v := some (.int (1 : Int32))) (fun h => by rw [Bd.returns] at h; cases h)
  refine ⟨_, _, pre0 _ ?_, hrun, hended, _, _, rfl, ?_, ⟨_, rfl⟩, hW, hsame.mono (Nat.le_of_ble_eq_true rfl) (Nat.le_of_ble_eq_true rfl)⟩
  · show Steps p.tables e below (s₁.setTop (mkF m 0 #[.val (.long p1), .second, .val (.long p2), .second, .val (.int p3), .unset, .unset, .unset, .unset, .unset, .unset, .unset] [])) _
    refine XS.iload X0.here hx rfl (hb hby at_0) rfl ?_
    show Steps p.tables e below (s₁.setTop (mkF m 2 #[.val (.long p1), .second, .val (.long p2), .second, .val (.int p3), .unset, .unset, .unset, .unset, .unset, .unset, .unset] [(.int p3)])) _
    refine XS.iconst X0.here hx rfl (hb hby at_2) ?_
    show Steps p.tables e below (s₁.setTop (mkF m 3 #[.val (.long p1), .second, .val (.long p2), .second, .val (.int p3), .unset, .unset, .unset, .unset, .unset, .unset, .unset] [(.int (3 : Int32)), (.int p3)])) _
    refine XS.iand X0.here hx rfl (hb hby at_3) rfl ?_
    show Steps p.tables e below (s₁.setTop (mkF m 4 #[.val (.long p1), .second, .val (.long p2), .second, .val (.int p3), .unset, .unset, .unset, .unset, .unset, .unset, .unset] [(.int (p3 &&& (3 : Int32)))])) _
    refine XS.istore X0.here hx rfl (hb hby at_4) rfl (l' := #[.val (.long p1), .second, .val (.long p2), .second, .val (.int p3), .val (.int (lw_ma p1 p2 p3)), .unset, .unset, .unset, .unset, .unset, .unset]) rfl ?_
    show Steps p.tables e below (s₁.setTop (mkF m 6 #[.val (.long p1), .second, .val (.long p2), .second, .val (.int p3), .val (.int (lw_ma p1 p2 p3)), .unset, .unset, .unset, .unset, .unset, .unset] [])) _
    refine XS.iload X0.here hx rfl (hb hby at_6) rfl ?_
    show Steps p.tables e below (s₁.setTop (mkF m 8 #[.val (.long p1), .second, .val (.long p2), .second, .val (.int p3), .val (.int (lw_ma p1 p2 p3)), .unset, .unset, .unset, .unset, .unset, .unset] [(.int p3)])) _
    refine XS.iconst X0.here hx rfl (hb hby at_8) ?_
    show Steps p.tables e below (s₁.setTop (mkF m 9 #[.val (.long p1), .second, .val (.long p2), .second, .val (.int p3), .val (.int (lw_ma p1 p2 p3)), .unset, .unset, .unset, .unset, .unset, .unset] [(.int (2 : Int32)), (.int p3)])) _
    refine XT.iushr X0.here hx rfl (hb hby at_9) rfl ?_
    show Steps p.tables e below (s₁.setTop (mkF m 10 #[.val (.long p1), .second, .val (.long p2), .second, .val (.int p3), .val (.int (lw_ma p1 p2 p3)), .unset, .unset, .unset, .unset, .unset, .unset] [(.int (XT.ushr p3 (2 : Int32)))])) _
    refine XS.iconst X0.here hx rfl (hb hby at_10) ?_
    show Steps p.tables e below (s₁.setTop (mkF m 11 #[.val (.long p1), .second, .val (.long p2), .second, .val (.int p3), .val (.int (lw_ma p1 p2 p3)), .unset, .unset, .unset, .unset, .unset, .unset] [(.int (3 : Int32)), (.int (XT.ushr p3 (2 : Int32)))])) _
    refine XS.iand X0.here hx rfl (hb hby at_11) rfl ?_
    show Steps p.tables e below (s₁.setTop (mkF m 12 #[.val (.long p1), .second, .val (.long p2), .second, .val (.int p3), .val (.int (lw_ma p1 p2 p3)), .unset, .unset, .unset, .unset, .unset, .unset] [(.int ((XT.ushr p3 (2 : Int32)) &&& (3 : Int32)))])) _
    refine XS.istore X0.here hx rfl (hb hby at_12) rfl (l' := #[.val (.long p1), .second, .val (.long p2), .second, .val (.int p3), .val (.int (lw_ma p1 p2 p3)), .val (.int (lw_mb p1 p2 p3)), .unset, .unset, .unset, .unset, .unset]) rfl ?_
    show Steps p.tables e below (s₁.setTop (mkF m 14 #[.val (.long p1), .second, .val (.long p2), .second, .val (.int p3), .val (.int (lw_ma p1 p2 p3)), .val (.int (lw_mb p1 p2 p3)), .unset, .unset, .unset, .unset, .unset] [])) _
    refine XT.lloadN X0.here hx rfl (hb hby at_14) rfl ?_
    show Steps p.tables e below (s₁.setTop (mkF m 15 #[.val (.long p1), .second, .val (.long p2), .second, .val (.int p3), .val (.int (lw_ma p1 p2 p3)), .val (.int (lw_mb p1 p2 p3)), .unset, .unset, .unset, .unset, .unset] [(.long p1)])) _
    refine XS.iload X0.here hx rfl (hb hby at_15) rfl ?_
    show Steps p.tables e below (s₁.setTop (mkF m 17 #[.val (.long p1), .second, .val (.long p2), .second, .val (.int p3), .val (.int (lw_ma p1 p2 p3)), .val (.int (lw_mb p1 p2 p3)), .unset, .unset, .unset, .unset, .unset] [(.int (lw_ma p1 p2 p3)), (.long p1)])) _
    refine st1 _ ?_
    show Steps p.tables e below (T1.setTop (mkF m 20 #[.val (.long p1), .second, .val (.long p2), .second, .val (.int p3), .val (.int (lw_ma p1 p2 p3)), .val (.int (lw_mb p1 p2 p3)), .unset, .unset, .unset, .unset, .unset] [(.double (mk_d2 p1 (lw_ma p1 p2 p3)))])) _
    refine XS.dstore X1.here hx rfl (hb hby at_20) rfl (l' := #[.val (.long p1), .second, .val (.long p2), .second, .val (.int p3), .val (.int (lw_ma p1 p2 p3)), .val (.int (lw_mb p1 p2 p3)), .val (.double (lw_u p1 p2 p3)), .second, .unset, .unset, .unset]) rfl ?_
    show Steps p.tables e below (T1.setTop (mkF m 22 #[.val (.long p1), .second, .val (.long p2), .second, .val (.int p3), .val (.int (lw_ma p1 p2 p3)), .val (.int (lw_mb p1 p2 p3)), .val (.double (lw_u p1 p2 p3)), .second, .unset, .unset, .unset] [])) _
    refine XT.lloadN X1.here hx rfl (hb hby at_22) rfl ?_
    show Steps p.tables e below (T1.setTop (mkF m 23 #[.val (.long p1), .second, .val (.long p2), .second, .val (.int p3), .val (.int (lw_ma p1 p2 p3)), .val (.int (lw_mb p1 p2 p3)), .val (.double (lw_u p1 p2 p3)), .second, .unset, .unset, .unset] [(.long p2)])) _
    refine XS.iload X1.here hx rfl (hb hby at_23) rfl ?_
    show Steps p.tables e below (T1.setTop (mkF m 25 #[.val (.long p1), .second, .val (.long p2), .second, .val (.int p3), .val (.int (lw_ma p1 p2 p3)), .val (.int (lw_mb p1 p2 p3)), .val (.double (lw_u p1 p2 p3)), .second, .unset, .unset, .unset] [(.int (lw_mb p1 p2 p3)), (.long p2)])) _
    refine st2 _ ?_
    show Steps p.tables e below (T2.setTop (mkF m 28 #[.val (.long p1), .second, .val (.long p2), .second, .val (.int p3), .val (.int (lw_ma p1 p2 p3)), .val (.int (lw_mb p1 p2 p3)), .val (.double (lw_u p1 p2 p3)), .second, .unset, .unset, .unset] [(.double (mk_d2 p2 (lw_mb p1 p2 p3)))])) _
    refine XS.dstore X2.here hx rfl (hb hby at_28) rfl (l' := #[.val (.long p1), .second, .val (.long p2), .second, .val (.int p3), .val (.int (lw_ma p1 p2 p3)), .val (.int (lw_mb p1 p2 p3)), .val (.double (lw_u p1 p2 p3)), .second, .val (.double (lw_v p1 p2 p3)), .second, .unset]) rfl ?_
    show Steps p.tables e below (T2.setTop (mkF m 30 #[.val (.long p1), .second, .val (.long p2), .second, .val (.int p3), .val (.int (lw_ma p1 p2 p3)), .val (.int (lw_mb p1 p2 p3)), .val (.double (lw_u p1 p2 p3)), .second, .val (.double (lw_v p1 p2 p3)), .second, .unset] [])) _
    refine XT.lloadN X2.here hx rfl (hb hby at_30) rfl ?_
    show Steps p.tables e below (T2.setTop (mkF m 31 #[.val (.long p1), .second, .val (.long p2), .second, .val (.int p3), .val (.int (lw_ma p1 p2 p3)), .val (.int (lw_mb p1 p2 p3)), .val (.double (lw_u p1 p2 p3)), .second, .val (.double (lw_v p1 p2 p3)), .second, .unset] [(.long p1)])) _
    refine XS.iload X2.here hx rfl (hb hby at_31) rfl ?_
    show Steps p.tables e below (T2.setTop (mkF m 33 #[.val (.long p1), .second, .val (.long p2), .second, .val (.int p3), .val (.int (lw_ma p1 p2 p3)), .val (.int (lw_mb p1 p2 p3)), .val (.double (lw_u p1 p2 p3)), .second, .val (.double (lw_v p1 p2 p3)), .second, .unset] [(.int (lw_ma p1 p2 p3)), (.long p1)])) _
    refine st3 _ ?_
    show Steps p.tables e below (T3.setTop (mkF m 36 #[.val (.long p1), .second, .val (.long p2), .second, .val (.int p3), .val (.int (lw_ma p1 p2 p3)), .val (.int (lw_mb p1 p2 p3)), .val (.double (lw_u p1 p2 p3)), .second, .val (.double (lw_v p1 p2 p3)), .second, .unset] [(.int (so_r p1 (lw_ma p1 p2 p3)))])) _
    refine XT.lloadN X3.here hx rfl (hb hby at_36) rfl ?_
    show Steps p.tables e below (T3.setTop (mkF m 37 #[.val (.long p1), .second, .val (.long p2), .second, .val (.int p3), .val (.int (lw_ma p1 p2 p3)), .val (.int (lw_mb p1 p2 p3)), .val (.double (lw_u p1 p2 p3)), .second, .val (.double (lw_v p1 p2 p3)), .second, .unset] [(.long p2), (.int (so_r p1 (lw_ma p1 p2 p3)))])) _
    refine XS.iload X3.here hx rfl (hb hby at_37) rfl ?_
    show Steps p.tables e below (T3.setTop (mkF m 39 #[.val (.long p1), .second, .val (.long p2), .second, .val (.int p3), .val (.int (lw_ma p1 p2 p3)), .val (.int (lw_mb p1 p2 p3)), .val (.double (lw_u p1 p2 p3)), .second, .val (.double (lw_v p1 p2 p3)), .second, .unset] [(.int (lw_mb p1 p2 p3)), (.long p2), (.int (so_r p1 (lw_ma p1 p2 p3)))])) _
    refine st4 _ ?_
    show Steps p.tables e below (T4.setTop (mkF m 42 #[.val (.long p1), .second, .val (.long p2), .second, .val (.int p3), .val (.int (lw_ma p1 p2 p3)), .val (.int (lw_mb p1 p2 p3)), .val (.double (lw_u p1 p2 p3)), .second, .val (.double (lw_v p1 p2 p3)), .second, .unset] [(.int (so_r p2 (lw_mb p1 p2 p3))), (.int (so_r p1 (lw_ma p1 p2 p3)))])) _
    refine XS.imul X4.here hx rfl (hb hby at_42) rfl ?_
    show Steps p.tables e below (T4.setTop (mkF m 43 #[.val (.long p1), .second, .val (.long p2), .second, .val (.int p3), .val (.int (lw_ma p1 p2 p3)), .val (.int (lw_mb p1 p2 p3)), .val (.double (lw_u p1 p2 p3)), .second, .val (.double (lw_v p1 p2 p3)), .second, .unset] [(.int ((so_r p1 (lw_ma p1 p2 p3)) * (so_r p2 (lw_mb p1 p2 p3))))])) _
    refine XS.iconst X4.here hx rfl (hb hby at_43) ?_
    show Steps p.tables e below (T4.setTop (mkF m 44 #[.val (.long p1), .second, .val (.long p2), .second, .val (.int p3), .val (.int (lw_ma p1 p2 p3)), .val (.int (lw_mb p1 p2 p3)), .val (.double (lw_u p1 p2 p3)), .second, .val (.double (lw_v p1 p2 p3)), .second, .unset] [(.int (1 : Int32)), (.int ((so_r p1 (lw_ma p1 p2 p3)) * (so_r p2 (lw_mb p1 p2 p3))))])) _
    have sg5 : ∀ t, Steps p.tables e below (T4.setTop (mkF m 52 #[.val (.long p1), .second, .val (.long p2), .second, .val (.int p3), .val (.int (lw_ma p1 p2 p3)), .val (.int (lw_mb p1 p2 p3)), .val (.double (lw_u p1 p2 p3)), .second, .val (.double (lw_v p1 p2 p3)), .second, .unset] [(.int (lw_exp0 p1 p2 p3))])) t → Steps p.tables e below (T4.setTop (mkF m 44 #[.val (.long p1), .second, .val (.long p2), .second, .val (.int p3), .val (.int (lw_ma p1 p2 p3)), .val (.int (lw_mb p1 p2 p3)), .val (.double (lw_u p1 p2 p3)), .second, .val (.double (lw_v p1 p2 p3)), .second, .unset] [(.int (1 : Int32)), (.int ((so_r p1 (lw_ma p1 p2 p3)) * (so_r p2 (lw_mb p1 p2 p3))))])) t := by
      intro t k
      by_cases c6 : (if_icmp.holds .ne ((so_r p1 (lw_ma p1 p2 p3)) * (so_r p2 (lw_mb p1 p2 p3))) (1 : Int32)) = true
      · refine XS.icmpYes X4.here hx rfl (pc0 := 44) (pc' := 51) rfl (hb hby at_44) rfl c6 (by decide) (by decide) ?_
        show Steps p.tables e below (T4.setTop (mkF m 51 #[.val (.long p1), .second, .val (.long p2), .second, .val (.int p3), .val (.int (lw_ma p1 p2 p3)), .val (.int (lw_mb p1 p2 p3)), .val (.double (lw_u p1 p2 p3)), .second, .val (.double (lw_v p1 p2 p3)), .second, .unset] [])) t
        refine XS.iconst X4.here hx rfl (hb hby at_51) ?_
        show Steps p.tables e below (T4.setTop (mkF m 52 #[.val (.long p1), .second, .val (.long p2), .second, .val (.int p3), .val (.int (lw_ma p1 p2 p3)), .val (.int (lw_mb p1 p2 p3)), .val (.double (lw_u p1 p2 p3)), .second, .val (.double (lw_v p1 p2 p3)), .second, .unset] [(.int (0 : Int32))])) t
        have q : (lw_exp0 p1 p2 p3) = (0 : Int32) := by simp only [lw_exp0, c6, if_true, if_false, Bool.false_eq_true]; try rfl
        rw [q] at k
        clear q
        exact k
      · refine XS.icmpNo X4.here hx rfl (hb hby at_44) rfl (Bool.eq_false_iff.mpr c6) ?_
        show Steps p.tables e below (T4.setTop (mkF m 47 #[.val (.long p1), .second, .val (.long p2), .second, .val (.int p3), .val (.int (lw_ma p1 p2 p3)), .val (.int (lw_mb p1 p2 p3)), .val (.double (lw_u p1 p2 p3)), .second, .val (.double (lw_v p1 p2 p3)), .second, .unset] [])) t
        refine XS.iconst X4.here hx rfl (hb hby at_47) ?_
        show Steps p.tables e below (T4.setTop (mkF m 48 #[.val (.long p1), .second, .val (.long p2), .second, .val (.int p3), .val (.int (lw_ma p1 p2 p3)), .val (.int (lw_mb p1 p2 p3)), .val (.double (lw_u p1 p2 p3)), .second, .val (.double (lw_v p1 p2 p3)), .second, .unset] [(.int (1 : Int32))])) t
        refine XS.goto X4.here hx rfl (pc0 := 48) (pc' := 52) rfl (hb hby at_48) (by decide) (by decide) ?_
        show Steps p.tables e below (T4.setTop (mkF m 52 #[.val (.long p1), .second, .val (.long p2), .second, .val (.int p3), .val (.int (lw_ma p1 p2 p3)), .val (.int (lw_mb p1 p2 p3)), .val (.double (lw_u p1 p2 p3)), .second, .val (.double (lw_v p1 p2 p3)), .second, .unset] [(.int (1 : Int32))])) t
        have q : (lw_exp0 p1 p2 p3) = (1 : Int32) := by simp only [lw_exp0, c6, if_true, if_false, Bool.false_eq_true]; try rfl
        rw [q] at k
        clear q
        exact k
    refine sg5 _ ?_
    show Steps p.tables e below (T4.setTop (mkF m 52 #[.val (.long p1), .second, .val (.long p2), .second, .val (.int p3), .val (.int (lw_ma p1 p2 p3)), .val (.int (lw_mb p1 p2 p3)), .val (.double (lw_u p1 p2 p3)), .second, .val (.double (lw_v p1 p2 p3)), .second, .unset] [(.int (lw_exp0 p1 p2 p3))])) _
    refine XS.istore X4.here hx rfl (hb hby at_52) rfl (l' := #[.val (.long p1), .second, .val (.long p2), .second, .val (.int p3), .val (.int (lw_ma p1 p2 p3)), .val (.int (lw_mb p1 p2 p3)), .val (.double (lw_u p1 p2 p3)), .second, .val (.double (lw_v p1 p2 p3)), .second, .val (.int (lw_exp p1 p2 p3))]) rfl ?_
    show Steps p.tables e below (T4.setTop (mkF m 54 #[.val (.long p1), .second, .val (.long p2), .second, .val (.int p3), .val (.int (lw_ma p1 p2 p3)), .val (.int (lw_mb p1 p2 p3)), .val (.double (lw_u p1 p2 p3)), .second, .val (.double (lw_v p1 p2 p3)), .second, .val (.int (lw_exp p1 p2 p3))] [])) _
    refine XS.dload X4.here hx rfl (hb hby at_54) rfl ?_
    show Steps p.tables e below (T4.setTop (mkF m 56 #[.val (.long p1), .second, .val (.long p2), .second, .val (.int p3), .val (.int (lw_ma p1 p2 p3)), .val (.int (lw_mb p1 p2 p3)), .val (.double (lw_u p1 p2 p3)), .second, .val (.double (lw_v p1 p2 p3)), .second, .val (.int (lw_exp p1 p2 p3))] [(.double (lw_u p1 p2 p3))])) _
    refine XS.dload X4.here hx rfl (hb hby at_56) rfl ?_
    show Steps p.tables e below (T4.setTop (mkF m 58 #[.val (.long p1), .second, .val (.long p2), .second, .val (.int p3), .val (.int (lw_ma p1 p2 p3)), .val (.int (lw_mb p1 p2 p3)), .val (.double (lw_u p1 p2 p3)), .second, .val (.double (lw_v p1 p2 p3)), .second, .val (.int (lw_exp p1 p2 p3))] [(.double (lw_v p1 p2 p3)), (.double (lw_u p1 p2 p3))])) _
    refine st7 _ ?_
    show Steps p.tables e below (T7.setTop (mkF m 61 #[.val (.long p1), .second, .val (.long p2), .second, .val (.int p3), .val (.int (lw_ma p1 p2 p3)), .val (.int (lw_mb p1 p2 p3)), .val (.double (lw_u p1 p2 p3)), .second, .val (.double (lw_v p1 p2 p3)), .second, .val (.int (lw_exp p1 p2 p3))] [(.int (ss_res (lw_u p1 p2 p3) (lw_v p1 p2 p3)))])) _
    refine XS.iload X7.here hx rfl (hb hby at_61) rfl ?_
    show Steps p.tables e below (T7.setTop (mkF m 63 #[.val (.long p1), .second, .val (.long p2), .second, .val (.int p3), .val (.int (lw_ma p1 p2 p3)), .val (.int (lw_mb p1 p2 p3)), .val (.double (lw_u p1 p2 p3)), .second, .val (.double (lw_v p1 p2 p3)), .second, .val (.int (lw_exp p1 p2 p3))] [(.int (lw_exp p1 p2 p3)), (.int (ss_res (lw_u p1 p2 p3) (lw_v p1 p2 p3)))])) _
    refine XS.icmpNo X7.here hx rfl (hb hby at_63) rfl (own_e1 p1 p2 p3) ?_
    show Steps p.tables e below (T7.setTop (mkF m 66 #[.val (.long p1), .second, .val (.long p2), .second, .val (.int p3), .val (.int (lw_ma p1 p2 p3)), .val (.int (lw_mb p1 p2 p3)), .val (.double (lw_u p1 p2 p3)), .second, .val (.double (lw_v p1 p2 p3)), .second, .val (.int (lw_exp p1 p2 p3))] [])) _
    refine XS.dload X7.here hx rfl (hb hby at_66) rfl ?_
    show Steps p.tables e below (T7.setTop (mkF m 68 #[.val (.long p1), .second, .val (.long p2), .second, .val (.int p3), .val (.int (lw_ma p1 p2 p3)), .val (.int (lw_mb p1 p2 p3)), .val (.double (lw_u p1 p2 p3)), .second, .val (.double (lw_v p1 p2 p3)), .second, .val (.int (lw_exp p1 p2 p3))] [(.double (lw_v p1 p2 p3))])) _
    refine XS.dload X7.here hx rfl (hb hby at_68) rfl ?_
    show Steps p.tables e below (T7.setTop (mkF m 70 #[.val (.long p1), .second, .val (.long p2), .second, .val (.int p3), .val (.int (lw_ma p1 p2 p3)), .val (.int (lw_mb p1 p2 p3)), .val (.double (lw_u p1 p2 p3)), .second, .val (.double (lw_v p1 p2 p3)), .second, .val (.int (lw_exp p1 p2 p3))] [(.double (lw_u p1 p2 p3)), (.double (lw_v p1 p2 p3))])) _
    refine st8 _ ?_
    show Steps p.tables e below (T8.setTop (mkF m 73 #[.val (.long p1), .second, .val (.long p2), .second, .val (.int p3), .val (.int (lw_ma p1 p2 p3)), .val (.int (lw_mb p1 p2 p3)), .val (.double (lw_u p1 p2 p3)), .second, .val (.double (lw_v p1 p2 p3)), .second, .val (.int (lw_exp p1 p2 p3))] [(.int (ss_res (lw_v p1 p2 p3) (lw_u p1 p2 p3)))])) _
    refine XS.iload X8.here hx rfl (hb hby at_73) rfl ?_
    show Steps p.tables e below (T8.setTop (mkF m 75 #[.val (.long p1), .second, .val (.long p2), .second, .val (.int p3), .val (.int (lw_ma p1 p2 p3)), .val (.int (lw_mb p1 p2 p3)), .val (.double (lw_u p1 p2 p3)), .second, .val (.double (lw_v p1 p2 p3)), .second, .val (.int (lw_exp p1 p2 p3))] [(.int (lw_exp p1 p2 p3)), (.int (ss_res (lw_v p1 p2 p3) (lw_u p1 p2 p3)))])) _
    refine XS.icmpNo X8.here hx rfl (hb hby at_75) rfl (own_e2 p1 p2 p3) ?_
    show Steps p.tables e below (T8.setTop (mkF m 78 #[.val (.long p1), .second, .val (.long p2), .second, .val (.int p3), .val (.int (lw_ma p1 p2 p3)), .val (.int (lw_mb p1 p2 p3)), .val (.double (lw_u p1 p2 p3)), .second, .val (.double (lw_v p1 p2 p3)), .second, .val (.int (lw_exp p1 p2 p3))] [])) _
    refine XS.iconst X8.here hx rfl (hb hby at_78) ?_
    show Steps p.tables e below (T8.setTop (mkF m 79 #[.val (.long p1), .second, .val (.long p2), .second, .val (.int p3), .val (.int (lw_ma p1 p2 p3)), .val (.int (lw_mb p1 p2 p3)), .val (.double (lw_u p1 p2 p3)), .second, .val (.double (lw_v p1 p2 p3)), .second, .val (.int (lw_exp p1 p2 p3))] [(.int (1 : Int32))])) _
    refine XS.goto X8.here hx rfl (pc0 := 79) (pc' := 83) rfl (hb hby at_79) (by decide) (by decide) ?_
    show Steps p.tables e below (T8.setTop (mkF m 83 #[.val (.long p1), .second, .val (.long p2), .second, .val (.int p3), .val (.int (lw_ma p1 p2 p3)), .val (.int (lw_mb p1 p2 p3)), .val (.double (lw_u p1 p2 p3)), .second, .val (.double (lw_v p1 p2 p3)), .second, .val (.int (lw_exp p1 p2 p3))] [(.int (1 : Int32))])) _
    exact retN X8 hx (t := .boolean) Bd.returns (by simp) (hb hby at_83) hr
  · show Q_lw Z p1 p2 p3  h0 n0 _ T8.heap _
    exact ⟨rfl, Nn8⟩
set_option maxRecDepth 65536 in
set_option maxHeartbeats 40000000 in
theorem comes_1 {Post : Tables → Env → Array Value → State → Outcome → State → Prop} (hpost : ∀ tb e args s v u, (limb_1_1.after args s (.returned v) u = true ∧ limb_1_2.after args s (.returned v) u = true ∧ True) → FrameEnd s (.returned v) u (Jvm.fieldLocs frame_1_writes args s ++ Jvm.arrayLocs frame_1_arrays args s ++ Jvm.staticLocs frame_1_statics s) 0 0 → Post tb e args s (.returned v) u) :
    ArmFor flags0 classFile x code maxLocals ret World_1 tables_1 room_1 Calls_1 rest_1 Pre_1 Post := by
  intro l hfl _ _ p e ha hc hk s m args below hf hA hF happ hP
  obtain ⟨hcalls, hrest, hpre⟩ := hP
  obtain ⟨-, -, -, hnamed, -, -, -, hat⟩ := (Spec.applies_iff hf).mp happ
  obtain ⟨hg, hn⟩ := and_e (Cond.before_iff.mp (show (Jvm.Cond.and given_1 narrow_1).before args s = true from hpre))
  obtain ⟨h1, g0⟩ := and_e hg
  obtain ⟨i0, g1⟩ := and_e g0
  obtain ⟨i1, g2⟩ := and_e g1
  obtain ⟨w0, w1, w2, rfl⟩ : ∃ w0 w1 w2 : Value, args = #[w0, w1, w2] := by
    have hs : args.size = 3 := by simpa [Cond.value, given_1] using h1
    obtain ⟨L⟩ := args
    match L, hs with
    | [w0, w1, w2], _ => exact ⟨w0, w1, w2, rfl⟩
  have hw := fun d (hd : d ∈ tables_1) => atoms_spec (ws := Jvm.Cond.code x code maxLocals ret :: tables_1) hat d (List.mem_cons_of_mem _ hd)
  obtain ⟨v0, e0⟩ := isL_v i0
  obtain rfl : w0 = (.long v0) := Option.some.inj e0
  obtain ⟨v1, e1⟩ := isL_v i1
  obtain rfl : w1 = (.long v1) := Option.some.inj e1
  obtain ⟨v2, e2⟩ := is_v g2
  obtain rfl : w2 = (.int v2) := Option.some.inj e2
  obtain ⟨n, o, h1, h2, h3, _, L, rfl, ⟨rfl, N⟩, hq⟩ := rm_lw l s _ hw tables_1 v0 v1 v2  s.heap s.heap.size (Nat.le_refl _)  p e ha hc hk s m _ below hf ((Spec.applies_iff_loose hf).mp happ).1 ⟨rfl, State.Warmed39.refl s, rfl⟩ trivial
  refine ⟨n, _, h1, h2, h3, hpost _ _ _ _ _ _ ⟨Cond.after_iff.mpr rfl, Cond.after_iff.mpr (eq_i res_at (Term.int_eval (1)) rfl), trivial⟩ ⟨hq.1, hq.2.1, (hq.2.2.sift fun y hy => Or.inr (N y hy)).mono (by decide) (by decide)⟩⟩
theorem main_1_1 : Claimed_1_1 := comes_1 fun _ _ _ _ _ _ h hF => ⟨h.1, hF⟩
theorem main_1_2 : Claimed_1_2 := comes_1 fun _ _ _ _ _ _ h hF => ⟨h.2.1, hF⟩
end Jvm.Pilot.@@N@@
namespace Jvm.Pilot.@@N@@
open Jvm Jvm.ClassFile Sem Op Lib Jvm.Free Jvm.Stand Jvm.Pilot.@@N@@.Jvm.D
/-! MADE BY PROGRAM (witnessworld.py) out of the Statement's table words and the real class files: 9 classes; the members and pool entries that the words name. The judged class is class 1, her method 4. -/
namespace start1
open Jvm.ClassFile
def u (s : String) : CpInfo := .utf8 (stringToUtf16 s)
/-- a pool by its gaps: so many unusable entries, then the entry; so many at the end -/
def gap : Nat → List CpInfo → List CpInfo
  | 0, r => r
  | n + 1, r => .unusable :: gap n r
def poolList (es : List (Nat × CpInfo)) (last : Nat) : List CpInfo := es.foldr (fun e r => gap e.1 (e.2 :: r)) (gap last [])
def pool (es : List (Nat × CpInfo)) (last : Nat) : Array CpInfo := ⟨poolList es last⟩
def fileOf (pool : Array CpInfo) (this : Nat) (attrs : Array Attribute := #[]) (ms : Array MethodInfo := #[]) (fl : Nat := 33) (sup : Nat := 0) (ifs : Array Nat := #[]) (fds : Array FieldInfo := #[]) : ClassFile where
  minorVersion := 0
  majorVersion := 65
  constantPool := pool
  accessFlags := fl
  thisClass := this
  superClass := sup
  interfaces := ifs
  fields := fds
  methods := ms
  attributes := attrs
def plain (name : String) (sup : Option ClassId) : Class where
  name := name
  kind := .ordinary
  loader := none
  accessFlags := 33
  super := sup
  interfaces := #[]
  cf := none
  fields := #[]
  methods := #[]
  instanceTypes := #[]
  staticTypes := #[]
  resolved := #[]
  callSites := []
  init := .initialized
  statics := none
  mirror := none

def pool0 : Array CpInfo := pool [(5, u "<init>"), (0, u "()V"), (1, .class_ 10), (1, u "java/lang/Object")] 113

def k0m0 : Method := { name := "<init>", desc := "()V", sig := { parameters := [], returnType := none }, accessFlags := 1, code := none }
/-- java/lang/Object -/
def k0 : Class := { plain "java/lang/Object" none with
  accessFlags := 33
  interfaces := #[]
  cf := some (fileOf pool0 8 #[] #[{ accessFlags := 1, nameIndex := 5, descriptorIndex := 6, attributes := #[] }] 33 0 #[] #[])
  fields := #[]
  methods := #[k0m0]
  instanceTypes := #[]
  staticTypes := #[]
  resolved := Array.replicate 124 none
  statics := none }

def pool1 : Array CpInfo := pool [(2, .class_ 4), (1, u "java/lang/Object"), (0, u "<init>"), (0, u "()V"), (0, .double 9214871658872686752), (1, .methodref 10 11), (0, .class_ 12), (0, .nameAndType 13 14), (0, u "com/example/quadratur/quadratur/method/RootSearchSameSignPinLaw"), (0, u "sign"), (0, u "(J)I"), (0, .methodref 10 16), (0, .nameAndType 17 18), (0, u "make"), (0, u "(JI)D"), (0, .methodref 10 20), (0, .nameAndType 21 22), (0, u "signOf"), (0, u "(JI)I"), (0, .methodref 24 25), (0, .class_ 26), (0, .nameAndType 27 28), (0, u "com/example/quadratur/quadratur/method/RootSearch"), (0, u "sameSign"), (0, u "(DD)Z"), (3, u "law"), (0, u "(JJI)Z")] 2

def k1m0 : Method := { name := "<init>", desc := "()V", sig := { parameters := [], returnType := none }, accessFlags := 1, code := none }
def k1c1 : Code := { maxStack := 4, maxLocals := 2, code := method_2_code, exceptionTable := #[], attributes := #[] }
def k1m1 : Method := { name := "sign", desc := "(J)I", sig := { parameters := [.long], returnType := some .int }, accessFlags := 10, code := some k1c1 }
def k1c2 : Code := { maxStack := 4, maxLocals := 5, code := method_3_code, exceptionTable := #[], attributes := #[] }
def k1m2 : Method := { name := "make", desc := "(JI)D", sig := { parameters := [.long, .int], returnType := some .double }, accessFlags := 10, code := some k1c2 }
def k1c3 : Code := { maxStack := 2, maxLocals := 4, code := method_4_code, exceptionTable := #[], attributes := #[] }
def k1m3 : Method := { name := "signOf", desc := "(JI)I", sig := { parameters := [.long, .int], returnType := some .int }, accessFlags := 10, code := some k1c3 }
def k1c4 : Code := { maxStack := 4, maxLocals := 12, code := code, exceptionTable := #[], attributes := #[] }
def k1m4 : Method := { name := "law", desc := "(JJI)Z", sig := { parameters := [.long, .long, .int], returnType := some .boolean }, accessFlags := 9, code := some k1c4 }
/-- com/example/quadratur/quadratur/method/RootSearchSameSignPinLaw -/
def k1 : Class := { plain "com/example/quadratur/quadratur/method/RootSearchSameSignPinLaw" (some 0) with
  accessFlags := 49
  interfaces := #[]
  cf := some (fileOf pool1 10 #[] #[{ accessFlags := 1, nameIndex := 5, descriptorIndex := 6, attributes := #[] }, { accessFlags := 10, nameIndex := 13, descriptorIndex := 14, attributes := #[] }, { accessFlags := 10, nameIndex := 17, descriptorIndex := 18, attributes := #[] }, { accessFlags := 10, nameIndex := 21, descriptorIndex := 22, attributes := #[] }, { accessFlags := 9, nameIndex := 32, descriptorIndex := 33, attributes := #[] }] 49 2 #[] #[])
  fields := #[]
  methods := #[k1m0, k1m1, k1m2, k1m3, k1m4]
  instanceTypes := #[]
  staticTypes := #[]
  resolved := Array.replicate 36 none
  statics := none }

def pool2 : Array CpInfo := pool [(2, .class_ 4), (1, u "java/lang/Object"), (3, .class_ 10), (1, u "com/example/quadratur/quadratur/method/RootSearch"), (0, u "precision"), (0, u "Lcom/example/quadratur/quadratur/method/Precision;"), (2, u "f"), (0, u "Ljava/util/function/UnaryOperator;"), (2, u "iterates"), (0, u "Ljava/util/function/Consumer;"), (54, u "evaluations"), (0, u "I"), (6, u "steps"), (20, u "opening"), (0, u "Ljava/lang/Object;"), (24, u "sameSign"), (22, u "NO_ITERATES"), (0, u "Ljava/util/function/DoubleConsumer;"), (5, u "NO_DECIMAL_ITERATES"), (33, u "(DD)Z")] 59

def k2c0 : Code := { maxStack := 4, maxLocals := 4, code := prog_53_method_16_code, exceptionTable := #[], attributes := #[] }
def k2m0 : Method := { name := "sameSign", desc := "(DD)Z", sig := { parameters := [.double, .double], returnType := some .boolean }, accessFlags := 8, code := some k2c0 }
/-- com/example/quadratur/quadratur/method/RootSearch -/
def k2 : Class := { plain "com/example/quadratur/quadratur/method/RootSearch" (some 0) with
  accessFlags := 48
  interfaces := #[]
  cf := some (fileOf pool2 8 #[] #[{ accessFlags := 8, nameIndex := 130, descriptorIndex := 194, attributes := #[] }] 48 2 #[] #[{ accessFlags := 24, nameIndex := 153, descriptorIndex := 154, attributes := #[] }, { accessFlags := 24, nameIndex := 160, descriptorIndex := 20, attributes := #[] }, { accessFlags := 18, nameIndex := 11, descriptorIndex := 12, attributes := #[] }, { accessFlags := 18, nameIndex := 15, descriptorIndex := 16, attributes := #[] }, { accessFlags := 18, nameIndex := 19, descriptorIndex := 20, attributes := #[] }, { accessFlags := 2, nameIndex := 83, descriptorIndex := 76, attributes := #[] }, { accessFlags := 2, nameIndex := 75, descriptorIndex := 76, attributes := #[] }, { accessFlags := 2, nameIndex := 104, descriptorIndex := 105, attributes := #[] }])
  fields := #[{ name := "NO_ITERATES", type := (.object "java/util/function/DoubleConsumer"), accessFlags := 24, slot := 0, constantValue := 0 }, { name := "NO_DECIMAL_ITERATES", type := (.object "java/util/function/Consumer"), accessFlags := 24, slot := 1, constantValue := 0 }, { name := "precision", type := (.object "com/example/quadratur/quadratur/method/Precision"), accessFlags := 18, slot := 0, constantValue := 0 }, { name := "f", type := (.object "java/util/function/UnaryOperator"), accessFlags := 18, slot := 1, constantValue := 0 }, { name := "iterates", type := (.object "java/util/function/Consumer"), accessFlags := 18, slot := 2, constantValue := 0 }, { name := "steps", type := .int, accessFlags := 2, slot := 3, constantValue := 0 }, { name := "evaluations", type := .int, accessFlags := 2, slot := 4, constantValue := 0 }, { name := "opening", type := (.object "java/lang/Object"), accessFlags := 2, slot := 5, constantValue := 0 }]
  methods := #[k2m0]
  instanceTypes := #[(.object "com/example/quadratur/quadratur/method/Precision"), (.object "java/util/function/UnaryOperator"), (.object "java/util/function/Consumer"), .int, .int, (.object "java/lang/Object")]
  staticTypes := #[(.object "java/util/function/DoubleConsumer"), (.object "java/util/function/Consumer")]
  resolved := Array.replicate 254 none
  statics := none }

def pool3 : Array CpInfo := pool [(1, u "java/lang/Cloneable"), (0, .class_ 1), (0, u "java/lang/Object"), (0, .class_ 3)] 3

/-- java/lang/Cloneable -/
def k3 : Class := { plain "java/lang/Cloneable" (some 0) with
  accessFlags := 1537
  interfaces := #[]
  cf := some (fileOf pool3 2 #[] #[] 1537 4 #[] #[])
  fields := #[]
  methods := #[]
  instanceTypes := #[]
  staticTypes := #[]
  resolved := Array.replicate 8 none
  statics := none }

def pool4 : Array CpInfo := pool [(1, u "java/io/Serializable"), (0, .class_ 1), (0, u "java/lang/Object"), (0, .class_ 3)] 3

/-- java/io/Serializable -/
def k4 : Class := { plain "java/io/Serializable" (some 0) with
  accessFlags := 1537
  interfaces := #[]
  cf := some (fileOf pool4 2 #[] #[] 1537 4 #[] #[])
  fields := #[]
  methods := #[]
  instanceTypes := #[]
  staticTypes := #[]
  resolved := Array.replicate 8 none
  statics := none }

/-- the primitive byte -/
def k5 : Class := { plain "byte" none with kind := .primitive 'B', accessFlags := 0x411 }
/-- [B -/
def k6 : Class := { plain "[B" (some 0) with kind := .array 5 .byte, interfaces := #[3, 4], accessFlags := 1041 }

/-- the primitive int -/
def k7 : Class := { plain "int" none with kind := .primitive 'I', accessFlags := 0x411 }
/-- [I -/
def k8 : Class := { plain "[I" (some 0) with kind := .array 7 .int, interfaces := #[3, 4], accessFlags := 1041 }

def heap : Heap := #[]
def classes : Array Class := #[k0, k1, k2, k3, k4, k5, k6, k7, k8]
def interned : List (Array UInt16 × Addr) := []
def slotsUsed : Nat := 0
def theMethod : MethodId := ⟨1, 4⟩
def args0 : Array Value := #[.long 3, .long 4, .int 5]
def aboutOver (below : List Frame) : State where
  vm := { classes := classes, interned := interned.toArray }
  heap := heap
  slotsUsed := slotsUsed
  threads := #[{ frames := .invoking theMethod args0 :: below }]
def below0 : List Frame := [.native { method := ⟨0, 0⟩, args := #[] }]
def about1 : State := aboutOver below0
def p0 : Program := .bare "" "" ""
def e0 : Env := launch0.env 0 0 0
theorem w_frames : about1.frames = Frame.invoking theMethod args0 :: below0 := rfl
set_option maxRecDepth 65536 in
theorem w_args : argsFit about1.vm theMethod args0 = true := by decide +kernel
set_option maxRecDepth 65536 in
theorem w_heap : heapFits about1 = true := by decide +kernel
set_option maxRecDepth 65536 in
theorem w_runnable : about1.curStatus? = some .runnable := by decide +kernel
set_option maxRecDepth 65536 in
theorem w_alone : about1.alone = true := by decide +kernel
set_option maxRecDepth 65536 in
theorem w_named : about1.methodNamed? x = some theMethod := by decide +kernel
set_option maxRecDepth 65536 in
theorem w_hears : about1.hears theMethod below0 = true := by decide +kernel
set_option maxRecDepth 65536 in
theorem w_ripe : about1.ripe theMethod args0 below0 = true := by decide +kernel
theorem w_running : about1.status = .running := rfl
set_option maxRecDepth 65536 in
theorem w_room : about1.hasRoom e0.platform room_1 = true :=
  launch0.hasRoom_least _ room_1 (by decide +kernel) (by decide +kernel) (by decide +kernel) (by decide +kernel) (by decide +kernel) (by decide +kernel)
theorem allAtoms_all (ts : List Jvm.Cond) (a : Array Jvm.Value) (st : Jvm.State) : (allAtoms ts).before a st = ts.all (fun c => c.before a st) := by
  induction ts with
  | nil => rfl
  | cons c t ih =>
    show (Jvm.Cond.and c (allAtoms t)).before a st = _
    rw [Jvm.Cond.before_and, ih, List.all_cons]
def words1 : List Jvm.Cond := Jvm.Cond.code x code maxLocals ret :: tables_1
/-- a 'code' word, met by the world's own term for the bytes: nothing is compared byte by byte -/
theorem code_word {y : MethodName} {bytes : ByteArray} {mx : Nat} {rt : Option FieldType} {a : Array Value} {s : State} {m : MethodId} {meth : Method} {c : Code} (h1 : s.methodNamed? y = some m) (h2 : s.vm.method? m = some meth) (h3 : meth.code = some c) (h4 : c.code = bytes)
    (h5 : (c.maxLocals == mx && c.exceptionTable.isEmpty && decide (c.maxStack ≤ mostOperands) && decide (meth.sig.returnType = rt) && !meth.locks && decide (parseMethodDescriptor y.desc = some meth.sig)) = true) : (Jvm.Cond.code y bytes mx rt).before a s = true := by
  simp only [Bool.and_eq_true, beq_iff_eq, Bool.not_eq_true', decide_eq_true_eq] at h5
  obtain ⟨⟨⟨⟨⟨g1, g2⟩, g3⟩, g4⟩, g5⟩, g6⟩ := h5
  simp [Cond.before, Cond.holds, Cond.value, h1, h2, h3, h4, g1, g2, g3, g4, g5, g6]
def isCode : Jvm.Cond → Bool
  | .code _ _ _ _ => true
  | _ => false
theorem all_split {L : List Jvm.Cond} {P : Jvm.Cond → Bool} (h1 : L.all (fun c => isCode c || P c) = true) (h2 : ∀ c ∈ L.filter isCode, P c = true) : L.all P = true := by
  refine List.all_eq_true.mpr fun c hc => ?_
  have h := List.all_eq_true.mp h1 c hc
  rcases Bool.eq_false_or_eq_true (isCode c) with hi | hi
  · exact h2 c (List.mem_filter.mpr ⟨hc, hi⟩)
  · simpa [hi] using h
set_option maxRecDepth 65536 in
theorem w_c0 : (Jvm.Cond.code x code maxLocals ret).before args0 about1 = true := code_word (m := ⟨1, 4⟩) (meth := k1m4) (c := k1c4) (by decide +kernel) rfl rfl rfl (by decide +kernel)
set_option maxRecDepth 65536 in
theorem w_c1 : (Jvm.Cond.code ({ cls := "com/example/quadratur/quadratur/method/RootSearchSameSignPinLaw", name := "make", desc := "(JI)D" } : Jvm.MethodName) method_3_code (5 : Nat) (Option.some Jvm.ClassFile.FieldType.double)).before args0 about1 = true := code_word (m := ⟨1, 2⟩) (meth := k1m2) (c := k1c2) (by decide +kernel) rfl rfl rfl (by decide +kernel)
set_option maxRecDepth 65536 in
theorem w_c2 : (Jvm.Cond.code ({ cls := "com/example/quadratur/quadratur/method/RootSearchSameSignPinLaw", name := "signOf", desc := "(JI)I" } : Jvm.MethodName) method_4_code (4 : Nat) (Option.some Jvm.ClassFile.FieldType.int)).before args0 about1 = true := code_word (m := ⟨1, 3⟩) (meth := k1m3) (c := k1c3) (by decide +kernel) rfl rfl rfl (by decide +kernel)
set_option maxRecDepth 65536 in
theorem w_c3 : (Jvm.Cond.code ({ cls := "com/example/quadratur/quadratur/method/RootSearchSameSignPinLaw", name := "sign", desc := "(J)I" } : Jvm.MethodName) method_2_code (2 : Nat) (Option.some Jvm.ClassFile.FieldType.int)).before args0 about1 = true := code_word (m := ⟨1, 1⟩) (meth := k1m1) (c := k1c1) (by decide +kernel) rfl rfl rfl (by decide +kernel)
set_option maxRecDepth 65536 in
theorem w_c4 : (Jvm.Cond.code ({ cls := "com/example/quadratur/quadratur/method/RootSearch", name := "sameSign", desc := "(DD)Z" } : Jvm.MethodName) prog_53_method_16_code (4 : Nat) (Option.some Jvm.ClassFile.FieldType.boolean)).before args0 about1 = true := code_word (m := ⟨2, 0⟩) (meth := k2m0) (c := k2c0) (by decide +kernel) rfl rfl rfl (by decide +kernel)
def codes1 : List Jvm.Cond := [Jvm.Cond.code x code maxLocals ret, Jvm.Cond.code ({ cls := "com/example/quadratur/quadratur/method/RootSearchSameSignPinLaw", name := "make", desc := "(JI)D" } : Jvm.MethodName) method_3_code (5 : Nat) (Option.some Jvm.ClassFile.FieldType.double), Jvm.Cond.code ({ cls := "com/example/quadratur/quadratur/method/RootSearchSameSignPinLaw", name := "signOf", desc := "(JI)I" } : Jvm.MethodName) method_4_code (4 : Nat) (Option.some Jvm.ClassFile.FieldType.int), Jvm.Cond.code ({ cls := "com/example/quadratur/quadratur/method/RootSearchSameSignPinLaw", name := "sign", desc := "(J)I" } : Jvm.MethodName) method_2_code (2 : Nat) (Option.some Jvm.ClassFile.FieldType.int), Jvm.Cond.code ({ cls := "com/example/quadratur/quadratur/method/RootSearch", name := "sameSign", desc := "(DD)Z" } : Jvm.MethodName) prog_53_method_16_code (4 : Nat) (Option.some Jvm.ClassFile.FieldType.boolean)]
set_option maxRecDepth 65536 in
theorem codes_eq : words1.filter isCode = codes1 := rfl
theorem w_codes : ∀ c ∈ words1.filter isCode, c.before args0 about1 = true := by
  rw [codes_eq]
  intro c hc
  simp only [codes1, List.mem_cons, List.not_mem_nil, or_false] at hc
  rcases hc with rfl | rfl | rfl | rfl | rfl
  · exact w_c0
  · exact w_c1
  · exact w_c2
  · exact w_c3
  · exact w_c4
set_option maxRecDepth 65536 in
theorem w_t1 : words1.all (fun c => isCode c || c.before args0 about1) = true := by decide +kernel
theorem w_tables : (allAtoms (Jvm.Cond.code x code maxLocals ret :: tables_1)).before args0 about1 = true := by
  rw [allAtoms_all]
  show words1.all (fun c => c.before args0 about1) = true
  refine all_split ?_ w_codes
  rw [w_t1]
set_option maxRecDepth 65536 in
theorem w_case : (Jvm.Cond.and given_1 narrow_1).before args0 about1 = true := by decide +kernel
theorem w_applies : (headSpec (Jvm.Cond.code x code maxLocals ret :: tables_1) room_1).applies x e0.platform about1 = true :=
  (Spec.applies_iff w_frames).mpr ⟨w_running, w_runnable, w_alone, w_named, w_hears, w_ripe, w_room, w_tables⟩
theorem atStart : AtStart classFile x code maxLocals ret World_1 tables_1 room_1 Calls_1 rest_1 Pre_1 launch0 p0 e0 about1 theMethod args0 below0 :=
  ⟨lists_1, trivial, launch0.admits_env _ _ _, launch0.least_env, fairChoices_fair.cas, fairChoices_fair.clock, w_frames, w_args, w_heap, w_applies, trivial, trivial, w_case⟩
end start1
theorem witness_1 : WitnessClaimed_1 := ⟨start1.p0, start1.e0, start1.about1, start1.theMethod, start1.args0, start1.below0, start1.atStart⟩
end Jvm.Pilot.@@N@@
