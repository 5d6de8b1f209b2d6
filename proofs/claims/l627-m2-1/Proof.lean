import JvmDerived
import JvmDerived.Pilot.@@N@@Statement
import JvmDerived.Pilot.@@N@@Code
set_option linter.unusedVariables false
set_option linter.unusedSimpArgs false
@@BLOCK:NumsL.lean.txt@@
namespace Jvm.RoadKit
open Sem ClassFile Op Lib Jvm.Stand Jvm.Free Jvm.LawKit
section New
variable {p : Program} {l : Launch} {e : Env} {R : Room} {s : State} {m : MethodId} {args : Array Value} {below : List Frame} {meth : Method} {c : Code} {T : State} {locs : List Loc} {cells slots : Nat}
theorem retI (X : Stand p l e R s m args below meth c T locs cells slots) (hx : p.tables.exec = Jvm.exec) {pc : Nat} {Ls : Array Slot} {z : Int32} {rest : List Value} (hret : meth.sig.returnType = some .int) (hd : decode c.code pc = .ok (.ireturn, 1)) {fs : List Frame}
    (hl : ∀ (f : JFrame) (acts : List Action), f.method = m → f.locked = none → f.entered = [] → (doReturn e (T.setTop f) acts (some (.int z))).1 = T.setFrames fs) : Steps p.tables e below (T.setTop (mkF m pc Ls (.int z :: rest))) (T.setFrames fs) := by
  have hm' : T.vm.method? m = some meth := X.method'
  have hn : narrow .int (.int z) = .int z := rfl
  show Steps p.tables e below (T.setTop { method := m, pc := pc, locals := Ls, stack := _ :: rest, locked := none }) _
  jvm_step X.here [X.here.top, hx, hd, hm', hret, hn]
  first | (intro acts; rw [hl _ acts rfl rfl rfl]) | rw [hl _ _ rfl rfl rfl]
  exact Steps.refl _
end New
end Jvm.RoadKit
namespace Jvm.Pilot.@@N@@
open Jvm Jvm.ClassFile Sem Op Lib Jvm.Free Jvm.Stand Jvm.LawKit Jvm.RoadKit Bundle Jvm.Pilot.@@N@@.Jvm.D
/-! own text: doubles as whole numbers of 2^-1074 (own_Fin), what a double can hold (own_Rep), and the four operations by bounds -/
def own_Rep (z : Int) : Prop := ∃ (s : Bool) (c : Nat) (q : Int), FP.Core.fits FP.Core.b64 (.fin s c q) ∧ FP.Core.zval FP.Core.b64 (.fin s c q) = z
def own_Fin (a : UInt64) (z : Int) : Prop := FP.Core.DFin a ∧ FP.Core.zval FP.Core.b64 (FP.Core.val64 a) = z
def own_U : Int := ((FP.Core.one64 : Nat) : Int)
theorem own_U_pos : 0 < own_U := Int.natCast_pos.mpr FP.Core.one64_pos
theorem own_U_lit : own_U = 202402253307310618352495346718917307049556649764142118356901358027430339567995346891960383701437124495187077864316811911389808737385793476867013399940738509921517424276566361364466907742093216341239767678472745068562007483424692698618103355649159556340810056512358769552333414615230502532186327508646006263307707741093494784 := by decide +kernel
theorem own_Fin.rep {a : UInt64} {z : Int} (h : own_Fin a z) : own_Rep z := by
  obtain ⟨⟨s, c, q, e⟩, h⟩ := h
  refine ⟨s, c, q, ?_, ?_⟩
  · rw [← e]; exact FP.Core.val64_fits a
  · rw [← e]; exact h
theorem own_Fin.ne {a : UInt64} {z : Int} (h : own_Fin a z) : FP.Core.val64 a ≠ .nan := h.1.ne_nan
theorem own_Fin.nn {a : UInt64} {z : Int} (h : own_Fin a z) : Jvm.Free.Fl.NoNaN64 a := Jvm.Free.Fl.val64_no.mpr h.ne
def own_Val (a : UInt64) (z : Int) : Prop := FP.Core.val64 a ≠ .nan ∧ FP.Core.zval FP.Core.b64 (FP.Core.val64 a) = z
theorem own_Fin.v {a : UInt64} {z : Int} (h : own_Fin a z) : own_Val a z := ⟨h.ne, h.2⟩
theorem own_Val.nn {a : UInt64} {z : Int} (h : own_Val a z) : Jvm.Free.Fl.NoNaN64 a := Jvm.Free.Fl.val64_no.mpr h.1
theorem own_Fin.cast {a : UInt64} {z w : Int} (h : own_Fin a z) (e : z = w) : own_Fin a w := e ▸ h
theorem own_signed_le (s : Bool) (n : Nat) : FP.Core.signed s n ≤ (n : Int) ∧ -(n : Int) ≤ FP.Core.signed s n := by
  cases s <;> simp only [FP.Core.signed, if_true, Bool.false_eq_true, if_false] <;> omega
theorem own_zval_inf (f : FP.Core.Fmt) (s : Bool) : FP.Core.zval f (.inf s) = FP.Core.signed s (f.tails * 2 ^ (f.exps - 2)) := rfl
theorem own_zval_fin (f : FP.Core.Fmt) (s : Bool) (c : Nat) (q : Int) : FP.Core.zval f (.fin s c q) = FP.Core.signed s (FP.Core.inUnits c q f.qmin) := rfl
theorem own_Rep.lt {z : Int} (h : own_Rep z) : z < ((FP.Core.b64.tails * 2 ^ (FP.Core.b64.exps - 2) : Nat) : Int) ∧ -((FP.Core.b64.tails * 2 ^ (FP.Core.b64.exps - 2) : Nat) : Int) < z := by
  obtain ⟨s, c, q, hf, rfl⟩ := h
  have h1 := FP.Core.zmag_lt_top FP.Core.good_b64 hf
  have h2 := own_signed_le s (FP.Core.inUnits c q FP.Core.b64.qmin)
  rw [own_zval_fin]
  generalize FP.Core.inUnits c q FP.Core.b64.qmin = n at *
  generalize FP.Core.b64.tails * 2 ^ (FP.Core.b64.exps - 2) = t at *
  omega
theorem own_fin_of {r : UInt64} {lo hi : Int} (hn : FP.Core.val64 r ≠ .nan) (rl : own_Rep lo) (rh : own_Rep hi) (h1 : lo ≤ FP.Core.zval FP.Core.b64 (FP.Core.val64 r)) (h2 : FP.Core.zval FP.Core.b64 (FP.Core.val64 r) ≤ hi) :
    ∃ z, own_Fin r z ∧ lo ≤ z ∧ z ≤ hi := by
  refine ⟨_, ⟨?_, rfl⟩, h1, h2⟩
  have a := rl.lt
  have b := rh.lt
  cases hv : FP.Core.val64 r with
  | nan => exact absurd hv hn
  | fin s c q => exact ⟨s, c, q, hv⟩
  | inf s =>
    exfalso
    rw [hv, own_zval_inf] at h1 h2
    generalize FP.Core.b64.tails * 2 ^ (FP.Core.b64.exps - 2) = t at *
    cases s <;> simp only [FP.Core.signed, if_true, Bool.false_eq_true, if_false] at h1 h2 <;> omega
theorem own_add {a b : UInt64} {x y lo hi : Int} (ha : own_Fin a x) (hb : own_Fin b y) (rl : own_Rep lo) (rh : own_Rep hi) (h1 : lo ≤ x + y) (h2 : x + y ≤ hi) : ∃ z, own_Fin (FP.dadd a b) z ∧ lo ≤ z ∧ z ≤ hi := by
  obtain ⟨s1, c1, q1, f1, e1⟩ := id rl
  obtain ⟨s2, c2, q2, f2, e2⟩ := id rh
  have ev : FP.Core.val64 (FP.dadd a b) = _ := FP.Core.val64_dadd a b
  refine own_fin_of ((FP.Core.notNaN_iff _).mp (FP.Core.dadd_out ha.1.notNaN hb.1)) rl rh ?_ ?_
  · rw [ev, ← e1]
    exact FP.Core.sum_ge FP.Core.good_b64 ha.1 hb.1 (FP.Core.val64_fits a) (FP.Core.val64_fits b) f1 (fun q => nomatch q) (by rw [e1, ha.2, hb.2]; exact h1)
  · rw [ev, ← e2]
    exact FP.Core.sum_le FP.Core.good_b64 ha.1 hb.1 (FP.Core.val64_fits a) (FP.Core.val64_fits b) f2 (fun q => nomatch q) (by rw [e2, ha.2, hb.2]; exact h2)
theorem own_add_e {a b : UInt64} {x y : Int} (ha : own_Fin a x) (hb : own_Fin b y) (r : own_Rep (x + y)) : own_Fin (FP.dadd a b) (x + y) := by
  obtain ⟨z, h, h1, h2⟩ := own_add ha hb r r (Int.le_refl _) (Int.le_refl _)
  exact h.cast (Int.le_antisymm h2 h1)
theorem own_fin_negate {d : FP.Core.Datum} (h : ∃ s c q, d = .fin s c q) : ∃ s c q, FP.Core.negate d = .fin s c q := by
  obtain ⟨s, c, q, rfl⟩ := h
  exact ⟨!s, c, q, rfl⟩
theorem own_sub {a b : UInt64} {x y lo hi : Int} (ha : own_Fin a x) (hb : own_Fin b y) (rl : own_Rep lo) (rh : own_Rep hi) (h1 : lo ≤ x - y) (h2 : x - y ≤ hi) : ∃ z, own_Fin (FP.dsub a b) z ∧ lo ≤ z ∧ z ≤ hi := by
  obtain ⟨s1, c1, q1, f1, e1⟩ := id rl
  obtain ⟨s2, c2, q2, f2, e2⟩ := id rh
  have ev : FP.Core.val64 (FP.dsub a b) = _ := FP.Core.val64_dsub a b
  refine own_fin_of ((FP.Core.notNaN_iff _).mp (FP.Core.dsub_out ha.1.notNaN hb.1)) rl rh ?_ ?_
  · rw [ev, ← e1]
    exact FP.Core.sum_ge FP.Core.good_b64 ha.1 (own_fin_negate hb.1) (FP.Core.val64_fits a) (FP.Core.negate_fits (FP.Core.val64_fits b)) f1 (fun q => nomatch q) (by rw [e1, ha.2, FP.Core.zval_negate, hb.2]; omega)
  · rw [ev, ← e2]
    exact FP.Core.sum_le FP.Core.good_b64 ha.1 (own_fin_negate hb.1) (FP.Core.val64_fits a) (FP.Core.negate_fits (FP.Core.val64_fits b)) f2 (fun q => nomatch q) (by rw [e2, ha.2, FP.Core.zval_negate, hb.2]; omega)
theorem own_sub_e {a b : UInt64} {x y : Int} (ha : own_Fin a x) (hb : own_Fin b y) (r : own_Rep (x - y)) : own_Fin (FP.dsub a b) (x - y) := by
  obtain ⟨z, h, h1, h2⟩ := own_sub ha hb r r (Int.le_refl _) (Int.le_refl _)
  exact h.cast (Int.le_antisymm h2 h1)
theorem own_qq : (FP.Core.b64.qmin - 2 * FP.Core.b64.qmin).toNat = (-FP.Core.b64.qmin).toNat := by rw [FP.Core.qmin_b64]; rfl
theorem own_mul_ge {a b : UInt64} {x y lo : Int} (ha : own_Fin a x) (hb : own_Fin b y) (rl : own_Rep lo) (h1 : lo * own_U ≤ x * y) : lo ≤ FP.Core.zval FP.Core.b64 (FP.Core.val64 (FP.dmul a b)) := by
  obtain ⟨s1, c1, q1, f1, e1⟩ := id rl
  obtain ⟨s, c, q, ea⟩ := id ha.1
  obtain ⟨t, d, r, eb⟩ := id hb.1
  have fa := FP.Core.val64_fits a
  have fb := FP.Core.val64_fits b
  have za := ha.2
  have zb := hb.2
  have ev : FP.Core.val64 (FP.dmul a b) = _ := FP.Core.val64_dmul a b
  rw [ea] at fa za ev
  rw [eb] at fb zb ev
  obtain ⟨p1, p2, p3⟩ := FP.Core.product_units fa fb
  rw [p1] at ev
  have hq : 2 * FP.Core.b64.qmin ≤ FP.Core.b64.qmin := by rw [FP.Core.qmin_b64]; decide
  have hs : FP.Core.signed (s != t) (FP.Core.inUnits (c * d) (q + r) (2 * FP.Core.b64.qmin)) = x * y := by
    rw [p3, FP.Core.signed_xor, ← za, ← zb]; rfl
  have hu : ((2 ^ (FP.Core.b64.qmin - 2 * FP.Core.b64.qmin).toNat : Nat) : Int) = own_U := by rw [own_qq, FP.Core.pow_qmin64]; rfl
  rw [ev, ← e1]
  exact FP.Core.zval_round_ge FP.Core.good_b64 f1 (fun q => nomatch q) hq p2 (by rw [hs, hu, e1]; exact h1)
theorem own_mul_le {a b : UInt64} {x y hi : Int} (ha : own_Fin a x) (hb : own_Fin b y) (rh : own_Rep hi) (h2 : x * y ≤ hi * own_U) : FP.Core.zval FP.Core.b64 (FP.Core.val64 (FP.dmul a b)) ≤ hi := by
  obtain ⟨s2, c2, q2, f2, e2⟩ := id rh
  obtain ⟨s, c, q, ea⟩ := id ha.1
  obtain ⟨t, d, r, eb⟩ := id hb.1
  have fa := FP.Core.val64_fits a
  have fb := FP.Core.val64_fits b
  have za := ha.2
  have zb := hb.2
  have ev : FP.Core.val64 (FP.dmul a b) = _ := FP.Core.val64_dmul a b
  rw [ea] at fa za ev
  rw [eb] at fb zb ev
  obtain ⟨p1, p2, p3⟩ := FP.Core.product_units fa fb
  rw [p1] at ev
  have hq : 2 * FP.Core.b64.qmin ≤ FP.Core.b64.qmin := by rw [FP.Core.qmin_b64]; decide
  have hs : FP.Core.signed (s != t) (FP.Core.inUnits (c * d) (q + r) (2 * FP.Core.b64.qmin)) = x * y := by
    rw [p3, FP.Core.signed_xor, ← za, ← zb]; rfl
  have hu : ((2 ^ (FP.Core.b64.qmin - 2 * FP.Core.b64.qmin).toNat : Nat) : Int) = own_U := by rw [own_qq, FP.Core.pow_qmin64]; rfl
  rw [ev, ← e2]
  exact FP.Core.zval_round_le FP.Core.good_b64 f2 (fun q => nomatch q) hq p2 (by rw [hs, hu, e2]; exact h2)
theorem own_mul_ne {a b : UInt64} {x y : Int} (ha : own_Fin a x) (hb : own_Fin b y) : FP.Core.val64 (FP.dmul a b) ≠ .nan := (FP.Core.notNaN_iff _).mp (FP.Core.dmul_out ha.1 hb.1)
theorem own_mul {a b : UInt64} {x y lo hi : Int} (ha : own_Fin a x) (hb : own_Fin b y) (rl : own_Rep lo) (rh : own_Rep hi) (h1 : lo * own_U ≤ x * y) (h2 : x * y ≤ hi * own_U) : ∃ z, own_Fin (FP.dmul a b) z ∧ lo ≤ z ∧ z ≤ hi :=
  own_fin_of (own_mul_ne ha hb) rl rh (own_mul_ge ha hb rl h1) (own_mul_le ha hb rh h2)
theorem own_mul_e {a b : UInt64} {x y z : Int} (ha : own_Fin a x) (hb : own_Fin b y) (r : own_Rep z) (e : x * y = z * own_U) : own_Fin (FP.dmul a b) z := by
  obtain ⟨w, h, h1, h2⟩ := own_mul ha hb r r (Int.le_of_eq e.symm) (Int.le_of_eq e)
  exact h.cast (Int.le_antisymm h2 h1)
theorem own_ratio_units {c d : Nat} {q r m : Int} (hq : m ≤ q) (hr : m ≤ r) (hm : m < 0) :
    FP.Core.inUnits c (q - r) (m + m - r) = FP.Core.inUnits c q m * 2 ^ (-m).toNat ∧ ∀ v : Nat, v * 2 ^ (m - (m + m - r)).toNat * d = v * FP.Core.inUnits d r m := by
  constructor
  · unfold FP.Core.inUnits
    rw [show (q - r - (m + m - r)).toNat = (q - m).toNat + (-m).toNat by omega, Nat.pow_add, Nat.mul_assoc]
  · intro v
    unfold FP.Core.inUnits
    rw [show (m - (m + m - r)).toNat = (r - m).toNat by omega, Nat.mul_assoc, Nat.mul_comm d]
theorem own_ratio_le {s s' t : Bool} {c d : Nat} {q r : Int} {V : FP.Core.Datum} (hx : FP.Core.fits FP.Core.b64 (.fin s c q)) (hy : FP.Core.fits FP.Core.b64 (.fin t d r)) (hd : 0 < d) (hV : FP.Core.fits FP.Core.b64 V) (hn : V ≠ .nan)
    (h : FP.Core.inUnits c q FP.Core.b64.qmin * FP.Core.one64 ≤ FP.Core.zmag FP.Core.b64 V * FP.Core.inUnits d r FP.Core.b64.qmin) : FP.Core.zmag FP.Core.b64 (FP.Core.roundRatio FP.Core.b64 s' c d (q - r)) ≤ FP.Core.zmag FP.Core.b64 V := by
  have hm : FP.Core.b64.qmin < 0 := by rw [FP.Core.qmin_b64]; decide
  obtain ⟨u1, u2⟩ := own_ratio_units (c := c) (d := d) hx.2.1 hy.2.1 hm
  have hqx := hx.2.1
  have hqy := hy.2.1
  refine FP.Core.zmag_roundRatio_le FP.Core.good_b64 (e0 := FP.Core.b64.qmin + FP.Core.b64.qmin - r) hd hV hn (by omega) (by omega) ?_
  rw [u1, u2, FP.Core.pow_qmin64]; exact h
theorem own_ratio_ge {s s' t : Bool} {c d : Nat} {q r : Int} {V : FP.Core.Datum} (hx : FP.Core.fits FP.Core.b64 (.fin s c q)) (hy : FP.Core.fits FP.Core.b64 (.fin t d r)) (hd : 0 < d) (hV : FP.Core.fits FP.Core.b64 V)
    (h : FP.Core.zmag FP.Core.b64 V * FP.Core.inUnits d r FP.Core.b64.qmin ≤ FP.Core.inUnits c q FP.Core.b64.qmin * FP.Core.one64) : FP.Core.zmag FP.Core.b64 V ≤ FP.Core.zmag FP.Core.b64 (FP.Core.roundRatio FP.Core.b64 s' c d (q - r)) := by
  have hm : FP.Core.b64.qmin < 0 := by rw [FP.Core.qmin_b64]; decide
  obtain ⟨u1, u2⟩ := own_ratio_units (c := c) (d := d) hx.2.1 hy.2.1 hm
  have hqx := hx.2.1
  have hqy := hy.2.1
  refine FP.Core.zmag_roundRatio_ge FP.Core.good_b64 (e0 := FP.Core.b64.qmin + FP.Core.b64.qmin - r) hd hV (by omega) (by omega) ?_
  rw [u1, u2, FP.Core.pow_qmin64]; exact h
theorem own_quot {a b : UInt64} {y : Int} {s : Bool} {c : Nat} {q : Int} (ea : FP.Core.val64 a = .fin s c q) (hb : own_Fin b y) (hy : 0 < y) :
    ∃ d r, FP.Core.val64 b = .fin false d r ∧ 0 < d ∧ y = ((FP.Core.inUnits d r FP.Core.b64.qmin : Nat) : Int) ∧ FP.Core.val64 (FP.ddiv a b) = FP.Core.roundRatio FP.Core.b64 s c d (q - r) := by
  obtain ⟨t, d, r, eb⟩ := id hb.1
  have zb := hb.2
  rw [eb, own_zval_fin] at zb
  obtain ⟨k1, k2⟩ := FP.Core.signed_pos (s := t) (m := FP.Core.inUnits d r FP.Core.b64.qmin) (by rw [zb]; exact hy)
  have ht : t = false := by
    cases t with
    | false => rfl
    | true =>
      simp only [FP.Core.signed, if_true] at k1; omega
  subst ht
  have hd : 0 < d := by
    rcases Nat.eq_zero_or_pos d with h | h
    · subst h; unfold FP.Core.inUnits at k2; omega
    · exact h
  refine ⟨d, r, eb, hd, by rw [← zb, k1], ?_⟩
  have ev : FP.Core.val64 (FP.ddiv a b) = _ := FP.Core.val64_ddiv a b
  rw [ea, eb] at ev
  rw [ev]
  show (if d = 0 then _ else FP.Core.roundRatio FP.Core.b64 (s != false) c d (q - r)) = _
  rw [if_neg (Nat.pos_iff_ne_zero.mp hd)]
  cases s <;> rfl
theorem own_div_le {a b : UInt64} {x y hi : Int} (ha : own_Fin a x) (hb : own_Fin b y) (hy : 0 < y) (rh : own_Rep hi) (h2 : x * own_U ≤ hi * y) : FP.Core.zval FP.Core.b64 (FP.Core.val64 (FP.ddiv a b)) ≤ hi := by
  obtain ⟨s2, c2, q2, f2, e2⟩ := id rh
  obtain ⟨s, c, q, ea⟩ := id ha.1
  obtain ⟨d, r, eb, hd, ey, ev⟩ := own_quot ea hb hy
  have fa := FP.Core.val64_fits a
  have fb := FP.Core.val64_fits b
  have za := ha.2
  rw [ea] at fa za
  rw [eb] at fb
  have l1 := own_ratio_le (s' := s) fa fb hd f2 (fun q => nomatch q)
  have l2 := own_ratio_ge (s' := s) fa fb hd f2
  have hY : 0 < FP.Core.inUnits d r FP.Core.b64.qmin := by omega
  rw [ev, ← e2]
  unfold FP.Core.zval
  rw [FP.Core.sgn_roundRatio]
  rw [own_zval_fin] at za
  have e2' : FP.Core.signed s2 (FP.Core.zmag FP.Core.b64 (.fin s2 c2 q2)) = hi := e2
  show FP.Core.signed s _ ≤ FP.Core.signed s2 _
  rw [← e2', ← za, ey] at h2
  unfold own_U at h2
  rw [← FP.Core.signed_mul, ← FP.Core.signed_mul] at h2
  generalize FP.Core.zmag FP.Core.b64 (FP.Core.roundRatio FP.Core.b64 s c d (q - r)) = zR at *
  generalize FP.Core.zmag FP.Core.b64 (.fin s2 c2 q2) = v at *
  have hz : v * FP.Core.inUnits d r FP.Core.b64.qmin = 0 → v = 0 := fun h => (Nat.mul_eq_zero.mp h).resolve_right (by omega)
  generalize v * FP.Core.inUnits d r FP.Core.b64.qmin = B at *
  generalize FP.Core.inUnits c q FP.Core.b64.qmin * FP.Core.one64 = A at *
  cases s <;> cases s2 <;> simp only [FP.Core.signed, if_true, Bool.false_eq_true, if_false] at h2 ⊢
  · have := l1 (by omega); omega
  · have := l1 (by omega); have := hz (by omega); omega
  · omega
  · have := l2 (by omega); omega
theorem own_neg {a : UInt64} {x : Int} (ha : own_Fin a x) : own_Fin (FP.dneg a) (-x) := by
  have e : FP.Core.val64 (FP.dneg a) = _ := FP.val64_dneg a
  refine ⟨?_, ?_⟩
  · show ∃ s c q, _ = _
    rw [e]; exact own_fin_negate ha.1
  · rw [e, FP.Core.zval_negate, ha.2]
theorem own_div_ge {a b : UInt64} {x y lo : Int} (ha : own_Fin a x) (hb : own_Fin b y) (hy : 0 < y) (rl : own_Rep lo) (h1 : lo * y ≤ x * own_U) : lo ≤ FP.Core.zval FP.Core.b64 (FP.Core.val64 (FP.ddiv a b)) := by
  obtain ⟨s2, c2, q2, f2, e2⟩ := id rl
  obtain ⟨s, c, q, ea⟩ := id ha.1
  obtain ⟨d, r, eb, hd, ey, ev⟩ := own_quot ea hb hy
  have fa := FP.Core.val64_fits a
  have fb := FP.Core.val64_fits b
  have za := ha.2
  rw [ea] at fa za
  rw [eb] at fb
  have l1 := own_ratio_le (s' := s) fa fb hd f2 (fun q => nomatch q)
  have l2 := own_ratio_ge (s' := s) fa fb hd f2
  have hY : 0 < FP.Core.inUnits d r FP.Core.b64.qmin := by omega
  rw [ev, ← e2]
  unfold FP.Core.zval
  rw [FP.Core.sgn_roundRatio]
  rw [own_zval_fin] at za
  have e2' : FP.Core.signed s2 (FP.Core.zmag FP.Core.b64 (.fin s2 c2 q2)) = lo := e2
  show FP.Core.signed s2 _ ≤ FP.Core.signed s _
  rw [← e2', ← za, ey] at h1
  unfold own_U at h1
  rw [← FP.Core.signed_mul, ← FP.Core.signed_mul] at h1
  generalize FP.Core.zmag FP.Core.b64 (FP.Core.roundRatio FP.Core.b64 s c d (q - r)) = zR at *
  generalize FP.Core.zmag FP.Core.b64 (.fin s2 c2 q2) = v at *
  have hz : v * FP.Core.inUnits d r FP.Core.b64.qmin = 0 → v = 0 := fun h => (Nat.mul_eq_zero.mp h).resolve_right (by omega)
  generalize v * FP.Core.inUnits d r FP.Core.b64.qmin = B at *
  generalize FP.Core.inUnits c q FP.Core.b64.qmin * FP.Core.one64 = A at *
  cases s <;> cases s2 <;> simp only [FP.Core.signed, if_true, Bool.false_eq_true, if_false] at h1 ⊢
  · have := l2 (by omega); omega
  · omega
  · have := l1 (by omega); have := hz (by omega); omega
  · have := l1 (by omega); omega
theorem own_div {a b : UInt64} {x y lo hi : Int} (ha : own_Fin a x) (hb : own_Fin b y) (hy : 0 < y) (rl : own_Rep lo) (rh : own_Rep hi) (h1 : lo * y ≤ x * own_U) (h2 : x * own_U ≤ hi * y) : ∃ z, own_Fin (FP.ddiv a b) z ∧ lo ≤ z ∧ z ≤ hi := by
  refine own_fin_of ?_ rl rh (own_div_ge ha hb hy rl h1) (own_div_le ha hb hy rh h2)
  obtain ⟨s, c, q, ea⟩ := id ha.1
  obtain ⟨d, r, eb, hd, ey, ev⟩ := own_quot ea hb hy
  rw [ev]; exact FP.Core.roundRatio_ne_nan _ _ _ _ _
theorem own_div_e {a b : UInt64} {x y z : Int} (ha : own_Fin a x) (hb : own_Fin b y) (hy : 0 < y) (r : own_Rep z) (e : x * own_U = z * y) : own_Fin (FP.ddiv a b) z := by
  obtain ⟨w, h, h1, h2⟩ := own_div ha hb hy r r (Int.le_of_eq e.symm) (Int.le_of_eq e)
  exact h.cast (Int.le_antisymm h2 h1)
/-- quotients of one value are one double -/
theorem own_div_same {a b a' b' : UInt64} {x y x' y' : Int} (ha : own_Fin a x) (hb : own_Fin b y) (ha' : own_Fin a' x') (hb' : own_Fin b' y') (hx : 0 < x) (hx' : 0 < x') (hy : 0 < y) (hy' : 0 < y') (e : x * y' = x' * y) : FP.Core.val64 (FP.ddiv a b) = FP.Core.val64 (FP.ddiv a' b') := by
  obtain ⟨s, c, q, ea⟩ := id ha.1
  obtain ⟨d, r, eb, hd, ey, ev⟩ := own_quot ea hb hy
  obtain ⟨s', c', q', ea'⟩ := id ha'.1
  obtain ⟨d', r', eb', hd', ey', ev'⟩ := own_quot ea' hb' hy'
  have za := ha.2
  have za' := ha'.2
  have fa := FP.Core.val64_fits a
  have fb := FP.Core.val64_fits b
  have fa' := FP.Core.val64_fits a'
  have fb' := FP.Core.val64_fits b'
  rw [ea] at za fa
  rw [ea'] at za' fa'
  rw [eb] at fb
  rw [eb'] at fb'
  rw [own_zval_fin] at za za'
  obtain ⟨k1, k2⟩ := FP.Core.signed_pos (s := s) (m := FP.Core.inUnits c q FP.Core.b64.qmin) (by rw [za]; exact hx)
  obtain ⟨k1', k2'⟩ := FP.Core.signed_pos (s := s') (m := FP.Core.inUnits c' q' FP.Core.b64.qmin) (by rw [za']; exact hx')
  have hs : s = false := by
    cases s with
    | false => rfl
    | true => simp only [FP.Core.signed, if_true] at k1; omega
  have hs' : s' = false := by
    cases s' with
    | false => rfl
    | true => simp only [FP.Core.signed, if_true] at k1'; omega
  subst hs hs'
  rw [ev, ev']
  have E : FP.Core.inUnits c q FP.Core.b64.qmin * FP.Core.inUnits d' r' FP.Core.b64.qmin = FP.Core.inUnits c' q' FP.Core.b64.qmin * FP.Core.inUnits d r FP.Core.b64.qmin := by
    have h : ((FP.Core.inUnits c q FP.Core.b64.qmin * FP.Core.inUnits d' r' FP.Core.b64.qmin : Nat) : Int) = ((FP.Core.inUnits c' q' FP.Core.b64.qmin * FP.Core.inUnits d r FP.Core.b64.qmin : Nat) : Int) := by
      rw [Int.natCast_mul, Int.natCast_mul, ← k1, ← k1', za, za', ← ey, ← ey']; exact e
    exact Int.ofNat_inj.mp h
  have g1 := fa.2.1
  have g2 := fb.2.1
  have g3 := fa'.2.1
  have g4 := fb'.2.1
  generalize FP.Core.b64.qmin = m at *
  refine FP.Core.roundRatio_congr hd hd' ?_
  unfold FP.Core.inUnits at E
  generalize ha1 : (q - m).toNat = A1 at *
  generalize ha2 : (r - m).toNat = A2 at *
  generalize ha3 : (q' - m).toNat = A3 at *
  generalize ha4 : (r' - m).toNat = A4 at *
  have E' : c * d' * 2 ^ (A1 + A4) = c' * d * 2 ^ (A3 + A2) := by
    rw [Nat.pow_add, Nat.pow_add]
    calc c * d' * (2 ^ A1 * 2 ^ A4) = c * 2 ^ A1 * (d' * 2 ^ A4) := by simp only [Nat.mul_assoc, Nat.mul_left_comm, Nat.mul_comm]
      _ = c' * 2 ^ A3 * (d * 2 ^ A2) := E
      _ = c' * d * (2 ^ A3 * 2 ^ A2) := by simp only [Nat.mul_assoc, Nat.mul_left_comm, Nat.mul_comm]
  rcases Nat.le_total (A3 + A2) (A1 + A4) with h | h
  · rw [show (q - r - (q' - r')).toNat = (A1 + A4) - (A3 + A2) by omega, show (q' - r' - (q - r)).toNat = 0 by omega]
    have : 2 ^ (A1 + A4) = 2 ^ ((A1 + A4) - (A3 + A2)) * 2 ^ (A3 + A2) := by rw [← Nat.pow_add]; congr 1; omega
    rw [this, ← Nat.mul_assoc] at E'
    rw [Nat.pow_zero, Nat.mul_one]
    exact Nat.eq_of_mul_eq_mul_right (Nat.two_pow_pos _) E'
  · rw [show (q - r - (q' - r')).toNat = 0 by omega, show (q' - r' - (q - r)).toNat = (A3 + A2) - (A1 + A4) by omega]
    have : 2 ^ (A3 + A2) = 2 ^ ((A3 + A2) - (A1 + A4)) * 2 ^ (A1 + A4) := by rw [← Nat.pow_add]; congr 1; omega
    rw [this, ← Nat.mul_assoc] at E'
    rw [Nat.pow_zero, Nat.mul_one]
    exact Nat.eq_of_mul_eq_mul_right (Nat.two_pow_pos _) E'
theorem own_cmp {a b : UInt64} {x y : Int} (ha : own_Val a x) (hb : own_Val b y) (o : CmpOp) : cmpValue (FP.dcmp a b) o = if x < y then -1 else if x = y then 0 else 1 := by
  rw [show FP.dcmp a b = _ from FP.Core.dcmp_zval ha.1 hb.1, ha.2, hb.2, FP.Core.compare_ite]
  by_cases h1 : x < y
  · rw [if_pos h1, if_pos h1]; rfl
  · rw [if_neg h1, if_neg h1]
    by_cases h2 : x = y
    · rw [if_pos h2, if_pos h2]; rfl
    · rw [if_neg h2, if_neg h2]; rfl
theorem own_if {a b : UInt64} {x y : Int} (ha : own_Val a x) (hb : own_Val b y) (o : CmpOp) :
    (ifCond.holds .eq (cmpValue (FP.dcmp a b) o) = decide (x = y)) ∧ (ifCond.holds .ne (cmpValue (FP.dcmp a b) o) = decide (x ≠ y)) ∧ (ifCond.holds .lt (cmpValue (FP.dcmp a b) o) = decide (x < y)) ∧
    (ifCond.holds .ge (cmpValue (FP.dcmp a b) o) = decide (y ≤ x)) ∧ (ifCond.holds .gt (cmpValue (FP.dcmp a b) o) = decide (y < x)) ∧ (ifCond.holds .le (cmpValue (FP.dcmp a b) o) = decide (x ≤ y)) := by
  rw [own_cmp ha hb o]
  by_cases h1 : x < y
  · rw [if_pos h1]
    rw [decide_eq_false (show ¬ x = y by omega), decide_eq_true (show x ≠ y by omega), decide_eq_true h1, decide_eq_false (show ¬ y ≤ x by omega), decide_eq_false (show ¬ y < x by omega), decide_eq_true (show x ≤ y by omega)]
    decide
  · rw [if_neg h1]
    by_cases h2 : x = y
    · rw [if_pos h2]
      rw [decide_eq_true h2, decide_eq_false (show ¬ x ≠ y by omega), decide_eq_false h1, decide_eq_true (show y ≤ x by omega), decide_eq_false (show ¬ y < x by omega), decide_eq_true (show x ≤ y by omega)]
      decide
    · rw [if_neg h2]
      rw [decide_eq_false h2, decide_eq_true (show x ≠ y by omega), decide_eq_false h1, decide_eq_true (show y ≤ x by omega), decide_eq_true (show y < x by omega), decide_eq_false (show ¬ x ≤ y by omega)]
      decide
theorem own_of_dint {i : Int} {a : UInt64} (h : FP.Core.DInt i a) : own_Fin a (i * own_U) := by
  refine ⟨?_, FP.Core.DInt_zval h⟩
  have h' : FP.Core.Whole i (FP.Core.val64 a) := h
  cases hv : FP.Core.val64 a with
  | nan => rw [hv] at h'; exact h'.elim
  | inf s => rw [hv] at h'; exact h'.elim
  | fin s c q => exact ⟨s, c, q, hv⟩
theorem own_i2d (n : Int32) : own_Fin (FP.i2d n) (n.toInt * own_U) := own_of_dint (FP.Core.i2d_int n)
theorem own_l2d {n : Int64} (h : n.toInt.natAbs ≤ 9007199254740992) : own_Fin (FP.l2d n) (n.toInt * own_U) := own_of_dint (FP.Core.l2d_int h)
theorem own_signed_self (n : Int) : FP.Core.signed (decide (n < 0)) n.natAbs = n := by
  by_cases h : n < 0
  · rw [decide_eq_true h]; simp only [FP.Core.signed, if_true]; omega
  · rw [decide_eq_false h]; simp only [FP.Core.signed, Bool.false_eq_true, if_false]; omega
theorem own_rep (n : Int) (k : Nat) {P : Int} (hP : ((2 ^ k : Nat) : Int) = P) (hn : n.natAbs < 9007199254740992) (hk : k ≤ 2045) : own_Rep (n * P) := by
  have hmax : FP.Core.b64.qmax = 971 := by decide
  obtain ⟨c', q', h1, h2⟩ := FP.Core.round_exact FP.Core.good_b64 (decide (n < 0)) (c := n.natAbs) (q := (k : Int) - 1074) (show n.natAbs < 2 ^ 53 by omega) (by rw [FP.Core.qmin_b64]; omega) (by rw [hmax]; omega)
  refine ⟨decide (n < 0), c', q', ?_, ?_⟩
  · rw [← h1]; exact FP.Core.round_fits FP.Core.good_b64 _
  · rw [own_zval_fin, h2]
    unfold FP.Core.inUnits
    rw [show ((k : Int) - 1074 - FP.Core.b64.qmin).toNat = k by rw [FP.Core.qmin_b64]; omega, FP.Core.signed_mul, hP, own_signed_self]
theorem own_rep_U (n : Int) (hn : n.natAbs < 9007199254740992) : own_Rep (n * own_U) := own_rep n 1074 rfl hn (by decide)
/-! own text: ints, longs and branches in plain integers -/
theorem own_h_eq (x : Int32) : (ifCond.holds .eq x = true) ↔ x.toInt = 0 := by
  simp only [ifCond.holds, beq_iff_eq, ← Int32.toInt_inj, Int32.toInt_zero]
theorem own_h_ne (x : Int32) : (ifCond.holds .ne x = true) ↔ x.toInt ≠ 0 := by
  simp only [ifCond.holds, bne_iff_ne, ne_eq, ← Int32.toInt_inj, Int32.toInt_zero]
theorem own_h_lt (x : Int32) : (ifCond.holds .lt x = true) ↔ x.toInt < 0 := by
  simp only [ifCond.holds, decide_eq_true_eq, Int32.lt_iff_toInt_lt, Int32.toInt_zero]
theorem own_h_ge (x : Int32) : (ifCond.holds .ge x = true) ↔ 0 ≤ x.toInt := by
  simp only [ifCond.holds, decide_eq_true_eq, ge_iff_le, Int32.le_iff_toInt_le, Int32.toInt_zero]
theorem own_h_gt (x : Int32) : (ifCond.holds .gt x = true) ↔ 0 < x.toInt := by
  simp only [ifCond.holds, decide_eq_true_eq, gt_iff_lt, Int32.lt_iff_toInt_lt, Int32.toInt_zero]
theorem own_h_le (x : Int32) : (ifCond.holds .le x = true) ↔ x.toInt ≤ 0 := by
  simp only [ifCond.holds, decide_eq_true_eq, Int32.le_iff_toInt_le, Int32.toInt_zero]
theorem own_c_eq (x y : Int32) : (if_icmp.holds .eq x y = true) ↔ x.toInt = y.toInt := by
  simp only [if_icmp.holds, beq_iff_eq, ← Int32.toInt_inj]
theorem own_c_ne (x y : Int32) : (if_icmp.holds .ne x y = true) ↔ x.toInt ≠ y.toInt := by
  simp only [if_icmp.holds, bne_iff_ne, ne_eq, ← Int32.toInt_inj]
theorem own_c_lt (x y : Int32) : (if_icmp.holds .lt x y = true) ↔ x.toInt < y.toInt := by
  simp only [if_icmp.holds, decide_eq_true_eq, Int32.lt_iff_toInt_lt]
theorem own_c_ge (x y : Int32) : (if_icmp.holds .ge x y = true) ↔ y.toInt ≤ x.toInt := by
  simp only [if_icmp.holds, decide_eq_true_eq, ge_iff_le, Int32.le_iff_toInt_le]
theorem own_c_gt (x y : Int32) : (if_icmp.holds .gt x y = true) ↔ y.toInt < x.toInt := by
  simp only [if_icmp.holds, decide_eq_true_eq, gt_iff_lt, Int32.lt_iff_toInt_lt]
theorem own_c_le (x y : Int32) : (if_icmp.holds .le x y = true) ↔ x.toInt ≤ y.toInt := by
  simp only [if_icmp.holds, decide_eq_true_eq, Int32.le_iff_toInt_le]
theorem own_L (x y : Int64) : (XT.cmpL x y).toInt = if y.toInt < x.toInt then 1 else if x.toInt = y.toInt then 0 else -1 := by
  unfold XT.cmpL
  simp only [Int64.lt_iff_toInt_lt, ← Int64.toInt_inj]
  split
  · rfl
  · split <;> rfl
theorem own_f_of {b : Bool} {p : Prop} (h : (b = true) ↔ p) (hp : ¬ p) : b = false := Bool.eq_false_iff.mpr fun q => hp (h.mp q)
theorem own_irem (x y : Int32) : (x - x / y * y).toInt = x.toInt.tmod y.toInt := by
  have a := (x % y).toInt_lt; have b := (x % y).le_toInt
  rw [Int32.toInt_mod] at a b
  rw [Int32.toInt_sub, Int32.toInt_mul, Int32.toInt_div, Int.bmod_mul_bmod, Int.sub_bmod_bmod, Int.mul_comm, ← Int.tmod_def]
  exact Jvm.Kit.bmod32 b a
theorem own_irem_nn {x y : Int32} (hx : 0 ≤ x.toInt) : (x - x / y * y).toInt = x.toInt % y.toInt := by rw [own_irem, Int.tmod_eq_emod_of_nonneg hx]
theorem own_ne0 {y : Int32} (h : y.toInt ≠ 0) : y ≠ 0 := fun q => h (by rw [q]; rfl)
theorem own_ne0L {y : Int64} (h : y.toInt ≠ 0) : y ≠ 0 := fun q => h (by rw [q]; rfl)
theorem own_mask31 (x : Int32) : 0 ≤ (x &&& 2147483647).toInt ∧ (x &&& 2147483647).toInt < 2147483648 := by
  rw [Jvm.Kit.i32_mask x 2147483647 (k := 31) (by decide) (by decide)]
  omega


def rt_dist (d4 : UInt64) (d7 : UInt64) (d8 : UInt64) (d9 : UInt64) : UInt64 := (FP.dsub d4 d8)
def lw_s (p1 : Int32) (p2 : Int32) (p3 : Int32) (p4 : Int32) : Int64 := (Int32.toInt64 ((p1 <<< ((21 : Int32) &&& 31)) >>> ((21 : Int32) &&& 31)))
def lw_a (p1 : Int32) (p2 : Int32) (p3 : Int32) (p4 : Int32) : Int64 := (Int32.toInt64 ((p2 <<< ((21 : Int32) &&& 31)) >>> ((21 : Int32) &&& 31)))
def lw_c (p1 : Int32) (p2 : Int32) (p3 : Int32) (p4 : Int32) : Int64 := (Int32.toInt64 ((p3 <<< ((21 : Int32) &&& 31)) >>> ((21 : Int32) &&& 31)))
def lw_x (p1 : Int32) (p2 : Int32) (p3 : Int32) (p4 : Int32) : Int64 := (Int32.toInt64 ((p4 <<< ((21 : Int32) &&& 31)) >>> ((21 : Int32) &&& 31)))
def lw_rise (p1 : Int32) (p2 : Int32) (p3 : Int32) (p4 : Int32) : UInt64 := (FP.dmul (FP.dadd (FP.l2d (lw_s p1 p2 p3 p4)) (FP.dmul (FP.ddiv (FP.l2d (lw_c p1 p2 p3 p4)) (4611686018427387904 : UInt64)) (rt_dist (FP.ddiv (FP.l2d (lw_x p1 p2 p3 p4)) (4616189618054758400 : UInt64)) (FP.l2d (lw_s p1 p2 p3 p4)) (FP.ddiv (FP.l2d (lw_a p1 p2 p3 p4)) (4616189618054758400 : UInt64)) (FP.l2d (lw_c p1 p2 p3 p4))))) (rt_dist (FP.ddiv (FP.l2d (lw_x p1 p2 p3 p4)) (4616189618054758400 : UInt64)) (FP.l2d (lw_s p1 p2 p3 p4)) (FP.ddiv (FP.l2d (lw_a p1 p2 p3 p4)) (4616189618054758400 : UInt64)) (FP.l2d (lw_c p1 p2 p3 p4))))
def lw_d (p1 : Int32) (p2 : Int32) (p3 : Int32) (p4 : Int32) : Int64 := ((lw_x p1 p2 p3 p4) - (lw_a p1 p2 p3 p4))
def lw_ref (p1 : Int32) (p2 : Int32) (p3 : Int32) (p4 : Int32) : Int64 := ((((8 : Int64) * (lw_s p1 p2 p3 p4)) * (lw_d p1 p2 p3 p4)) + (((lw_c p1 p2 p3 p4) * (lw_d p1 p2 p3 p4)) * (lw_d p1 p2 p3 p4)))
theorem own_four : own_Fin (4616189618054758400 : UInt64) (809609013229242473409981386875669228198226599056568473427605432109721358271981387567841534805748497980748311457267247645559234949543173907468053599762954039686069697106265445457867630968372865364959070713890980274248029933698770794472413422596638225363240226049435078209333658460922010128745310034584025053230830964373979136) := ⟨(FP.Core.fin_bits _).mpr (by decide), by decide +kernel⟩
theorem own_two : own_Fin (4611686018427387904 : UInt64) (404804506614621236704990693437834614099113299528284236713802716054860679135990693783920767402874248990374155728633623822779617474771586953734026799881477019843034848553132722728933815484186432682479535356945490137124014966849385397236206711298319112681620113024717539104666829230461005064372655017292012526615415482186989568) := ⟨(FP.Core.fin_bits _).mpr (by decide), by decide +kernel⟩
theorem own_t32 : own_Fin (4629700416936869888 : UInt64) (6476872105833939787279851095005353825585812792452547787420843456877770866175851100542732278445987983845986491658137981164473879596345391259744428798103632317488557576850123563662941047746982922919672565711127842193984239469590166355779307380773105802905921808395480625674669267687376081029962480276672200425846647714991833088) := ⟨(FP.Core.fin_bits _).mpr (by decide), by decide +kernel⟩

theorem own_11 (i : Int32) : -1024 ≤ (Int32.toInt64 ((i <<< ((21 : Int32) &&& 31)) >>> ((21 : Int32) &&& 31))).toInt ∧ (Int32.toInt64 ((i <<< ((21 : Int32) &&& 31)) >>> ((21 : Int32) &&& 31))).toInt ≤ 1023 := by
  rw [Jvm.Kit.i64_of_i32, Jvm.Kit.i32_shr _ _ (k := 21) (by decide)]
  have h1 := (i <<< ((21 : Int32) &&& 31)).toInt_lt
  have h2 := (i <<< ((21 : Int32) &&& 31)).le_toInt
  omega
theorem own_s (p1 p2 p3 p4 : Int32) : -1024 ≤ (lw_s p1 p2 p3 p4).toInt ∧ (lw_s p1 p2 p3 p4).toInt ≤ 1023 := own_11 p1
theorem own_a (p1 p2 p3 p4 : Int32) : -1024 ≤ (lw_a p1 p2 p3 p4).toInt ∧ (lw_a p1 p2 p3 p4).toInt ≤ 1023 := own_11 p2
theorem own_c (p1 p2 p3 p4 : Int32) : -1024 ≤ (lw_c p1 p2 p3 p4).toInt ∧ (lw_c p1 p2 p3 p4).toInt ≤ 1023 := own_11 p3
theorem own_x (p1 p2 p3 p4 : Int32) : -1024 ≤ (lw_x p1 p2 p3 p4).toInt ∧ (lw_x p1 p2 p3 p4).toInt ≤ 1023 := own_11 p4
theorem own_quarter {v : Int64} (h : -1024 ≤ v.toInt ∧ v.toInt ≤ 1023) : own_Fin (FP.ddiv (FP.l2d v) (4616189618054758400 : UInt64)) (v.toInt * 50600563326827654588123836679729326762389162441035529589225339506857584891998836722990095925359281123796769466079202977847452184346448369216753349985184627480379356069141590341116726935523304085309941919618186267140501870856173174654525838912289889085202514128089692388083353653807625633046581877161501565826926935273373696) := by
  refine own_div_e (own_l2d (by omega)) own_four (by omega) (own_rep _ 1072 (by decide +kernel) (by omega) (by decide)) ?_
  rw [own_U_lit]; omega
/-- a product of two whole multiples of powers of two -/
theorem own_prod {u v : UInt64} {m n : Int} {P Q L : Int} (hu : own_Fin u (m * P)) (hv : own_Fin v (n * Q)) (hr : own_Rep (m * n * L)) (e : P * Q = L * own_U) : own_Fin (FP.dmul u v) (m * n * L) := by
  refine own_mul_e hu hv hr ?_
  rw [show m * P * (n * Q) = m * n * (P * Q) by simp only [Int.mul_assoc, Int.mul_left_comm, Int.mul_comm], e]
  simp only [Int.mul_assoc, Int.mul_left_comm, Int.mul_comm]
theorem own_bound {m n M N : Int} (hm : -M ≤ m ∧ m ≤ M) (hn : -N ≤ n ∧ n ≤ N) (hM : 0 ≤ M) (hN : 0 ≤ N) : -(M * N) ≤ m * n ∧ m * n ≤ M * N := by
  have h : (m * n).natAbs ≤ M.toNat * N.toNat := by rw [Int.natAbs_mul]; exact Nat.mul_le_mul (by omega) (by omega)
  have e : ((M.toNat * N.toNat : Nat) : Int) = M * N := by rw [Int.natCast_mul, Int.toNat_of_nonneg hM, Int.toNat_of_nonneg hN]
  omega
theorem own_all (p1 p2 p3 p4 : Int32) : own_Fin (FP.dsub (FP.ddiv (FP.l2d (lw_x p1 p2 p3 p4)) (4616189618054758400 : UInt64)) (FP.ddiv (FP.l2d (lw_a p1 p2 p3 p4)) (4616189618054758400 : UInt64))) (((lw_x p1 p2 p3 p4).toInt - (lw_a p1 p2 p3 p4).toInt) * 50600563326827654588123836679729326762389162441035529589225339506857584891998836722990095925359281123796769466079202977847452184346448369216753349985184627480379356069141590341116726935523304085309941919618186267140501870856173174654525838912289889085202514128089692388083353653807625633046581877161501565826926935273373696) ∧ own_Fin (FP.ddiv (FP.l2d (lw_c p1 p2 p3 p4)) (4611686018427387904 : UInt64)) ((lw_c p1 p2 p3 p4).toInt * 101201126653655309176247673359458653524778324882071059178450679013715169783997673445980191850718562247593538932158405955694904368692896738433506699970369254960758712138283180682233453871046608170619883839236372534281003741712346349309051677824579778170405028256179384776166707307615251266093163754323003131653853870546747392) ∧ own_Fin (FP.dmul (FP.ddiv (FP.l2d (lw_c p1 p2 p3 p4)) (4611686018427387904 : UInt64)) (FP.dsub (FP.ddiv (FP.l2d (lw_x p1 p2 p3 p4)) (4616189618054758400 : UInt64)) (FP.ddiv (FP.l2d (lw_a p1 p2 p3 p4)) (4616189618054758400 : UInt64)))) ((lw_c p1 p2 p3 p4).toInt * ((lw_x p1 p2 p3 p4).toInt - (lw_a p1 p2 p3 p4).toInt) * 25300281663413827294061918339864663381194581220517764794612669753428792445999418361495047962679640561898384733039601488923726092173224184608376674992592313740189678034570795170558363467761652042654970959809093133570250935428086587327262919456144944542601257064044846194041676826903812816523290938580750782913463467636686848) ∧
    own_Fin (FP.dadd (FP.l2d (lw_s p1 p2 p3 p4)) (FP.dmul (FP.ddiv (FP.l2d (lw_c p1 p2 p3 p4)) (4611686018427387904 : UInt64)) (FP.dsub (FP.ddiv (FP.l2d (lw_x p1 p2 p3 p4)) (4616189618054758400 : UInt64)) (FP.ddiv (FP.l2d (lw_a p1 p2 p3 p4)) (4616189618054758400 : UInt64))))) ((8 * (lw_s p1 p2 p3 p4).toInt + (lw_c p1 p2 p3 p4).toInt * ((lw_x p1 p2 p3 p4).toInt - (lw_a p1 p2 p3 p4).toInt)) * 25300281663413827294061918339864663381194581220517764794612669753428792445999418361495047962679640561898384733039601488923726092173224184608376674992592313740189678034570795170558363467761652042654970959809093133570250935428086587327262919456144944542601257064044846194041676826903812816523290938580750782913463467636686848) ∧
    own_Fin (FP.dmul (FP.dadd (FP.l2d (lw_s p1 p2 p3 p4)) (FP.dmul (FP.ddiv (FP.l2d (lw_c p1 p2 p3 p4)) (4611686018427387904 : UInt64)) (FP.dsub (FP.ddiv (FP.l2d (lw_x p1 p2 p3 p4)) (4616189618054758400 : UInt64)) (FP.ddiv (FP.l2d (lw_a p1 p2 p3 p4)) (4616189618054758400 : UInt64))))) (FP.dsub (FP.ddiv (FP.l2d (lw_x p1 p2 p3 p4)) (4616189618054758400 : UInt64)) (FP.ddiv (FP.l2d (lw_a p1 p2 p3 p4)) (4616189618054758400 : UInt64)))) ((8 * (lw_s p1 p2 p3 p4).toInt + (lw_c p1 p2 p3 p4).toInt * ((lw_x p1 p2 p3 p4).toInt - (lw_a p1 p2 p3 p4).toInt)) * ((lw_x p1 p2 p3 p4).toInt - (lw_a p1 p2 p3 p4).toInt) * 6325070415853456823515479584966165845298645305129441198653167438357198111499854590373761990669910140474596183259900372230931523043306046152094168748148078435047419508642698792639590866940413010663742739952273283392562733857021646831815729864036236135650314266011211548510419206725953204130822734645187695728365866909171712) := by
  have hs := own_s p1 p2 p3 p4
  have ha := own_a p1 p2 p3 p4
  have hc := own_c p1 p2 p3 p4
  have hx := own_x p1 p2 p3 p4
  have h1 : own_Fin (FP.dsub (FP.ddiv (FP.l2d (lw_x p1 p2 p3 p4)) (4616189618054758400 : UInt64)) (FP.ddiv (FP.l2d (lw_a p1 p2 p3 p4)) (4616189618054758400 : UInt64))) (((lw_x p1 p2 p3 p4).toInt - (lw_a p1 p2 p3 p4).toInt) * 50600563326827654588123836679729326762389162441035529589225339506857584891998836722990095925359281123796769466079202977847452184346448369216753349985184627480379356069141590341116726935523304085309941919618186267140501870856173174654525838912289889085202514128089692388083353653807625633046581877161501565826926935273373696) := by
    have e : (lw_x p1 p2 p3 p4).toInt * 50600563326827654588123836679729326762389162441035529589225339506857584891998836722990095925359281123796769466079202977847452184346448369216753349985184627480379356069141590341116726935523304085309941919618186267140501870856173174654525838912289889085202514128089692388083353653807625633046581877161501565826926935273373696 - (lw_a p1 p2 p3 p4).toInt * 50600563326827654588123836679729326762389162441035529589225339506857584891998836722990095925359281123796769466079202977847452184346448369216753349985184627480379356069141590341116726935523304085309941919618186267140501870856173174654525838912289889085202514128089692388083353653807625633046581877161501565826926935273373696 = ((lw_x p1 p2 p3 p4).toInt - (lw_a p1 p2 p3 p4).toInt) * 50600563326827654588123836679729326762389162441035529589225339506857584891998836722990095925359281123796769466079202977847452184346448369216753349985184627480379356069141590341116726935523304085309941919618186267140501870856173174654525838912289889085202514128089692388083353653807625633046581877161501565826926935273373696 := (Int.sub_mul _ _ _).symm
    exact (own_sub_e (own_quarter hx) (own_quarter ha) (by rw [e]; exact own_rep _ 1072 (by decide +kernel) (by omega) (by decide))).cast e
  have h2 : own_Fin (FP.ddiv (FP.l2d (lw_c p1 p2 p3 p4)) (4611686018427387904 : UInt64)) ((lw_c p1 p2 p3 p4).toInt * 101201126653655309176247673359458653524778324882071059178450679013715169783997673445980191850718562247593538932158405955694904368692896738433506699970369254960758712138283180682233453871046608170619883839236372534281003741712346349309051677824579778170405028256179384776166707307615251266093163754323003131653853870546747392) := by
    refine own_div_e (own_l2d (by omega)) own_two (by omega) (own_rep _ 1073 (by decide +kernel) (by omega) (by decide)) ?_
    rw [own_U_lit]; omega
  have b1 := own_bound (m := (lw_c p1 p2 p3 p4).toInt) (n := (lw_x p1 p2 p3 p4).toInt - (lw_a p1 p2 p3 p4).toInt) (M := 1024) (N := 2048) (by omega) (by omega) (by decide) (by decide)
  have h3 := own_prod h2 h1 (L := 25300281663413827294061918339864663381194581220517764794612669753428792445999418361495047962679640561898384733039601488923726092173224184608376674992592313740189678034570795170558363467761652042654970959809093133570250935428086587327262919456144944542601257064044846194041676826903812816523290938580750782913463467636686848) (own_rep _ 1071 (by decide +kernel) (by omega) (by decide)) (by rw [own_U_lit]; decide +kernel)
  have h4 : own_Fin (FP.dadd (FP.l2d (lw_s p1 p2 p3 p4)) (FP.dmul (FP.ddiv (FP.l2d (lw_c p1 p2 p3 p4)) (4611686018427387904 : UInt64)) (FP.dsub (FP.ddiv (FP.l2d (lw_x p1 p2 p3 p4)) (4616189618054758400 : UInt64)) (FP.ddiv (FP.l2d (lw_a p1 p2 p3 p4)) (4616189618054758400 : UInt64))))) ((8 * (lw_s p1 p2 p3 p4).toInt + (lw_c p1 p2 p3 p4).toInt * ((lw_x p1 p2 p3 p4).toInt - (lw_a p1 p2 p3 p4).toInt)) * 25300281663413827294061918339864663381194581220517764794612669753428792445999418361495047962679640561898384733039601488923726092173224184608376674992592313740189678034570795170558363467761652042654970959809093133570250935428086587327262919456144944542601257064044846194041676826903812816523290938580750782913463467636686848) := by
    have e : (lw_s p1 p2 p3 p4).toInt * own_U + (lw_c p1 p2 p3 p4).toInt * ((lw_x p1 p2 p3 p4).toInt - (lw_a p1 p2 p3 p4).toInt) * 25300281663413827294061918339864663381194581220517764794612669753428792445999418361495047962679640561898384733039601488923726092173224184608376674992592313740189678034570795170558363467761652042654970959809093133570250935428086587327262919456144944542601257064044846194041676826903812816523290938580750782913463467636686848 = (8 * (lw_s p1 p2 p3 p4).toInt + (lw_c p1 p2 p3 p4).toInt * ((lw_x p1 p2 p3 p4).toInt - (lw_a p1 p2 p3 p4).toInt)) * 25300281663413827294061918339864663381194581220517764794612669753428792445999418361495047962679640561898384733039601488923726092173224184608376674992592313740189678034570795170558363467761652042654970959809093133570250935428086587327262919456144944542601257064044846194041676826903812816523290938580750782913463467636686848 := by
      rw [own_U_lit]
      generalize (lw_c p1 p2 p3 p4).toInt * ((lw_x p1 p2 p3 p4).toInt - (lw_a p1 p2 p3 p4).toInt) = t
      omega
    exact (own_add_e (own_l2d (by omega)) h3 (by rw [e]; exact own_rep _ 1071 (by decide +kernel) (by omega) (by decide))).cast e
  have b2 := own_bound (m := 8 * (lw_s p1 p2 p3 p4).toInt + (lw_c p1 p2 p3 p4).toInt * ((lw_x p1 p2 p3 p4).toInt - (lw_a p1 p2 p3 p4).toInt)) (n := (lw_x p1 p2 p3 p4).toInt - (lw_a p1 p2 p3 p4).toInt) (M := 3000000) (N := 2048) (by omega) (by omega) (by decide) (by decide)
  have h5 := own_prod h4 h1 (L := 6325070415853456823515479584966165845298645305129441198653167438357198111499854590373761990669910140474596183259900372230931523043306046152094168748148078435047419508642698792639590866940413010663742739952273283392562733857021646831815729864036236135650314266011211548510419206725953204130822734645187695728365866909171712) (own_rep _ 1069 (by decide +kernel) (by omega) (by decide)) (by rw [own_U_lit]; decide +kernel)
  exact ⟨h1, h2, h3, h4, h5⟩
theorem own_r32 (p1 p2 p3 p4 : Int32) : own_Fin (FP.dmul (lw_rise p1 p2 p3 p4) (4629700416936869888 : UInt64)) ((8 * (lw_s p1 p2 p3 p4).toInt + (lw_c p1 p2 p3 p4).toInt * ((lw_x p1 p2 p3 p4).toInt - (lw_a p1 p2 p3 p4).toInt)) * ((lw_x p1 p2 p3 p4).toInt - (lw_a p1 p2 p3 p4).toInt) * 202402253307310618352495346718917307049556649764142118356901358027430339567995346891960383701437124495187077864316811911389808737385793476867013399940738509921517424276566361364466907742093216341239767678472745068562007483424692698618103355649159556340810056512358769552333414615230502532186327508646006263307707741093494784) := by
  have hs := own_s p1 p2 p3 p4
  have ha := own_a p1 p2 p3 p4
  have hc := own_c p1 p2 p3 p4
  have hx := own_x p1 p2 p3 p4
  have b1 := own_bound (m := (lw_c p1 p2 p3 p4).toInt) (n := (lw_x p1 p2 p3 p4).toInt - (lw_a p1 p2 p3 p4).toInt) (M := 1024) (N := 2048) (by omega) (by omega) (by decide) (by decide)
  have b2 := own_bound (m := 8 * (lw_s p1 p2 p3 p4).toInt + (lw_c p1 p2 p3 p4).toInt * ((lw_x p1 p2 p3 p4).toInt - (lw_a p1 p2 p3 p4).toInt)) (n := (lw_x p1 p2 p3 p4).toInt - (lw_a p1 p2 p3 p4).toInt) (M := 3000000) (N := 2048) (by omega) (by omega) (by decide) (by decide)
  refine own_mul_e (own_all p1 p2 p3 p4).2.2.2.2 own_t32 (own_rep _ 1074 (by decide +kernel) (by omega) (by decide)) ?_
  rw [own_U_lit]
  generalize (8 * (lw_s p1 p2 p3 p4).toInt + (lw_c p1 p2 p3 p4).toInt * ((lw_x p1 p2 p3 p4).toInt - (lw_a p1 p2 p3 p4).toInt)) * ((lw_x p1 p2 p3 p4).toInt - (lw_a p1 p2 p3 p4).toInt) = t
  omega
theorem own_d (p1 p2 p3 p4 : Int32) : (lw_d p1 p2 p3 p4).toInt = (lw_x p1 p2 p3 p4).toInt - (lw_a p1 p2 p3 p4).toInt := by
  have ha := own_a p1 p2 p3 p4
  have hx := own_x p1 p2 p3 p4
  exact Jvm.Kit.i64_sub (by omega) (by omega)
theorem own_ref (p1 p2 p3 p4 : Int32) : (lw_ref p1 p2 p3 p4).toInt = (8 * (lw_s p1 p2 p3 p4).toInt + (lw_c p1 p2 p3 p4).toInt * ((lw_x p1 p2 p3 p4).toInt - (lw_a p1 p2 p3 p4).toInt)) * ((lw_x p1 p2 p3 p4).toInt - (lw_a p1 p2 p3 p4).toInt) := by
  have hs := own_s p1 p2 p3 p4
  have ha := own_a p1 p2 p3 p4
  have hc := own_c p1 p2 p3 p4
  have hx := own_x p1 p2 p3 p4
  have hd := own_d p1 p2 p3 p4
  have b1 := own_bound (m := (lw_c p1 p2 p3 p4).toInt) (n := (lw_x p1 p2 p3 p4).toInt - (lw_a p1 p2 p3 p4).toInt) (M := 1024) (N := 2048) (by omega) (by omega) (by decide) (by decide)
  have b2 := own_bound (m := (lw_c p1 p2 p3 p4).toInt * ((lw_x p1 p2 p3 p4).toInt - (lw_a p1 p2 p3 p4).toInt)) (n := (lw_x p1 p2 p3 p4).toInt - (lw_a p1 p2 p3 p4).toInt) (M := 2097152) (N := 2048) (by omega) (by omega) (by decide) (by decide)
  have b3 := own_bound (m := 8 * (lw_s p1 p2 p3 p4).toInt) (n := (lw_x p1 p2 p3 p4).toInt - (lw_a p1 p2 p3 p4).toInt) (M := 8192) (N := 2048) (by omega) (by omega) (by decide) (by decide)
  have e1 : ((8 : Int64) * lw_s p1 p2 p3 p4).toInt = 8 * (lw_s p1 p2 p3 p4).toInt := Jvm.Kit.i64_mul (x := 8) (by show _ ≤ (8 : Int) * _; omega) (by show (8 : Int) * _ < _; omega)
  have e2 : ((8 : Int64) * lw_s p1 p2 p3 p4 * lw_d p1 p2 p3 p4).toInt = 8 * (lw_s p1 p2 p3 p4).toInt * ((lw_x p1 p2 p3 p4).toInt - (lw_a p1 p2 p3 p4).toInt) := by rw [Jvm.Kit.i64_mul (by rw [e1, hd]; omega) (by rw [e1, hd]; omega), e1, hd]
  have e3 : (lw_c p1 p2 p3 p4 * lw_d p1 p2 p3 p4).toInt = (lw_c p1 p2 p3 p4).toInt * ((lw_x p1 p2 p3 p4).toInt - (lw_a p1 p2 p3 p4).toInt) := by rw [Jvm.Kit.i64_mul (by rw [hd]; omega) (by rw [hd]; omega), hd]
  have e4 : (lw_c p1 p2 p3 p4 * lw_d p1 p2 p3 p4 * lw_d p1 p2 p3 p4).toInt = (lw_c p1 p2 p3 p4).toInt * ((lw_x p1 p2 p3 p4).toInt - (lw_a p1 p2 p3 p4).toInt) * ((lw_x p1 p2 p3 p4).toInt - (lw_a p1 p2 p3 p4).toInt) := by rw [Jvm.Kit.i64_mul (by rw [e3, hd]; omega) (by rw [e3, hd]; omega), e3, hd]
  show ((8 : Int64) * lw_s p1 p2 p3 p4 * lw_d p1 p2 p3 p4 + lw_c p1 p2 p3 p4 * lw_d p1 p2 p3 p4 * lw_d p1 p2 p3 p4).toInt = _
  rw [Jvm.Kit.i64_add (by rw [e2, e4]; omega) (by rw [e2, e4]; omega), e2, e4, Int.add_mul]
theorem own_same (p1 p2 p3 p4 : Int32) : ifCond.holds .ne (cmpValue (FP.dcmp (FP.dmul (lw_rise p1 p2 p3 p4) (4629700416936869888 : UInt64)) (FP.l2d (lw_ref p1 p2 p3 p4))) .l) = false := by
  have hs := own_s p1 p2 p3 p4
  have ha := own_a p1 p2 p3 p4
  have hc := own_c p1 p2 p3 p4
  have hx := own_x p1 p2 p3 p4
  have e := own_ref p1 p2 p3 p4
  have b1 := own_bound (m := (lw_c p1 p2 p3 p4).toInt) (n := (lw_x p1 p2 p3 p4).toInt - (lw_a p1 p2 p3 p4).toInt) (M := 1024) (N := 2048) (by omega) (by omega) (by decide) (by decide)
  have b2 := own_bound (m := 8 * (lw_s p1 p2 p3 p4).toInt + (lw_c p1 p2 p3 p4).toInt * ((lw_x p1 p2 p3 p4).toInt - (lw_a p1 p2 p3 p4).toInt)) (n := (lw_x p1 p2 p3 p4).toInt - (lw_a p1 p2 p3 p4).toInt) (M := 3000000) (N := 2048) (by omega) (by omega) (by decide) (by decide)
  have hl := own_l2d (n := lw_ref p1 p2 p3 p4) (by rw [e]; omega)
  rw [e, own_U_lit] at hl
  rw [(own_if (own_r32 p1 p2 p3 p4).v hl.v .l).2.1]
  exact decide_eq_false (fun h => h rfl)
theorem d1_0 : decode method_2_code 0 = .ok (.iload_n 0, 1) := by decide +kernel
theorem d1_1 : decode method_2_code 1 = .ok (.bipush 21, 2) := by decide +kernel
theorem d1_3 : decode method_2_code 3 = .ok (.ishl, 1) := by decide +kernel
theorem d1_4 : decode method_2_code 4 = .ok (.bipush 21, 2) := by decide +kernel
theorem d1_6 : decode method_2_code 6 = .ok (.ishr, 1) := by decide +kernel
theorem d1_7 : decode method_2_code 7 = .ok (.i2l, 1) := by decide +kernel
theorem d1_8 : decode method_2_code 8 = .ok (.lreturn, 1) := by decide +kernel
theorem d2_0 : decode prog_42_method_1_code 0 = .ok (.aload_n 0, 1) := by decide +kernel
theorem d2_1 : decode prog_42_method_1_code 1 = .ok (.invokespecial 1, 3) := by decide +kernel
theorem d2_4 : decode prog_42_method_1_code 4 = .ok (.aload_n 0, 1) := by decide +kernel
theorem d2_5 : decode prog_42_method_1_code 5 = .ok (.dload_n 1, 1) := by decide +kernel
theorem d2_6 : decode prog_42_method_1_code 6 = .ok (.putfield 7, 3) := by decide +kernel
theorem d2_9 : decode prog_42_method_1_code 9 = .ok (.aload_n 0, 1) := by decide +kernel
theorem d2_10 : decode prog_42_method_1_code 10 = .ok (.dload_n 3, 1) := by decide +kernel
theorem d2_11 : decode prog_42_method_1_code 11 = .ok (.putfield 13, 3) := by decide +kernel
theorem d2_14 : decode prog_42_method_1_code 14 = .ok (.aload_n 0, 1) := by decide +kernel
theorem d2_15 : decode prog_42_method_1_code 15 = .ok (.dload 5, 2) := by decide +kernel
theorem d2_17 : decode prog_42_method_1_code 17 = .ok (.putfield 16, 3) := by decide +kernel
theorem d2_20 : decode prog_42_method_1_code 20 = .ok (.return_, 1) := by decide +kernel
theorem d4_0 : decode prog_42_method_2_code 0 = .ok (.dload_n 1, 1) := by decide +kernel
theorem d4_1 : decode prog_42_method_2_code 1 = .ok (.aload_n 0, 1) := by decide +kernel
theorem d4_2 : decode prog_42_method_2_code 2 = .ok (.getfield 13, 3) := by decide +kernel
theorem d4_5 : decode prog_42_method_2_code 5 = .ok (.dsub, 1) := by decide +kernel
theorem d4_6 : decode prog_42_method_2_code 6 = .ok (.dstore_n 3, 1) := by decide +kernel
theorem d4_7 : decode prog_42_method_2_code 7 = .ok (.aload_n 0, 1) := by decide +kernel
theorem d4_8 : decode prog_42_method_2_code 8 = .ok (.getfield 7, 3) := by decide +kernel
theorem d4_11 : decode prog_42_method_2_code 11 = .ok (.aload_n 0, 1) := by decide +kernel
theorem d4_12 : decode prog_42_method_2_code 12 = .ok (.getfield 16, 3) := by decide +kernel
theorem d4_15 : decode prog_42_method_2_code 15 = .ok (.ldc2_w 19, 3) := by decide +kernel
theorem d4_18 : decode prog_42_method_2_code 18 = .ok (.ddiv, 1) := by decide +kernel
theorem d4_19 : decode prog_42_method_2_code 19 = .ok (.dload_n 3, 1) := by decide +kernel
theorem d4_20 : decode prog_42_method_2_code 20 = .ok (.dmul, 1) := by decide +kernel
theorem d4_21 : decode prog_42_method_2_code 21 = .ok (.dadd, 1) := by decide +kernel
theorem d4_22 : decode prog_42_method_2_code 22 = .ok (.dload_n 3, 1) := by decide +kernel
theorem d4_23 : decode prog_42_method_2_code 23 = .ok (.dmul, 1) := by decide +kernel
theorem d4_24 : decode prog_42_method_2_code 24 = .ok (.dreturn, 1) := by decide +kernel
theorem pn_0 : plainName "com/example/quadratur/quadratur/method/FarEndRiseToPinLaw" = true := by first | (simp [plainName, overriddenIn]; done) | decide +kernel
theorem pn_1 : plainName "com/example/quadratur/quadratur/method/GaussKronrod$FarEnd" = true := by first | (simp [plainName, overriddenIn]; done) | decide +kernel
theorem pd_0 : parseMethodDescriptor "(I)J" = some ⟨[.int], some .long⟩ := by decide +kernel
theorem pd_1 : parseMethodDescriptor "(DDD)V" = some ⟨[.double, .double, .double], none⟩ := by decide +kernel
theorem pd_2 : parseMethodDescriptor "(D)D" = some ⟨[.double], some .double⟩ := by decide +kernel
theorem ef_sg (m : MethodId) (i1 : Int32) : entryFrame m #[(.int i1)] 1 = (mkF m 0 #[.val (.int i1)] []) := by first | (simp [entryFrame, mkF, argsToLocals, Value.category]; done) | rfl
def Q_sg (Z : State) (i1 : Int32)  (h0 : Heap) (n0 : Nat) (v : Option Value) (h : Heap) (L : List Loc) : Prop := v = some (.long (Int32.toInt64 ((i1 <<< ((21 : Int32) &&& 31)) >>> ((21 : Int32) &&& 31)))) ∧ Fr n0 L ∧ h = h0
set_option maxRecDepth 65536 in
set_option maxHeartbeats 40000000 in
theorem rm_sg (l : Launch) (Z : State) (a0 : Array Value) (hw : ∀ d ∈ tables_1, d.before a0 Z = true) (ws : List Jvm.Cond) (i1 : Int32)  (h0 : Heap) (n0 : Nat) (Z0 : n0 ≤ h0.size)    :
    MetFree l (⟨"com/example/quadratur/quadratur/method/FarEndRiseToPinLaw", "signed11", "(I)J"⟩ : MethodName) (head1 (Jvm.Cond.code (⟨"com/example/quadratur/quadratur/method/FarEndRiseToPinLaw", "signed11", "(I)J"⟩ : MethodName) method_2_code 1 (some .long) :: ws) ({ frames := 0, cells := 0, slots := 0, locals := 0 } : Room)) (fun a U => a = #[(.int i1)] ∧ Z.Warmed39 U.vm ∧ U.heap = h0) (fun _ _ _ _ _ => True) (fun _ U o U' => ∃ v L, o = .returned v ∧ Q_sg Z i1  h0 n0 v U'.heap L ∧ FrameEnd U o U' L ({ frames := 0, cells := 0, slots := 0, locals := 0 } : Room).cells ({ frames := 0, cells := 0, slots := 0, locals := 0 } : Room).slots) := by
  refine MetFree.of_bodySF (plainFor_of_name pn_0) hisR ?_
  intro p e s m args below meth c s₁ Bd hml0 hP hK
  obtain ⟨rfl, hZ, hh⟩ := hP
  have hx := Bd.exec
  have hby := Bd.bytes
  have hml : c.maxLocals = 1 := hml0
  have hown : s.vm.findClass "com/example/quadratur/quadratur/method/FarEndRiseToPinLaw" = some m.cls := findClass_of_methodNamed Bd.named
  have hnm := (name_of_methodNamed Bd.named Bd.method).1
  have X0 : Stand p l e ({ frames := 0, cells := 0, slots := 0, locals := 0 } : Room) s m #[(.int i1)] below meth c s₁ [] 0 0 := Stand.of_body Bd
  have e0 : s₁.heap = h0 := by rw [← hh, Bd.state]; rfl
  have N0 := Fr.nil n0
  have pre0 : ∀ t, Steps p.tables e below (s₁.setTop (mkF m 0 #[.val (.int i1)] [])) t → Steps p.tables e below (s₁.setTop (entryFrame m #[(.int i1)] 1)) t := fun t k => castTop (ef_sg m i1) k
  obtain ⟨fs, hr, hrun, hended, hW, hsame⟩ := X0.leave (v := some (.long (Int32.toInt64 ((i1 <<< ((21 : Int32) &&& 31)) >>> ((21 : Int32) &&& 31))))) (fun h => by rw [Bd.returns] at h; cases h)
  refine ⟨_, _, pre0 _ ?_, hrun, hended, _, _, rfl, ?_, ⟨_, rfl⟩, hW, hsame.mono (Nat.le_of_ble_eq_true rfl) (Nat.le_of_ble_eq_true rfl)⟩
  · show Steps p.tables e below (s₁.setTop (mkF m 0 #[.val (.int i1)] [])) _
    refine XS.iloadN X0.here hx rfl (hb hby d1_0) rfl ?_
    show Steps p.tables e below (s₁.setTop (mkF m 1 #[.val (.int i1)] [(.int i1)])) _
    refine XS.bipush X0.here hx rfl (hb hby d1_1) ?_
    show Steps p.tables e below (s₁.setTop (mkF m 3 #[.val (.int i1)] [(.int (21 : Int32)), (.int i1)])) _
    refine XT.ishl X0.here hx rfl (hb hby d1_3) rfl ?_
    show Steps p.tables e below (s₁.setTop (mkF m 4 #[.val (.int i1)] [(.int (i1 <<< ((21 : Int32) &&& 31)))])) _
    refine XS.bipush X0.here hx rfl (hb hby d1_4) ?_
    show Steps p.tables e below (s₁.setTop (mkF m 6 #[.val (.int i1)] [(.int (21 : Int32)), (.int (i1 <<< ((21 : Int32) &&& 31)))])) _
    refine XT.ishr X0.here hx rfl (hb hby d1_6) rfl ?_
    show Steps p.tables e below (s₁.setTop (mkF m 7 #[.val (.int i1)] [(.int ((i1 <<< ((21 : Int32) &&& 31)) >>> ((21 : Int32) &&& 31)))])) _
    refine XT.i2l X0.here hx rfl (hb hby d1_7) rfl ?_
    show Steps p.tables e below (s₁.setTop (mkF m 8 #[.val (.int i1)] [(.long (Int32.toInt64 ((i1 <<< ((21 : Int32) &&& 31)) >>> ((21 : Int32) &&& 31))))])) _
    exact retOut X0 hx (t := .long) Bd.returns rfl (Or.inr (Or.inl ⟨rfl, rfl, _, rfl⟩)) (hb hby d1_8) hr
  · show Q_sg Z i1  h0 n0 _ s₁.heap _
    exact ⟨rfl, N0, e0⟩
theorem ef_ini (m : MethodId) (a1 : Addr) (d1 : UInt64) (d2 : UInt64) (d3 : UInt64) : entryFrame m #[(.ref a1), (.double d1), (.double d2), (.double d3)] 7 = (mkF m 0 #[.val (.ref a1), .val (.double d1), .second, .val (.double d2), .second, .val (.double d3), .second] []) := by first | (simp [entryFrame, mkF, argsToLocals, Value.category]; done) | rfl
def Q_ini (Z : State) (a1 : Addr) (d1 : UInt64) (d2 : UInt64) (d3 : UInt64)  (h0 : Heap) (n0 : Nat) (v : Option Value) (h : Heap) (L : List Loc) : Prop := v = none ∧ Fr n0 L ∧ Keep h0 h [a1] ∧ (Exa Z h a1 "com/example/quadratur/quadratur/method/GaussKronrod$FarEnd") ∧ (Fld Z h a1 "com/example/quadratur/quadratur/method/GaussKronrod$FarEnd" "slope" "D" (.double d1)) ∧ (Fld Z h a1 "com/example/quadratur/quadratur/method/GaussKronrod$FarEnd" "slopeAt" "D" (.double d2)) ∧ (Fld Z h a1 "com/example/quadratur/quadratur/method/GaussKronrod$FarEnd" "curvature" "D" (.double d3))
set_option maxRecDepth 65536 in
set_option maxHeartbeats 40000000 in
theorem rm_ini (l : Launch) (Z : State) (a0 : Array Value) (hw : ∀ d ∈ tables_1, d.before a0 Z = true) (ws : List Jvm.Cond) (a1 : Addr) (d1 : UInt64) (d2 : UInt64) (d3 : UInt64)  (h0 : Heap) (n0 : Nat) (Z0 : n0 ≤ h0.size) (k0_ : Fld Z h0 a1 "com/example/quadratur/quadratur/method/GaussKronrod$FarEnd" "slope" "D" (.double (0 : UInt64))) (k1_ : Fld Z h0 a1 "com/example/quadratur/quadratur/method/GaussKronrod$FarEnd" "slopeAt" "D" (.double (0 : UInt64))) (k2_ : Fld Z h0 a1 "com/example/quadratur/quadratur/method/GaussKronrod$FarEnd" "curvature" "D" (.double (0 : UInt64))) (k3_ : Exa Z h0 a1 "com/example/quadratur/quadratur/method/GaussKronrod$FarEnd") (k4_ : n0 ≤ a1)   :
    MetFree l (⟨"com/example/quadratur/quadratur/method/GaussKronrod$FarEnd", "<init>", "(DDD)V"⟩ : MethodName) (head1 (Jvm.Cond.code (⟨"com/example/quadratur/quadratur/method/GaussKronrod$FarEnd", "<init>", "(DDD)V"⟩ : MethodName) prog_42_method_1_code 7 none :: ws) ({ frames := 1, cells := 0, slots := 0, locals := 12 } : Room)) (fun a U => a = #[(.ref a1), (.double d1), (.double d2), (.double d3)] ∧ Z.Warmed39 U.vm ∧ U.heap = h0) (fun _ _ _ _ _ => True) (fun _ U o U' => ∃ v L, o = .returned v ∧ Q_ini Z a1 d1 d2 d3  h0 n0 v U'.heap L ∧ FrameEnd U o U' L ({ frames := 1, cells := 0, slots := 0, locals := 12 } : Room).cells ({ frames := 1, cells := 0, slots := 0, locals := 12 } : Room).slots) := by
  refine MetFree.of_bodySF (plainFor_of_name pn_1) hisR ?_
  intro p e s m args below meth c s₁ Bd hml0 hP hK
  obtain ⟨rfl, hZ, hh⟩ := hP
  have hx := Bd.exec
  have hby := Bd.bytes
  have hml : c.maxLocals = 7 := hml0
  have hown : s.vm.findClass "com/example/quadratur/quadratur/method/GaussKronrod$FarEnd" = some m.cls := findClass_of_methodNamed Bd.named
  have hnm := (name_of_methodNamed Bd.named Bd.method).1
  have X0 : Stand p l e ({ frames := 1, cells := 0, slots := 0, locals := 12 } : Room) s m #[(.ref a1), (.double d1), (.double d2), (.double d3)] below meth c s₁ [] 0 0 := Stand.of_body Bd
  have e0 : s₁.heap = h0 := by rw [← hh, Bd.state]; rfl
  have N0 := Fr.nil n0
  have pre0 : ∀ t, Steps p.tables e below (s₁.setTop (mkF m 0 #[.val (.ref a1), .val (.double d1), .second, .val (.double d2), .second, .val (.double d3), .second] [])) t → Steps p.tables e below (s₁.setTop (entryFrame m #[(.ref a1), (.double d1), (.double d2), (.double d3)] 7)) t := fun t k => castTop (ef_ini m a1 d1 d2 d3) k
  have K0 := Keep.refl h0 [a1]
  obtain ⟨T1, X1, e1, st1⟩ := initO X0 hx hZ hown (hw _ (List.mem_of_getElem? (i := 11) rfl)) (hw _ (List.mem_of_getElem? (i := 12) rfl)) (hw _ (List.mem_of_getElem? (i := 13) rfl)) e0 (g := (mkF m 1 #[.val (.ref a1), .val (.double d1), .second, .val (.double d2), .second, .val (.double d3), .second] [(.ref a1)])) rfl (by rw [hml]; rfl) rfl (hb hby d2_1) (by decide) (W := 0) (by show 2 * 0 + _ ≤ _; exact Nat.le_of_eq rfl) (by decide)
  obtain ⟨T2, h2, X2, e2, W2, st2⟩ := putF X1 hx hZ hown (host := "") (Or.inl (hw _ (List.mem_of_getElem? (i := 14) rfl))) Via.refl e1 k0_ k3_ (Or.inr ⟨(hw _ (List.mem_of_getElem? (i := 15) rfl)), rfl, hnm⟩) (hw _ (List.mem_of_getElem? (i := 5) rfl)) (ty := .double) (by decide) rfl rfl (g := (mkF m 6 #[.val (.ref a1), .val (.double d1), .second, .val (.double d2), .second, .val (.double d3), .second] [(.double d1), (.ref a1)])) rfl rfl (hb hby d2_6)
  have Nn2 := Fr.snoc X2 N0 k4_
  have q3 : Fld Z h2 a1 "com/example/quadratur/quadratur/method/GaussKronrod$FarEnd" "slopeAt" "D" (.double (0 : UInt64)) := (k1_.other W2 (Or.inr (slot_ne (a0 := a0) (C := "com/example/quadratur/quadratur/method/GaussKronrod$FarEnd") (Or.inr (hw _ (List.mem_of_getElem? (i := 17) rfl))) (Or.inr (hw _ (List.mem_of_getElem? (i := 15) rfl))) (by decide) (t := .double) (t' := .double) (by decide) (by decide))))
  have q4 : Fld Z h2 a1 "com/example/quadratur/quadratur/method/GaussKronrod$FarEnd" "curvature" "D" (.double (0 : UInt64)) := (k2_.other W2 (Or.inr (slot_ne (a0 := a0) (C := "com/example/quadratur/quadratur/method/GaussKronrod$FarEnd") (Or.inr (hw _ (List.mem_of_getElem? (i := 19) rfl))) (Or.inr (hw _ (List.mem_of_getElem? (i := 15) rfl))) (by decide) (t := .double) (t' := .double) (by decide) (by decide))))
  have q5 : Exa Z h2 a1 "com/example/quadratur/quadratur/method/GaussKronrod$FarEnd" := (k3_.wr W2)
  have q2n : Fld Z h2 a1 "com/example/quadratur/quadratur/method/GaussKronrod$FarEnd" "slope" "D" (.double d1) := (k0_.same W2)
  have K2 := K0.wr W2 (Or.inl (List.mem_of_getElem? (i := 0) rfl))
  have Z2 : n0 ≤ h2.size := Nat.le_trans Z0 (Keep.of_wr W2).1
  obtain ⟨T6, h6, X6, e6, W6, st6⟩ := putF X2 hx hZ hown (host := "") (Or.inl (hw _ (List.mem_of_getElem? (i := 16) rfl))) Via.refl e2 q3 q5 (Or.inr ⟨(hw _ (List.mem_of_getElem? (i := 17) rfl)), rfl, hnm⟩) (hw _ (List.mem_of_getElem? (i := 5) rfl)) (ty := .double) (by decide) rfl rfl (g := (mkF m 11 #[.val (.ref a1), .val (.double d1), .second, .val (.double d2), .second, .val (.double d3), .second] [(.double d2), (.ref a1)])) rfl rfl (hb hby d2_11)
  have Nn6 := Fr.snoc X6 Nn2 k4_
  have q7 : Fld Z h6 a1 "com/example/quadratur/quadratur/method/GaussKronrod$FarEnd" "curvature" "D" (.double (0 : UInt64)) := (q4.other W6 (Or.inr (slot_ne (a0 := a0) (C := "com/example/quadratur/quadratur/method/GaussKronrod$FarEnd") (Or.inr (hw _ (List.mem_of_getElem? (i := 19) rfl))) (Or.inr (hw _ (List.mem_of_getElem? (i := 17) rfl))) (by decide) (t := .double) (t' := .double) (by decide) (by decide))))
  have q8 : Exa Z h6 a1 "com/example/quadratur/quadratur/method/GaussKronrod$FarEnd" := (q5.wr W6)
  have q9 : Fld Z h6 a1 "com/example/quadratur/quadratur/method/GaussKronrod$FarEnd" "slope" "D" (.double d1) := (q2n.other W6 (Or.inr (slot_ne (a0 := a0) (C := "com/example/quadratur/quadratur/method/GaussKronrod$FarEnd") (Or.inr (hw _ (List.mem_of_getElem? (i := 15) rfl))) (Or.inr (hw _ (List.mem_of_getElem? (i := 17) rfl))) (by decide) (t := .double) (t' := .double) (by decide) (by decide))))
  have q6n : Fld Z h6 a1 "com/example/quadratur/quadratur/method/GaussKronrod$FarEnd" "slopeAt" "D" (.double d2) := (q3.same W6)
  have K6 := K2.wr W6 (Or.inl (List.mem_of_getElem? (i := 0) rfl))
  have Z6 : n0 ≤ h6.size := Nat.le_trans Z2 (Keep.of_wr W6).1
  obtain ⟨T10, h10, X10, e10, W10, st10⟩ := putF X6 hx hZ hown (host := "") (Or.inl (hw _ (List.mem_of_getElem? (i := 18) rfl))) Via.refl e6 q7 q8 (Or.inr ⟨(hw _ (List.mem_of_getElem? (i := 19) rfl)), rfl, hnm⟩) (hw _ (List.mem_of_getElem? (i := 5) rfl)) (ty := .double) (by decide) rfl rfl (g := (mkF m 17 #[.val (.ref a1), .val (.double d1), .second, .val (.double d2), .second, .val (.double d3), .second] [(.double d3), (.ref a1)])) rfl rfl (hb hby d2_17)
  have Nn10 := Fr.snoc X10 Nn6 k4_
  have q11 : Exa Z h10 a1 "com/example/quadratur/quadratur/method/GaussKronrod$FarEnd" := (q8.wr W10)
  have q12 : Fld Z h10 a1 "com/example/quadratur/quadratur/method/GaussKronrod$FarEnd" "slope" "D" (.double d1) := (q9.other W10 (Or.inr (slot_ne (a0 := a0) (C := "com/example/quadratur/quadratur/method/GaussKronrod$FarEnd") (Or.inr (hw _ (List.mem_of_getElem? (i := 15) rfl))) (Or.inr (hw _ (List.mem_of_getElem? (i := 19) rfl))) (by decide) (t := .double) (t' := .double) (by decide) (by decide))))
  have q13 : Fld Z h10 a1 "com/example/quadratur/quadratur/method/GaussKronrod$FarEnd" "slopeAt" "D" (.double d2) := (q6n.other W10 (Or.inr (slot_ne (a0 := a0) (C := "com/example/quadratur/quadratur/method/GaussKronrod$FarEnd") (Or.inr (hw _ (List.mem_of_getElem? (i := 17) rfl))) (Or.inr (hw _ (List.mem_of_getElem? (i := 19) rfl))) (by decide) (t := .double) (t' := .double) (by decide) (by decide))))
  have q10n : Fld Z h10 a1 "com/example/quadratur/quadratur/method/GaussKronrod$FarEnd" "curvature" "D" (.double d3) := (q7.same W10)
  have K10 := K6.wr W10 (Or.inl (List.mem_of_getElem? (i := 0) rfl))
  have Z10 : n0 ≤ h10.size := Nat.le_trans Z6 (Keep.of_wr W10).1
  obtain ⟨fs, hr, hrun, hended, hW, hsame⟩ := X10.leave (v := none) (fun _ => rfl)
  refine ⟨_, _, pre0 _ ?_, hrun, hended, _, _, rfl, ?_, ⟨_, rfl⟩, hW, hsame.mono (Nat.le_of_ble_eq_true rfl) (Nat.le_of_ble_eq_true rfl)⟩
  · show Steps p.tables e below (s₁.setTop (mkF m 0 #[.val (.ref a1), .val (.double d1), .second, .val (.double d2), .second, .val (.double d3), .second] [])) _
    refine XS.aloadN X0.here hx rfl (hb hby d2_0) rfl rfl ?_
    show Steps p.tables e below (s₁.setTop (mkF m 1 #[.val (.ref a1), .val (.double d1), .second, .val (.double d2), .second, .val (.double d3), .second] [(.ref a1)])) _
    refine st1 _ ?_
    show Steps p.tables e below (T1.setTop (mkF m 4 #[.val (.ref a1), .val (.double d1), .second, .val (.double d2), .second, .val (.double d3), .second] [])) _
    refine XS.aloadN X1.here hx rfl (hb hby d2_4) rfl rfl ?_
    show Steps p.tables e below (T1.setTop (mkF m 5 #[.val (.ref a1), .val (.double d1), .second, .val (.double d2), .second, .val (.double d3), .second] [(.ref a1)])) _
    refine XS.dloadN X1.here hx rfl (hb hby d2_5) rfl ?_
    show Steps p.tables e below (T1.setTop (mkF m 6 #[.val (.ref a1), .val (.double d1), .second, .val (.double d2), .second, .val (.double d3), .second] [(.double d1), (.ref a1)])) _
    refine st2 _ ?_
    show Steps p.tables e below (T2.setTop (mkF m 9 #[.val (.ref a1), .val (.double d1), .second, .val (.double d2), .second, .val (.double d3), .second] [])) _
    refine XS.aloadN X2.here hx rfl (hb hby d2_9) rfl rfl ?_
    show Steps p.tables e below (T2.setTop (mkF m 10 #[.val (.ref a1), .val (.double d1), .second, .val (.double d2), .second, .val (.double d3), .second] [(.ref a1)])) _
    refine XS.dloadN X2.here hx rfl (hb hby d2_10) rfl ?_
    show Steps p.tables e below (T2.setTop (mkF m 11 #[.val (.ref a1), .val (.double d1), .second, .val (.double d2), .second, .val (.double d3), .second] [(.double d2), (.ref a1)])) _
    refine st6 _ ?_
    show Steps p.tables e below (T6.setTop (mkF m 14 #[.val (.ref a1), .val (.double d1), .second, .val (.double d2), .second, .val (.double d3), .second] [])) _
    refine XS.aloadN X6.here hx rfl (hb hby d2_14) rfl rfl ?_
    show Steps p.tables e below (T6.setTop (mkF m 15 #[.val (.ref a1), .val (.double d1), .second, .val (.double d2), .second, .val (.double d3), .second] [(.ref a1)])) _
    refine XS.dload X6.here hx rfl (hb hby d2_15) rfl ?_
    show Steps p.tables e below (T6.setTop (mkF m 17 #[.val (.ref a1), .val (.double d1), .second, .val (.double d2), .second, .val (.double d3), .second] [(.double d3), (.ref a1)])) _
    refine st10 _ ?_
    show Steps p.tables e below (T10.setTop (mkF m 20 #[.val (.ref a1), .val (.double d1), .second, .val (.double d2), .second, .val (.double d3), .second] [])) _
    exact X10.returnOut hx Bd.returns (hb hby d2_20) hr
  · show Q_ini Z a1 d1 d2 d3  h0 n0 _ T10.heap _
    rw [e10]
    exact ⟨rfl, Nn10, K10, q11, q12, q13, q10n⟩
theorem ef_rt (m : MethodId) (a1 : Addr) (d4 : UInt64) : entryFrame m #[(.ref a1), (.double d4)] 5 = (mkF m 0 #[.val (.ref a1), .val (.double d4), .second, .unset, .unset] []) := by first | (simp [entryFrame, mkF, argsToLocals, Value.category]; done) | rfl
def Q_rt (Z : State) (a1 : Addr) (d4 : UInt64) (d7 : UInt64) (d8 : UInt64) (d9 : UInt64) (h0 : Heap) (n0 : Nat) (v : Option Value) (h : Heap) (L : List Loc) : Prop := v = some (.double (FP.dmul (FP.dadd d7 (FP.dmul (FP.ddiv d9 (4611686018427387904 : UInt64)) (rt_dist d4 d7 d8 d9))) (rt_dist d4 d7 d8 d9))) ∧ Fr n0 L ∧ h = h0
set_option maxRecDepth 65536 in
set_option maxHeartbeats 40000000 in
theorem rm_rt (l : Launch) (Z : State) (a0 : Array Value) (hw : ∀ d ∈ tables_1, d.before a0 Z = true) (ws : List Jvm.Cond) (a1 : Addr) (d4 : UInt64) (d7 : UInt64) (d8 : UInt64) (d9 : UInt64) (h0 : Heap) (n0 : Nat) (Z0 : n0 ≤ h0.size) (k0_ : Fld Z h0 a1 "com/example/quadratur/quadratur/method/GaussKronrod$FarEnd" "slope" "D" (.double d7)) (k1_ : Fld Z h0 a1 "com/example/quadratur/quadratur/method/GaussKronrod$FarEnd" "slopeAt" "D" (.double d8)) (k2_ : Fld Z h0 a1 "com/example/quadratur/quadratur/method/GaussKronrod$FarEnd" "curvature" "D" (.double d9))  (nn5 : Jvm.Free.Fl.NoNaN64 (FP.dsub d4 d8)) (nn18 : Jvm.Free.Fl.NoNaN64 (FP.ddiv d9 (4611686018427387904 : UInt64))) (nn20 : Jvm.Free.Fl.NoNaN64 (FP.dmul (FP.ddiv d9 (4611686018427387904 : UInt64)) (rt_dist d4 d7 d8 d9))) (nn21 : Jvm.Free.Fl.NoNaN64 (FP.dadd d7 (FP.dmul (FP.ddiv d9 (4611686018427387904 : UInt64)) (rt_dist d4 d7 d8 d9)))) (nn23 : Jvm.Free.Fl.NoNaN64 (FP.dmul (FP.dadd d7 (FP.dmul (FP.ddiv d9 (4611686018427387904 : UInt64)) (rt_dist d4 d7 d8 d9))) (rt_dist d4 d7 d8 d9))) :
    MetFree l (⟨"com/example/quadratur/quadratur/method/GaussKronrod$FarEnd", "riseTo", "(D)D"⟩ : MethodName) (head1 (Jvm.Cond.code (⟨"com/example/quadratur/quadratur/method/GaussKronrod$FarEnd", "riseTo", "(D)D"⟩ : MethodName) prog_42_method_2_code 5 (some .double) :: ws) ({ frames := 0, cells := 0, slots := 0, locals := 0 } : Room)) (fun a U => a = #[(.ref a1), (.double d4)] ∧ Z.Warmed39 U.vm ∧ U.heap = h0) (fun _ _ _ _ _ => True) (fun _ U o U' => ∃ v L, o = .returned v ∧ Q_rt Z a1 d4 d7 d8 d9 h0 n0 v U'.heap L ∧ FrameEnd U o U' L ({ frames := 0, cells := 0, slots := 0, locals := 0 } : Room).cells ({ frames := 0, cells := 0, slots := 0, locals := 0 } : Room).slots) := by
  refine MetFree.of_bodySF (plainFor_of_name pn_1) hisR ?_
  intro p e s m args below meth c s₁ Bd hml0 hP hK
  obtain ⟨rfl, hZ, hh⟩ := hP
  have hx := Bd.exec
  have hby := Bd.bytes
  have hml : c.maxLocals = 5 := hml0
  have hown : s.vm.findClass "com/example/quadratur/quadratur/method/GaussKronrod$FarEnd" = some m.cls := findClass_of_methodNamed Bd.named
  have hnm := (name_of_methodNamed Bd.named Bd.method).1
  have X0 : Stand p l e ({ frames := 0, cells := 0, slots := 0, locals := 0 } : Room) s m #[(.ref a1), (.double d4)] below meth c s₁ [] 0 0 := Stand.of_body Bd
  have e0 : s₁.heap = h0 := by rw [← hh, Bd.state]; rfl
  have N0 := Fr.nil n0
  have pre0 : ∀ t, Steps p.tables e below (s₁.setTop (mkF m 0 #[.val (.ref a1), .val (.double d4), .second, .unset, .unset] [])) t → Steps p.tables e below (s₁.setTop (entryFrame m #[(.ref a1), (.double d4)] 5)) t := fun t k => castTop (ef_rt m a1 d4) k
  obtain ⟨T1, X1, e1, st1⟩ := getF X0 hx hZ hown (host := "") (Or.inl (hw _ (List.mem_of_getElem? (i := 16) rfl))) Via.refl e0 k1_ (g := (mkF m 2 #[.val (.ref a1), .val (.double d4), .second, .unset, .unset] [(.ref a1), (.double d4)])) rfl rfl (hb hby d4_2)
  obtain ⟨T2, X2, e2, st2⟩ := getF X1 hx hZ hown (host := "") (Or.inl (hw _ (List.mem_of_getElem? (i := 14) rfl))) Via.refl e1 k0_ (g := (mkF m 8 #[.val (.ref a1), .val (.double d4), .second, .val (.double (rt_dist d4 d7 d8 d9)), .second] [(.ref a1)])) rfl rfl (hb hby d4_8)
  obtain ⟨T3, X3, e3, st3⟩ := getF X2 hx hZ hown (host := "") (Or.inl (hw _ (List.mem_of_getElem? (i := 18) rfl))) Via.refl e2 k2_ (g := (mkF m 12 #[.val (.ref a1), .val (.double d4), .second, .val (.double (rt_dist d4 d7 d8 d9)), .second] [(.ref a1), (.double d7)])) rfl rfl (hb hby d4_12)
  obtain ⟨fs, hr, hrun, hended, hW, hsame⟩ := X3.leave (v := some (.double (FP.dmul (FP.dadd d7 (FP.dmul (FP.ddiv d9 (4611686018427387904 : UInt64)) (rt_dist d4 d7 d8 d9))) (rt_dist d4 d7 d8 d9)))) (fun h => by rw [Bd.returns] at h; cases h)
  refine ⟨_, _, pre0 _ ?_, hrun, hended, _, _, rfl, ?_, ⟨_, rfl⟩, hW, hsame.mono (Nat.le_of_ble_eq_true rfl) (Nat.le_of_ble_eq_true rfl)⟩
  · show Steps p.tables e below (s₁.setTop (mkF m 0 #[.val (.ref a1), .val (.double d4), .second, .unset, .unset] [])) _
    refine XS.dloadN X0.here hx rfl (hb hby d4_0) rfl ?_
    show Steps p.tables e below (s₁.setTop (mkF m 1 #[.val (.ref a1), .val (.double d4), .second, .unset, .unset] [(.double d4)])) _
    refine XS.aloadN X0.here hx rfl (hb hby d4_1) rfl rfl ?_
    show Steps p.tables e below (s₁.setTop (mkF m 2 #[.val (.ref a1), .val (.double d4), .second, .unset, .unset] [(.ref a1), (.double d4)])) _
    refine st1 _ ?_
    show Steps p.tables e below (T1.setTop (mkF m 5 #[.val (.ref a1), .val (.double d4), .second, .unset, .unset] [(.double d8), (.double d4)])) _
    refine XS.dsubS X1.here hx rfl (hb hby d4_5) rfl nn5 rfl ?_
    show Steps p.tables e below (T1.setTop (mkF m 6 #[.val (.ref a1), .val (.double d4), .second, .unset, .unset] [(.double (FP.dsub d4 d8))])) _
    refine XS.dstoreN X1.here hx rfl (hb hby d4_6) rfl (l' := #[.val (.ref a1), .val (.double d4), .second, .val (.double (rt_dist d4 d7 d8 d9)), .second]) rfl ?_
    show Steps p.tables e below (T1.setTop (mkF m 7 #[.val (.ref a1), .val (.double d4), .second, .val (.double (rt_dist d4 d7 d8 d9)), .second] [])) _
    refine XS.aloadN X1.here hx rfl (hb hby d4_7) rfl rfl ?_
    show Steps p.tables e below (T1.setTop (mkF m 8 #[.val (.ref a1), .val (.double d4), .second, .val (.double (rt_dist d4 d7 d8 d9)), .second] [(.ref a1)])) _
    refine st2 _ ?_
    show Steps p.tables e below (T2.setTop (mkF m 11 #[.val (.ref a1), .val (.double d4), .second, .val (.double (rt_dist d4 d7 d8 d9)), .second] [(.double d7)])) _
    refine XS.aloadN X2.here hx rfl (hb hby d4_11) rfl rfl ?_
    show Steps p.tables e below (T2.setTop (mkF m 12 #[.val (.ref a1), .val (.double d4), .second, .val (.double (rt_dist d4 d7 d8 d9)), .second] [(.ref a1), (.double d7)])) _
    refine st3 _ ?_
    show Steps p.tables e below (T3.setTop (mkF m 15 #[.val (.ref a1), .val (.double d4), .second, .val (.double (rt_dist d4 d7 d8 d9)), .second] [(.double d9), (.double d7)])) _
    refine X3.ldc2DoubleC hx hown (mvT hZ (hw _ (List.mem_of_getElem? (i := 25) rfl))) (g := (mkF m 15 #[.val (.ref a1), .val (.double d4), .second, .val (.double (rt_dist d4 d7 d8 d9)), .second] [(.double d9), (.double d7)])) rfl (hb hby d4_15) _ ?_
    show Steps p.tables e below (T3.setTop (mkF m 18 #[.val (.ref a1), .val (.double d4), .second, .val (.double (rt_dist d4 d7 d8 d9)), .second] [(.double (4611686018427387904 : UInt64)), (.double d9), (.double d7)])) _
    refine XS.ddivS X3.here hx rfl (hb hby d4_18) rfl nn18 rfl ?_
    show Steps p.tables e below (T3.setTop (mkF m 19 #[.val (.ref a1), .val (.double d4), .second, .val (.double (rt_dist d4 d7 d8 d9)), .second] [(.double (FP.ddiv d9 (4611686018427387904 : UInt64))), (.double d7)])) _
    refine XS.dloadN X3.here hx rfl (hb hby d4_19) rfl ?_
    show Steps p.tables e below (T3.setTop (mkF m 20 #[.val (.ref a1), .val (.double d4), .second, .val (.double (rt_dist d4 d7 d8 d9)), .second] [(.double (rt_dist d4 d7 d8 d9)), (.double (FP.ddiv d9 (4611686018427387904 : UInt64))), (.double d7)])) _
    refine XS.dmulS X3.here hx rfl (hb hby d4_20) rfl nn20 rfl ?_
    show Steps p.tables e below (T3.setTop (mkF m 21 #[.val (.ref a1), .val (.double d4), .second, .val (.double (rt_dist d4 d7 d8 d9)), .second] [(.double (FP.dmul (FP.ddiv d9 (4611686018427387904 : UInt64)) (rt_dist d4 d7 d8 d9))), (.double d7)])) _
    refine XS.daddS X3.here hx rfl (hb hby d4_21) rfl nn21 rfl ?_
    show Steps p.tables e below (T3.setTop (mkF m 22 #[.val (.ref a1), .val (.double d4), .second, .val (.double (rt_dist d4 d7 d8 d9)), .second] [(.double (FP.dadd d7 (FP.dmul (FP.ddiv d9 (4611686018427387904 : UInt64)) (rt_dist d4 d7 d8 d9))))])) _
    refine XS.dloadN X3.here hx rfl (hb hby d4_22) rfl ?_
    show Steps p.tables e below (T3.setTop (mkF m 23 #[.val (.ref a1), .val (.double d4), .second, .val (.double (rt_dist d4 d7 d8 d9)), .second] [(.double (rt_dist d4 d7 d8 d9)), (.double (FP.dadd d7 (FP.dmul (FP.ddiv d9 (4611686018427387904 : UInt64)) (rt_dist d4 d7 d8 d9))))])) _
    refine XS.dmulS X3.here hx rfl (hb hby d4_23) rfl nn23 rfl ?_
    show Steps p.tables e below (T3.setTop (mkF m 24 #[.val (.ref a1), .val (.double d4), .second, .val (.double (rt_dist d4 d7 d8 d9)), .second] [(.double (FP.dmul (FP.dadd d7 (FP.dmul (FP.ddiv d9 (4611686018427387904 : UInt64)) (rt_dist d4 d7 d8 d9))) (rt_dist d4 d7 d8 d9)))])) _
    exact retOut X3 hx (t := .double) Bd.returns rfl (Or.inr (Or.inr (Or.inl ⟨rfl, rfl, _, rfl⟩))) (hb hby d4_24) hr
  · show Q_rt Z a1 d4 d7 d8 d9 h0 n0 _ T3.heap _
    exact ⟨rfl, N0, e3⟩
theorem ef_lw (m : MethodId) (p1 : Int32) (p2 : Int32) (p3 : Int32) (p4 : Int32) : entryFrame m #[(.int p1), (.int p2), (.int p3), (.int p4)] maxLocals = (mkF m 0 #[.val (.int p1), .val (.int p2), .val (.int p3), .val (.int p4), .unset, .unset, .unset, .unset, .unset, .unset, .unset, .unset, .unset, .unset, .unset, .unset, .unset, .unset, .unset] []) := by first | (simp [entryFrame, mkF, argsToLocals, Value.category, maxLocals]; done) | rfl
def Q_lw (Z : State) (p1 : Int32) (p2 : Int32) (p3 : Int32) (p4 : Int32)  (h0 : Heap) (n0 : Nat) (v : Option Value) (h : Heap) (L : List Loc) : Prop := v = some (.int 1) ∧ Fr n0 L
set_option maxRecDepth 65536 in
set_option maxHeartbeats 40000000 in
theorem rm_lw (l : Launch) (Z : State) (a0 : Array Value) (hw : ∀ d ∈ tables_1, d.before a0 Z = true) (ws : List Jvm.Cond) (p1 : Int32) (p2 : Int32) (p3 : Int32) (p4 : Int32)  (h0 : Heap) (n0 : Nat) (Z0 : n0 ≤ h0.size)    :
    MetFree l x (head1 (Jvm.Cond.code x code maxLocals ret :: ws) room_1) (fun a U => a = #[(.int p1), (.int p2), (.int p3), (.int p4)] ∧ Z.Warmed39 U.vm ∧ U.heap = h0) (fun _ _ _ _ _ => True) (fun _ U o U' => ∃ v L, o = .returned v ∧ Q_lw Z p1 p2 p3 p4  h0 n0 v U'.heap L ∧ FrameEnd U o U' L 1 3) := by
  refine MetFree.of_bodySF (plainFor_of_name pn_0) hisR ?_
  intro p e s m args below meth c s₁ Bd hml0 hP hK
  obtain ⟨rfl, hZ, hh⟩ := hP
  have hx := Bd.exec
  have hby := Bd.bytes
  have hml : c.maxLocals = 19 := hml0
  have hown : s.vm.findClass "com/example/quadratur/quadratur/method/FarEndRiseToPinLaw" = some m.cls := findClass_of_methodNamed Bd.named
  have hnm := (name_of_methodNamed Bd.named Bd.method).1
  have X0 : Stand p l e room_1 s m #[(.int p1), (.int p2), (.int p3), (.int p4)] below meth c s₁ [] 0 0 := Stand.of_body Bd
  have e0 : s₁.heap = h0 := by rw [← hh, Bd.state]; rfl
  have N0 := Fr.nil n0
  have pre0 : ∀ t, Steps p.tables e below (s₁.setTop (mkF m 0 #[.val (.int p1), .val (.int p2), .val (.int p3), .val (.int p4), .unset, .unset, .unset, .unset, .unset, .unset, .unset, .unset, .unset, .unset, .unset, .unset, .unset, .unset, .unset] [])) t → Steps p.tables e below (s₁.setTop (entryFrame m #[(.int p1), (.int p2), (.int p3), (.int p4)] maxLocals)) t := fun t k => castTop (ef_lw m p1 p2 p3 p4) k
  obtain ⟨_, _, ⟨T1, L1, k1, n1⟩, -, X1, ⟨Lc1, hQ1, l1, y1, z1⟩, st1⟩ := Jvm.LawKit.callS X0 hx (y := (⟨"com/example/quadratur/quadratur/method/FarEndRiseToPinLaw", "signed11", "(I)J"⟩ : MethodName)) hown (mvT hZ (hw _ (List.mem_of_getElem? (i := 0) rfl))) (mvT hZ (hw _ (List.mem_of_getElem? (i := 1) rfl))) (mvT hZ (hw _ (List.mem_of_getElem? (i := 2) rfl))) (mvT hZ (hw _ (List.mem_of_getElem? (i := 3) rfl))) (by decide) (backOf (W := 0) (rm_sg l Z a0 hw [] p1  (h0) n0 Z0  ) hZ (hw _ (List.mem_of_getElem? (i := 3) rfl)) (hw _ (List.mem_of_getElem? (i := 2) rfl)) (by decide) (by decide)) (g := (mkF m 1 #[.val (.int p1), .val (.int p2), .val (.int p3), .val (.int p4), .unset, .unset, .unset, .unset, .unset, .unset, .unset, .unset, .unset, .unset, .unset, .unset, .unset, .unset, .unset] [(.int p1)])) rfl (by rw [hml]; rfl) (argsL := [(.int p1)]) (rest := []) (lenOf pd_0 rfl) rfl (by show 2 * 0 + _ ≤ _; exact Nat.le_of_eq rfl) (hb hby at_1) (fun _ _ => ⟨rfl, e0, (by decide : 0 + 0 ≤ _), (by decide : 0 + 0 ≤ _)⟩)
  dsimp only [Pt.U, Pt.locs, Pt.cells, Pt.slots] at X1 l1 y1 z1 st1 hQ1
  subst l1 y1 z1
  obtain ⟨rfl, N1, e1⟩ := hQ1
  have Nn1 := Fr.app N0 N1
  obtain ⟨_, _, ⟨T2, L2, k2, n2⟩, -, X2, ⟨Lc2, hQ2, l2, y2, z2⟩, st2⟩ := Jvm.LawKit.callS X1 hx (y := (⟨"com/example/quadratur/quadratur/method/FarEndRiseToPinLaw", "signed11", "(I)J"⟩ : MethodName)) hown (mvT hZ (hw _ (List.mem_of_getElem? (i := 0) rfl))) (mvT hZ (hw _ (List.mem_of_getElem? (i := 1) rfl))) (mvT hZ (hw _ (List.mem_of_getElem? (i := 2) rfl))) (mvT hZ (hw _ (List.mem_of_getElem? (i := 3) rfl))) (by decide) (backOf (W := 0) (rm_sg l Z a0 hw [] p2  (h0) n0 Z0  ) hZ (hw _ (List.mem_of_getElem? (i := 3) rfl)) (hw _ (List.mem_of_getElem? (i := 2) rfl)) (by decide) (by decide)) (g := (mkF m 7 #[.val (.int p1), .val (.int p2), .val (.int p3), .val (.int p4), .val (.long (lw_s p1 p2 p3 p4)), .second, .unset, .unset, .unset, .unset, .unset, .unset, .unset, .unset, .unset, .unset, .unset, .unset, .unset] [(.int p2)])) rfl (by rw [hml]; rfl) (argsL := [(.int p2)]) (rest := []) (lenOf pd_0 rfl) rfl (by show 2 * 0 + _ ≤ _; exact Nat.le_of_eq rfl) (hb hby at_7) (fun _ _ => ⟨rfl, e1, (by decide : 0 + 0 ≤ _), (by decide : 0 + 0 ≤ _)⟩)
  dsimp only [Pt.U, Pt.locs, Pt.cells, Pt.slots] at X2 l2 y2 z2 st2 hQ2
  subst l2 y2 z2
  obtain ⟨rfl, N2, e2⟩ := hQ2
  have Nn2 := Fr.app Nn1 N2
  obtain ⟨_, _, ⟨T3, L3, k3, n3⟩, -, X3, ⟨Lc3, hQ3, l3, y3, z3⟩, st3⟩ := Jvm.LawKit.callS X2 hx (y := (⟨"com/example/quadratur/quadratur/method/FarEndRiseToPinLaw", "signed11", "(I)J"⟩ : MethodName)) hown (mvT hZ (hw _ (List.mem_of_getElem? (i := 0) rfl))) (mvT hZ (hw _ (List.mem_of_getElem? (i := 1) rfl))) (mvT hZ (hw _ (List.mem_of_getElem? (i := 2) rfl))) (mvT hZ (hw _ (List.mem_of_getElem? (i := 3) rfl))) (by decide) (backOf (W := 0) (rm_sg l Z a0 hw [] p3  (h0) n0 Z0  ) hZ (hw _ (List.mem_of_getElem? (i := 3) rfl)) (hw _ (List.mem_of_getElem? (i := 2) rfl)) (by decide) (by decide)) (g := (mkF m 13 #[.val (.int p1), .val (.int p2), .val (.int p3), .val (.int p4), .val (.long (lw_s p1 p2 p3 p4)), .second, .val (.long (lw_a p1 p2 p3 p4)), .second, .unset, .unset, .unset, .unset, .unset, .unset, .unset, .unset, .unset, .unset, .unset] [(.int p3)])) rfl (by rw [hml]; rfl) (argsL := [(.int p3)]) (rest := []) (lenOf pd_0 rfl) rfl (by show 2 * 0 + _ ≤ _; exact Nat.le_of_eq rfl) (hb hby at_13) (fun _ _ => ⟨rfl, e2, (by decide : 0 + 0 ≤ _), (by decide : 0 + 0 ≤ _)⟩)
  dsimp only [Pt.U, Pt.locs, Pt.cells, Pt.slots] at X3 l3 y3 z3 st3 hQ3
  subst l3 y3 z3
  obtain ⟨rfl, N3, e3⟩ := hQ3
  have Nn3 := Fr.app Nn2 N3
  obtain ⟨_, _, ⟨T4, L4, k4, n4⟩, -, X4, ⟨Lc4, hQ4, l4, y4, z4⟩, st4⟩ := Jvm.LawKit.callS X3 hx (y := (⟨"com/example/quadratur/quadratur/method/FarEndRiseToPinLaw", "signed11", "(I)J"⟩ : MethodName)) hown (mvT hZ (hw _ (List.mem_of_getElem? (i := 0) rfl))) (mvT hZ (hw _ (List.mem_of_getElem? (i := 1) rfl))) (mvT hZ (hw _ (List.mem_of_getElem? (i := 2) rfl))) (mvT hZ (hw _ (List.mem_of_getElem? (i := 3) rfl))) (by decide) (backOf (W := 0) (rm_sg l Z a0 hw [] p4  (h0) n0 Z0  ) hZ (hw _ (List.mem_of_getElem? (i := 3) rfl)) (hw _ (List.mem_of_getElem? (i := 2) rfl)) (by decide) (by decide)) (g := (mkF m 19 #[.val (.int p1), .val (.int p2), .val (.int p3), .val (.int p4), .val (.long (lw_s p1 p2 p3 p4)), .second, .val (.long (lw_a p1 p2 p3 p4)), .second, .val (.long (lw_c p1 p2 p3 p4)), .second, .unset, .unset, .unset, .unset, .unset, .unset, .unset, .unset, .unset] [(.int p4)])) rfl (by rw [hml]; rfl) (argsL := [(.int p4)]) (rest := []) (lenOf pd_0 rfl) rfl (by show 2 * 0 + _ ≤ _; exact Nat.le_of_eq rfl) (hb hby at_19) (fun _ _ => ⟨rfl, e3, (by decide : 0 + 0 ≤ _), (by decide : 0 + 0 ≤ _)⟩)
  dsimp only [Pt.U, Pt.locs, Pt.cells, Pt.slots] at X4 l4 y4 z4 st4 hQ4
  subst l4 y4 z4
  obtain ⟨rfl, N4, e4⟩ := hQ4
  have Nn4 := Fr.app Nn3 N4
  obtain ⟨T5, h5, X5, e5, E5, A5, D5, -, st5⟩ := newO X4 hx hZ hown (hw _ (List.mem_of_getElem? (i := 4) rfl)) (hw _ (List.mem_of_getElem? (i := 5) rfl)) (hw _ (List.mem_of_getElem? (i := 6) rfl)) e4 (g := (mkF m 24 #[.val (.int p1), .val (.int p2), .val (.int p3), .val (.int p4), .val (.long (lw_s p1 p2 p3 p4)), .second, .val (.long (lw_a p1 p2 p3 p4)), .second, .val (.long (lw_c p1 p2 p3 p4)), .second, .val (.long (lw_x p1 p2 p3 p4)), .second, .unset, .unset, .unset, .unset, .unset, .unset, .unset] [])) rfl (hb hby at_24) (by decide) (by decide)
  obtain ⟨ad5, g5⟩ : ∃ z, z = (h0).size := ⟨_, rfl⟩
  rw [← g5] at A5 D5 st5
  have F5_0 : Fld Z h5 ad5 "com/example/quadratur/quadratur/method/GaussKronrod$FarEnd" "slope" "D" (.double (0 : UInt64)) := (D5 (Or.inr (hw _ (List.mem_of_getElem? (i := 15) rfl))) (ty := .double) (by decide))
  have F5_1 : Fld Z h5 ad5 "com/example/quadratur/quadratur/method/GaussKronrod$FarEnd" "slopeAt" "D" (.double (0 : UInt64)) := (D5 (Or.inr (hw _ (List.mem_of_getElem? (i := 17) rfl))) (ty := .double) (by decide))
  have F5_2 : Fld Z h5 ad5 "com/example/quadratur/quadratur/method/GaussKronrod$FarEnd" "curvature" "D" (.double (0 : UInt64)) := (D5 (Or.inr (hw _ (List.mem_of_getElem? (i := 19) rfl))) (ty := .double) (by decide))
  have Z5 : n0 ≤ h5.size := Nat.le_trans Z0 E5.1
  have gn5 : n0 ≤ ad5 := Nat.le_trans Z0 (Nat.le_of_eq g5.symm)
  obtain ⟨_, _, ⟨T6, L6, k6, n6⟩, -, X6, ⟨Lc6, hQ6, l6, y6, z6⟩, st6⟩ := X5.specialBack hx (y := (⟨"com/example/quadratur/quadratur/method/GaussKronrod$FarEnd", "<init>", "(DDD)V"⟩ : MethodName)) rfl hown (mvT hZ (hw _ (List.mem_of_getElem? (i := 8) rfl))) (mvT hZ (hw _ (List.mem_of_getElem? (i := 9) rfl))) (mvT hZ (hw _ (List.mem_of_getElem? (i := 10) rfl))) (by decide) (backOf (W := 1) (rm_ini l Z a0 hw [] ad5 (FP.l2d (lw_s p1 p2 p3 p4)) (FP.ddiv (FP.l2d (lw_a p1 p2 p3 p4)) (4616189618054758400 : UInt64)) (FP.l2d (lw_c p1 p2 p3 p4))  (h5) n0 Z5 F5_0 F5_1 F5_2 A5 gn5 ) hZ (hw _ (List.mem_of_getElem? (i := 10) rfl)) (hw _ (List.mem_of_getElem? (i := 6) rfl)) (by decide) (by decide)) (g := (mkF m 41 #[.val (.int p1), .val (.int p2), .val (.int p3), .val (.int p4), .val (.long (lw_s p1 p2 p3 p4)), .second, .val (.long (lw_a p1 p2 p3 p4)), .second, .val (.long (lw_c p1 p2 p3 p4)), .second, .val (.long (lw_x p1 p2 p3 p4)), .second, .unset, .unset, .unset, .unset, .unset, .unset, .unset] [(.double (FP.l2d (lw_c p1 p2 p3 p4))), (.double (FP.ddiv (FP.l2d (lw_a p1 p2 p3 p4)) (4616189618054758400 : UInt64))), (.double (FP.l2d (lw_s p1 p2 p3 p4))), (.ref ad5), (.ref ad5)])) rfl (by rw [hml]; rfl) (Steps.refl _) (a := ad5) (argsL := [(.double (FP.l2d (lw_s p1 p2 p3 p4))), (.double (FP.ddiv (FP.l2d (lw_a p1 p2 p3 p4)) (4616189618054758400 : UInt64))), (.double (FP.l2d (lw_c p1 p2 p3 p4)))]) (rest := [(.ref ad5)]) (lenOf pd_1 rfl) rfl (by show 2 * 0 + _ ≤ _; exact Nat.le_of_eq rfl) (hb hby at_41) (fun _ _ => ⟨rfl, e5, (by decide : 1 + 0 ≤ _), (by decide : 3 + 0 ≤ _)⟩)
  dsimp only [Pt.U, Pt.locs, Pt.cells, Pt.slots] at X6 l6 y6 z6 st6 hQ6
  subst l6 y6 z6
  obtain ⟨rfl, N6, K6, p6_0, p6_1, p6_2, p6_3⟩ := hQ6
  have Nn6 := Fr.app Nn4 N6
  have Z6 : n0 ≤ T6.heap.size := Nat.le_trans Z5 K6.1
  obtain ⟨cq7, kq7, qa7, qb7, qc7⟩ := isOf hZ rfl p6_0
  obtain ⟨_, _, ⟨T7, L7, k7, n7⟩, -, X7, ⟨Lc7, hQ7, l7, y7, z7⟩, st7⟩ := X6.virtualBack hx (y := (⟨"com/example/quadratur/quadratur/method/GaussKronrod$FarEnd", "riseTo", "(D)D"⟩ : MethodName)) (z := (⟨"com/example/quadratur/quadratur/method/GaussKronrod$FarEnd", "riseTo", "(D)D"⟩ : MethodName)) hown (mvT hZ (hw _ (List.mem_of_getElem? (i := 20) rfl))) (mvT hZ (hw _ (List.mem_of_getElem? (i := 21) rfl))) (notFace_of_selects (args := #[]) (mvT hZ (hw _ (List.mem_of_getElem? (i := 23) rfl)))) (mvT hZ (hw _ (List.mem_of_getElem? (i := 23) rfl))) (mvT hZ (hw _ (List.mem_of_getElem? (i := 22) rfl))) (by decide) (backOf (W := 0) (rm_rt l Z a0 hw [] ad5 (FP.ddiv (FP.l2d (lw_x p1 p2 p3 p4)) (4616189618054758400 : UInt64)) (FP.l2d (lw_s p1 p2 p3 p4)) (FP.ddiv (FP.l2d (lw_a p1 p2 p3 p4)) (4616189618054758400 : UInt64)) (FP.l2d (lw_c p1 p2 p3 p4)) (T6.heap) n0 Z6 p6_1 p6_2 p6_3 (own_all p1 p2 p3 p4).1.nn (own_all p1 p2 p3 p4).2.1.nn (own_all p1 p2 p3 p4).2.2.1.nn (own_all p1 p2 p3 p4).2.2.2.1.nn (own_all p1 p2 p3 p4).2.2.2.2.nn) hZ (hw _ (List.mem_of_getElem? (i := 24) rfl)) (hw _ (List.mem_of_getElem? (i := 6) rfl)) (by decide) (by decide)) qa7 qc7 (g := (mkF m 55 #[.val (.int p1), .val (.int p2), .val (.int p3), .val (.int p4), .val (.long (lw_s p1 p2 p3 p4)), .second, .val (.long (lw_a p1 p2 p3 p4)), .second, .val (.long (lw_c p1 p2 p3 p4)), .second, .val (.long (lw_x p1 p2 p3 p4)), .second, .val (.ref ad5), .unset, .unset, .unset, .unset, .unset, .unset] [(.double (FP.ddiv (FP.l2d (lw_x p1 p2 p3 p4)) (4616189618054758400 : UInt64))), (.ref ad5)])) rfl (by rw [hml]; rfl) (Steps.refl _) (argsL := [(.double (FP.ddiv (FP.l2d (lw_x p1 p2 p3 p4)) (4616189618054758400 : UInt64)))]) (rest := []) (lenOf pd_2 rfl) rfl (by show 2 * 0 + _ ≤ _; exact Nat.le_of_eq rfl) (hb hby at_55) (fun _ _ => ⟨rfl, rfl, (by decide : 1 + 0 ≤ _), (by decide : 3 + 0 ≤ _)⟩)
  dsimp only [Pt.U, Pt.locs, Pt.cells, Pt.slots] at X7 l7 y7 z7 st7 hQ7
  subst l7 y7 z7
  obtain ⟨rfl, N7, e7⟩ := hQ7
  have Nn7 := Fr.app Nn6 N7
  obtain ⟨fs, hr, hrun, hended, hW, hsame⟩ := X7.leave (v := some (.int (1 : Int32))) (fun h => by rw [Bd.returns] at h; cases h)
  refine ⟨_, _, pre0 _ ?_, hrun, hended, _, _, rfl, ?_, ⟨_, rfl⟩, hW, hsame.mono (Nat.le_of_ble_eq_true rfl) (Nat.le_of_ble_eq_true rfl)⟩
  · show Steps p.tables e below (s₁.setTop (mkF m 0 #[.val (.int p1), .val (.int p2), .val (.int p3), .val (.int p4), .unset, .unset, .unset, .unset, .unset, .unset, .unset, .unset, .unset, .unset, .unset, .unset, .unset, .unset, .unset] [])) _
    refine XS.iloadN X0.here hx rfl (hb hby at_0) rfl ?_
    show Steps p.tables e below (s₁.setTop (mkF m 1 #[.val (.int p1), .val (.int p2), .val (.int p3), .val (.int p4), .unset, .unset, .unset, .unset, .unset, .unset, .unset, .unset, .unset, .unset, .unset, .unset, .unset, .unset, .unset] [(.int p1)])) _
    refine st1 _ ?_
    show Steps p.tables e below (T1.setTop (mkF m 4 #[.val (.int p1), .val (.int p2), .val (.int p3), .val (.int p4), .unset, .unset, .unset, .unset, .unset, .unset, .unset, .unset, .unset, .unset, .unset, .unset, .unset, .unset, .unset] [(.long (Int32.toInt64 ((p1 <<< ((21 : Int32) &&& 31)) >>> ((21 : Int32) &&& 31))))])) _
    refine XT.lstore X1.here hx rfl (hb hby at_4) rfl (l' := #[.val (.int p1), .val (.int p2), .val (.int p3), .val (.int p4), .val (.long (lw_s p1 p2 p3 p4)), .second, .unset, .unset, .unset, .unset, .unset, .unset, .unset, .unset, .unset, .unset, .unset, .unset, .unset]) rfl ?_
    show Steps p.tables e below (T1.setTop (mkF m 6 #[.val (.int p1), .val (.int p2), .val (.int p3), .val (.int p4), .val (.long (lw_s p1 p2 p3 p4)), .second, .unset, .unset, .unset, .unset, .unset, .unset, .unset, .unset, .unset, .unset, .unset, .unset, .unset] [])) _
    refine XS.iloadN X1.here hx rfl (hb hby at_6) rfl ?_
    show Steps p.tables e below (T1.setTop (mkF m 7 #[.val (.int p1), .val (.int p2), .val (.int p3), .val (.int p4), .val (.long (lw_s p1 p2 p3 p4)), .second, .unset, .unset, .unset, .unset, .unset, .unset, .unset, .unset, .unset, .unset, .unset, .unset, .unset] [(.int p2)])) _
    refine st2 _ ?_
    show Steps p.tables e below (T2.setTop (mkF m 10 #[.val (.int p1), .val (.int p2), .val (.int p3), .val (.int p4), .val (.long (lw_s p1 p2 p3 p4)), .second, .unset, .unset, .unset, .unset, .unset, .unset, .unset, .unset, .unset, .unset, .unset, .unset, .unset] [(.long (Int32.toInt64 ((p2 <<< ((21 : Int32) &&& 31)) >>> ((21 : Int32) &&& 31))))])) _
    refine XT.lstore X2.here hx rfl (hb hby at_10) rfl (l' := #[.val (.int p1), .val (.int p2), .val (.int p3), .val (.int p4), .val (.long (lw_s p1 p2 p3 p4)), .second, .val (.long (lw_a p1 p2 p3 p4)), .second, .unset, .unset, .unset, .unset, .unset, .unset, .unset, .unset, .unset, .unset, .unset]) rfl ?_
    show Steps p.tables e below (T2.setTop (mkF m 12 #[.val (.int p1), .val (.int p2), .val (.int p3), .val (.int p4), .val (.long (lw_s p1 p2 p3 p4)), .second, .val (.long (lw_a p1 p2 p3 p4)), .second, .unset, .unset, .unset, .unset, .unset, .unset, .unset, .unset, .unset, .unset, .unset] [])) _
    refine XS.iloadN X2.here hx rfl (hb hby at_12) rfl ?_
    show Steps p.tables e below (T2.setTop (mkF m 13 #[.val (.int p1), .val (.int p2), .val (.int p3), .val (.int p4), .val (.long (lw_s p1 p2 p3 p4)), .second, .val (.long (lw_a p1 p2 p3 p4)), .second, .unset, .unset, .unset, .unset, .unset, .unset, .unset, .unset, .unset, .unset, .unset] [(.int p3)])) _
    refine st3 _ ?_
    show Steps p.tables e below (T3.setTop (mkF m 16 #[.val (.int p1), .val (.int p2), .val (.int p3), .val (.int p4), .val (.long (lw_s p1 p2 p3 p4)), .second, .val (.long (lw_a p1 p2 p3 p4)), .second, .unset, .unset, .unset, .unset, .unset, .unset, .unset, .unset, .unset, .unset, .unset] [(.long (Int32.toInt64 ((p3 <<< ((21 : Int32) &&& 31)) >>> ((21 : Int32) &&& 31))))])) _
    refine XT.lstore X3.here hx rfl (hb hby at_16) rfl (l' := #[.val (.int p1), .val (.int p2), .val (.int p3), .val (.int p4), .val (.long (lw_s p1 p2 p3 p4)), .second, .val (.long (lw_a p1 p2 p3 p4)), .second, .val (.long (lw_c p1 p2 p3 p4)), .second, .unset, .unset, .unset, .unset, .unset, .unset, .unset, .unset, .unset]) rfl ?_
    show Steps p.tables e below (T3.setTop (mkF m 18 #[.val (.int p1), .val (.int p2), .val (.int p3), .val (.int p4), .val (.long (lw_s p1 p2 p3 p4)), .second, .val (.long (lw_a p1 p2 p3 p4)), .second, .val (.long (lw_c p1 p2 p3 p4)), .second, .unset, .unset, .unset, .unset, .unset, .unset, .unset, .unset, .unset] [])) _
    refine XS.iloadN X3.here hx rfl (hb hby at_18) rfl ?_
    show Steps p.tables e below (T3.setTop (mkF m 19 #[.val (.int p1), .val (.int p2), .val (.int p3), .val (.int p4), .val (.long (lw_s p1 p2 p3 p4)), .second, .val (.long (lw_a p1 p2 p3 p4)), .second, .val (.long (lw_c p1 p2 p3 p4)), .second, .unset, .unset, .unset, .unset, .unset, .unset, .unset, .unset, .unset] [(.int p4)])) _
    refine st4 _ ?_
    show Steps p.tables e below (T4.setTop (mkF m 22 #[.val (.int p1), .val (.int p2), .val (.int p3), .val (.int p4), .val (.long (lw_s p1 p2 p3 p4)), .second, .val (.long (lw_a p1 p2 p3 p4)), .second, .val (.long (lw_c p1 p2 p3 p4)), .second, .unset, .unset, .unset, .unset, .unset, .unset, .unset, .unset, .unset] [(.long (Int32.toInt64 ((p4 <<< ((21 : Int32) &&& 31)) >>> ((21 : Int32) &&& 31))))])) _
    refine XT.lstore X4.here hx rfl (hb hby at_22) rfl (l' := #[.val (.int p1), .val (.int p2), .val (.int p3), .val (.int p4), .val (.long (lw_s p1 p2 p3 p4)), .second, .val (.long (lw_a p1 p2 p3 p4)), .second, .val (.long (lw_c p1 p2 p3 p4)), .second, .val (.long (lw_x p1 p2 p3 p4)), .second, .unset, .unset, .unset, .unset, .unset, .unset, .unset]) rfl ?_
    show Steps p.tables e below (T4.setTop (mkF m 24 #[.val (.int p1), .val (.int p2), .val (.int p3), .val (.int p4), .val (.long (lw_s p1 p2 p3 p4)), .second, .val (.long (lw_a p1 p2 p3 p4)), .second, .val (.long (lw_c p1 p2 p3 p4)), .second, .val (.long (lw_x p1 p2 p3 p4)), .second, .unset, .unset, .unset, .unset, .unset, .unset, .unset] [])) _
    refine st5 _ ?_
    show Steps p.tables e below (T5.setTop (mkF m 27 #[.val (.int p1), .val (.int p2), .val (.int p3), .val (.int p4), .val (.long (lw_s p1 p2 p3 p4)), .second, .val (.long (lw_a p1 p2 p3 p4)), .second, .val (.long (lw_c p1 p2 p3 p4)), .second, .val (.long (lw_x p1 p2 p3 p4)), .second, .unset, .unset, .unset, .unset, .unset, .unset, .unset] [(.ref ad5)])) _
    refine XS.dup X5.here hx rfl (hb hby at_27) rfl rfl ?_
    show Steps p.tables e below (T5.setTop (mkF m 28 #[.val (.int p1), .val (.int p2), .val (.int p3), .val (.int p4), .val (.long (lw_s p1 p2 p3 p4)), .second, .val (.long (lw_a p1 p2 p3 p4)), .second, .val (.long (lw_c p1 p2 p3 p4)), .second, .val (.long (lw_x p1 p2 p3 p4)), .second, .unset, .unset, .unset, .unset, .unset, .unset, .unset] [(.ref ad5), (.ref ad5)])) _
    refine XT.lload X5.here hx rfl (hb hby at_28) rfl ?_
    show Steps p.tables e below (T5.setTop (mkF m 30 #[.val (.int p1), .val (.int p2), .val (.int p3), .val (.int p4), .val (.long (lw_s p1 p2 p3 p4)), .second, .val (.long (lw_a p1 p2 p3 p4)), .second, .val (.long (lw_c p1 p2 p3 p4)), .second, .val (.long (lw_x p1 p2 p3 p4)), .second, .unset, .unset, .unset, .unset, .unset, .unset, .unset] [(.long (lw_s p1 p2 p3 p4)), (.ref ad5), (.ref ad5)])) _
    refine XS.l2dS X5.here hx rfl (hb hby at_30) rfl rfl ?_
    show Steps p.tables e below (T5.setTop (mkF m 31 #[.val (.int p1), .val (.int p2), .val (.int p3), .val (.int p4), .val (.long (lw_s p1 p2 p3 p4)), .second, .val (.long (lw_a p1 p2 p3 p4)), .second, .val (.long (lw_c p1 p2 p3 p4)), .second, .val (.long (lw_x p1 p2 p3 p4)), .second, .unset, .unset, .unset, .unset, .unset, .unset, .unset] [(.double (FP.l2d (lw_s p1 p2 p3 p4))), (.ref ad5), (.ref ad5)])) _
    refine XT.lload X5.here hx rfl (hb hby at_31) rfl ?_
    show Steps p.tables e below (T5.setTop (mkF m 33 #[.val (.int p1), .val (.int p2), .val (.int p3), .val (.int p4), .val (.long (lw_s p1 p2 p3 p4)), .second, .val (.long (lw_a p1 p2 p3 p4)), .second, .val (.long (lw_c p1 p2 p3 p4)), .second, .val (.long (lw_x p1 p2 p3 p4)), .second, .unset, .unset, .unset, .unset, .unset, .unset, .unset] [(.long (lw_a p1 p2 p3 p4)), (.double (FP.l2d (lw_s p1 p2 p3 p4))), (.ref ad5), (.ref ad5)])) _
    refine XS.l2dS X5.here hx rfl (hb hby at_33) rfl rfl ?_
    show Steps p.tables e below (T5.setTop (mkF m 34 #[.val (.int p1), .val (.int p2), .val (.int p3), .val (.int p4), .val (.long (lw_s p1 p2 p3 p4)), .second, .val (.long (lw_a p1 p2 p3 p4)), .second, .val (.long (lw_c p1 p2 p3 p4)), .second, .val (.long (lw_x p1 p2 p3 p4)), .second, .unset, .unset, .unset, .unset, .unset, .unset, .unset] [(.double (FP.l2d (lw_a p1 p2 p3 p4))), (.double (FP.l2d (lw_s p1 p2 p3 p4))), (.ref ad5), (.ref ad5)])) _
    refine X5.ldc2DoubleC hx hown (mvT hZ (hw _ (List.mem_of_getElem? (i := 7) rfl))) (g := (mkF m 34 #[.val (.int p1), .val (.int p2), .val (.int p3), .val (.int p4), .val (.long (lw_s p1 p2 p3 p4)), .second, .val (.long (lw_a p1 p2 p3 p4)), .second, .val (.long (lw_c p1 p2 p3 p4)), .second, .val (.long (lw_x p1 p2 p3 p4)), .second, .unset, .unset, .unset, .unset, .unset, .unset, .unset] [(.double (FP.l2d (lw_a p1 p2 p3 p4))), (.double (FP.l2d (lw_s p1 p2 p3 p4))), (.ref ad5), (.ref ad5)])) rfl (hb hby at_34) _ ?_
    show Steps p.tables e below (T5.setTop (mkF m 37 #[.val (.int p1), .val (.int p2), .val (.int p3), .val (.int p4), .val (.long (lw_s p1 p2 p3 p4)), .second, .val (.long (lw_a p1 p2 p3 p4)), .second, .val (.long (lw_c p1 p2 p3 p4)), .second, .val (.long (lw_x p1 p2 p3 p4)), .second, .unset, .unset, .unset, .unset, .unset, .unset, .unset] [(.double (4616189618054758400 : UInt64)), (.double (FP.l2d (lw_a p1 p2 p3 p4))), (.double (FP.l2d (lw_s p1 p2 p3 p4))), (.ref ad5), (.ref ad5)])) _
    refine XS.ddivS X5.here hx rfl (hb hby at_37) rfl (own_quarter (own_a p1 p2 p3 p4)).nn rfl ?_
    show Steps p.tables e below (T5.setTop (mkF m 38 #[.val (.int p1), .val (.int p2), .val (.int p3), .val (.int p4), .val (.long (lw_s p1 p2 p3 p4)), .second, .val (.long (lw_a p1 p2 p3 p4)), .second, .val (.long (lw_c p1 p2 p3 p4)), .second, .val (.long (lw_x p1 p2 p3 p4)), .second, .unset, .unset, .unset, .unset, .unset, .unset, .unset] [(.double (FP.ddiv (FP.l2d (lw_a p1 p2 p3 p4)) (4616189618054758400 : UInt64))), (.double (FP.l2d (lw_s p1 p2 p3 p4))), (.ref ad5), (.ref ad5)])) _
    refine XT.lload X5.here hx rfl (hb hby at_38) rfl ?_
    show Steps p.tables e below (T5.setTop (mkF m 40 #[.val (.int p1), .val (.int p2), .val (.int p3), .val (.int p4), .val (.long (lw_s p1 p2 p3 p4)), .second, .val (.long (lw_a p1 p2 p3 p4)), .second, .val (.long (lw_c p1 p2 p3 p4)), .second, .val (.long (lw_x p1 p2 p3 p4)), .second, .unset, .unset, .unset, .unset, .unset, .unset, .unset] [(.long (lw_c p1 p2 p3 p4)), (.double (FP.ddiv (FP.l2d (lw_a p1 p2 p3 p4)) (4616189618054758400 : UInt64))), (.double (FP.l2d (lw_s p1 p2 p3 p4))), (.ref ad5), (.ref ad5)])) _
    refine XS.l2dS X5.here hx rfl (hb hby at_40) rfl rfl ?_
    show Steps p.tables e below (T5.setTop (mkF m 41 #[.val (.int p1), .val (.int p2), .val (.int p3), .val (.int p4), .val (.long (lw_s p1 p2 p3 p4)), .second, .val (.long (lw_a p1 p2 p3 p4)), .second, .val (.long (lw_c p1 p2 p3 p4)), .second, .val (.long (lw_x p1 p2 p3 p4)), .second, .unset, .unset, .unset, .unset, .unset, .unset, .unset] [(.double (FP.l2d (lw_c p1 p2 p3 p4))), (.double (FP.ddiv (FP.l2d (lw_a p1 p2 p3 p4)) (4616189618054758400 : UInt64))), (.double (FP.l2d (lw_s p1 p2 p3 p4))), (.ref ad5), (.ref ad5)])) _
    refine st6.trans ?_
    show Steps p.tables e below (T6.setTop (mkF m 44 #[.val (.int p1), .val (.int p2), .val (.int p3), .val (.int p4), .val (.long (lw_s p1 p2 p3 p4)), .second, .val (.long (lw_a p1 p2 p3 p4)), .second, .val (.long (lw_c p1 p2 p3 p4)), .second, .val (.long (lw_x p1 p2 p3 p4)), .second, .unset, .unset, .unset, .unset, .unset, .unset, .unset] [(.ref ad5)])) _
    refine XS.astore X6.here hx rfl (hb hby at_44) rfl rfl (l' := #[.val (.int p1), .val (.int p2), .val (.int p3), .val (.int p4), .val (.long (lw_s p1 p2 p3 p4)), .second, .val (.long (lw_a p1 p2 p3 p4)), .second, .val (.long (lw_c p1 p2 p3 p4)), .second, .val (.long (lw_x p1 p2 p3 p4)), .second, .val (.ref ad5), .unset, .unset, .unset, .unset, .unset, .unset]) rfl ?_
    show Steps p.tables e below (T6.setTop (mkF m 46 #[.val (.int p1), .val (.int p2), .val (.int p3), .val (.int p4), .val (.long (lw_s p1 p2 p3 p4)), .second, .val (.long (lw_a p1 p2 p3 p4)), .second, .val (.long (lw_c p1 p2 p3 p4)), .second, .val (.long (lw_x p1 p2 p3 p4)), .second, .val (.ref ad5), .unset, .unset, .unset, .unset, .unset, .unset] [])) _
    refine XS.aload X6.here hx rfl (hb hby at_46) rfl rfl ?_
    show Steps p.tables e below (T6.setTop (mkF m 48 #[.val (.int p1), .val (.int p2), .val (.int p3), .val (.int p4), .val (.long (lw_s p1 p2 p3 p4)), .second, .val (.long (lw_a p1 p2 p3 p4)), .second, .val (.long (lw_c p1 p2 p3 p4)), .second, .val (.long (lw_x p1 p2 p3 p4)), .second, .val (.ref ad5), .unset, .unset, .unset, .unset, .unset, .unset] [(.ref ad5)])) _
    refine XT.lload X6.here hx rfl (hb hby at_48) rfl ?_
    show Steps p.tables e below (T6.setTop (mkF m 50 #[.val (.int p1), .val (.int p2), .val (.int p3), .val (.int p4), .val (.long (lw_s p1 p2 p3 p4)), .second, .val (.long (lw_a p1 p2 p3 p4)), .second, .val (.long (lw_c p1 p2 p3 p4)), .second, .val (.long (lw_x p1 p2 p3 p4)), .second, .val (.ref ad5), .unset, .unset, .unset, .unset, .unset, .unset] [(.long (lw_x p1 p2 p3 p4)), (.ref ad5)])) _
    refine XS.l2dS X6.here hx rfl (hb hby at_50) rfl rfl ?_
    show Steps p.tables e below (T6.setTop (mkF m 51 #[.val (.int p1), .val (.int p2), .val (.int p3), .val (.int p4), .val (.long (lw_s p1 p2 p3 p4)), .second, .val (.long (lw_a p1 p2 p3 p4)), .second, .val (.long (lw_c p1 p2 p3 p4)), .second, .val (.long (lw_x p1 p2 p3 p4)), .second, .val (.ref ad5), .unset, .unset, .unset, .unset, .unset, .unset] [(.double (FP.l2d (lw_x p1 p2 p3 p4))), (.ref ad5)])) _
    refine X6.ldc2DoubleC hx hown (mvT hZ (hw _ (List.mem_of_getElem? (i := 7) rfl))) (g := (mkF m 51 #[.val (.int p1), .val (.int p2), .val (.int p3), .val (.int p4), .val (.long (lw_s p1 p2 p3 p4)), .second, .val (.long (lw_a p1 p2 p3 p4)), .second, .val (.long (lw_c p1 p2 p3 p4)), .second, .val (.long (lw_x p1 p2 p3 p4)), .second, .val (.ref ad5), .unset, .unset, .unset, .unset, .unset, .unset] [(.double (FP.l2d (lw_x p1 p2 p3 p4))), (.ref ad5)])) rfl (hb hby at_51) _ ?_
    show Steps p.tables e below (T6.setTop (mkF m 54 #[.val (.int p1), .val (.int p2), .val (.int p3), .val (.int p4), .val (.long (lw_s p1 p2 p3 p4)), .second, .val (.long (lw_a p1 p2 p3 p4)), .second, .val (.long (lw_c p1 p2 p3 p4)), .second, .val (.long (lw_x p1 p2 p3 p4)), .second, .val (.ref ad5), .unset, .unset, .unset, .unset, .unset, .unset] [(.double (4616189618054758400 : UInt64)), (.double (FP.l2d (lw_x p1 p2 p3 p4))), (.ref ad5)])) _
    refine XS.ddivS X6.here hx rfl (hb hby at_54) rfl (own_quarter (own_x p1 p2 p3 p4)).nn rfl ?_
    show Steps p.tables e below (T6.setTop (mkF m 55 #[.val (.int p1), .val (.int p2), .val (.int p3), .val (.int p4), .val (.long (lw_s p1 p2 p3 p4)), .second, .val (.long (lw_a p1 p2 p3 p4)), .second, .val (.long (lw_c p1 p2 p3 p4)), .second, .val (.long (lw_x p1 p2 p3 p4)), .second, .val (.ref ad5), .unset, .unset, .unset, .unset, .unset, .unset] [(.double (FP.ddiv (FP.l2d (lw_x p1 p2 p3 p4)) (4616189618054758400 : UInt64))), (.ref ad5)])) _
    refine st7.trans ?_
    show Steps p.tables e below (T7.setTop (mkF m 58 #[.val (.int p1), .val (.int p2), .val (.int p3), .val (.int p4), .val (.long (lw_s p1 p2 p3 p4)), .second, .val (.long (lw_a p1 p2 p3 p4)), .second, .val (.long (lw_c p1 p2 p3 p4)), .second, .val (.long (lw_x p1 p2 p3 p4)), .second, .val (.ref ad5), .unset, .unset, .unset, .unset, .unset, .unset] [(.double (FP.dmul (FP.dadd (FP.l2d (lw_s p1 p2 p3 p4)) (FP.dmul (FP.ddiv (FP.l2d (lw_c p1 p2 p3 p4)) (4611686018427387904 : UInt64)) (rt_dist (FP.ddiv (FP.l2d (lw_x p1 p2 p3 p4)) (4616189618054758400 : UInt64)) (FP.l2d (lw_s p1 p2 p3 p4)) (FP.ddiv (FP.l2d (lw_a p1 p2 p3 p4)) (4616189618054758400 : UInt64)) (FP.l2d (lw_c p1 p2 p3 p4))))) (rt_dist (FP.ddiv (FP.l2d (lw_x p1 p2 p3 p4)) (4616189618054758400 : UInt64)) (FP.l2d (lw_s p1 p2 p3 p4)) (FP.ddiv (FP.l2d (lw_a p1 p2 p3 p4)) (4616189618054758400 : UInt64)) (FP.l2d (lw_c p1 p2 p3 p4)))))])) _
    refine XS.dstore X7.here hx rfl (hb hby at_58) rfl (l' := #[.val (.int p1), .val (.int p2), .val (.int p3), .val (.int p4), .val (.long (lw_s p1 p2 p3 p4)), .second, .val (.long (lw_a p1 p2 p3 p4)), .second, .val (.long (lw_c p1 p2 p3 p4)), .second, .val (.long (lw_x p1 p2 p3 p4)), .second, .val (.ref ad5), .val (.double (lw_rise p1 p2 p3 p4)), .second, .unset, .unset, .unset, .unset]) rfl ?_
    show Steps p.tables e below (T7.setTop (mkF m 60 #[.val (.int p1), .val (.int p2), .val (.int p3), .val (.int p4), .val (.long (lw_s p1 p2 p3 p4)), .second, .val (.long (lw_a p1 p2 p3 p4)), .second, .val (.long (lw_c p1 p2 p3 p4)), .second, .val (.long (lw_x p1 p2 p3 p4)), .second, .val (.ref ad5), .val (.double (lw_rise p1 p2 p3 p4)), .second, .unset, .unset, .unset, .unset] [])) _
    refine XT.lload X7.here hx rfl (hb hby at_60) rfl ?_
    show Steps p.tables e below (T7.setTop (mkF m 62 #[.val (.int p1), .val (.int p2), .val (.int p3), .val (.int p4), .val (.long (lw_s p1 p2 p3 p4)), .second, .val (.long (lw_a p1 p2 p3 p4)), .second, .val (.long (lw_c p1 p2 p3 p4)), .second, .val (.long (lw_x p1 p2 p3 p4)), .second, .val (.ref ad5), .val (.double (lw_rise p1 p2 p3 p4)), .second, .unset, .unset, .unset, .unset] [(.long (lw_x p1 p2 p3 p4))])) _
    refine XT.lload X7.here hx rfl (hb hby at_62) rfl ?_
    show Steps p.tables e below (T7.setTop (mkF m 64 #[.val (.int p1), .val (.int p2), .val (.int p3), .val (.int p4), .val (.long (lw_s p1 p2 p3 p4)), .second, .val (.long (lw_a p1 p2 p3 p4)), .second, .val (.long (lw_c p1 p2 p3 p4)), .second, .val (.long (lw_x p1 p2 p3 p4)), .second, .val (.ref ad5), .val (.double (lw_rise p1 p2 p3 p4)), .second, .unset, .unset, .unset, .unset] [(.long (lw_a p1 p2 p3 p4)), (.long (lw_x p1 p2 p3 p4))])) _
    refine XT.lsub X7.here hx rfl (hb hby at_64) rfl ?_
    show Steps p.tables e below (T7.setTop (mkF m 65 #[.val (.int p1), .val (.int p2), .val (.int p3), .val (.int p4), .val (.long (lw_s p1 p2 p3 p4)), .second, .val (.long (lw_a p1 p2 p3 p4)), .second, .val (.long (lw_c p1 p2 p3 p4)), .second, .val (.long (lw_x p1 p2 p3 p4)), .second, .val (.ref ad5), .val (.double (lw_rise p1 p2 p3 p4)), .second, .unset, .unset, .unset, .unset] [(.long ((lw_x p1 p2 p3 p4) - (lw_a p1 p2 p3 p4)))])) _
    refine XT.lstore X7.here hx rfl (hb hby at_65) rfl (l' := #[.val (.int p1), .val (.int p2), .val (.int p3), .val (.int p4), .val (.long (lw_s p1 p2 p3 p4)), .second, .val (.long (lw_a p1 p2 p3 p4)), .second, .val (.long (lw_c p1 p2 p3 p4)), .second, .val (.long (lw_x p1 p2 p3 p4)), .second, .val (.ref ad5), .val (.double (lw_rise p1 p2 p3 p4)), .second, .val (.long (lw_d p1 p2 p3 p4)), .second, .unset, .unset]) rfl ?_
    show Steps p.tables e below (T7.setTop (mkF m 67 #[.val (.int p1), .val (.int p2), .val (.int p3), .val (.int p4), .val (.long (lw_s p1 p2 p3 p4)), .second, .val (.long (lw_a p1 p2 p3 p4)), .second, .val (.long (lw_c p1 p2 p3 p4)), .second, .val (.long (lw_x p1 p2 p3 p4)), .second, .val (.ref ad5), .val (.double (lw_rise p1 p2 p3 p4)), .second, .val (.long (lw_d p1 p2 p3 p4)), .second, .unset, .unset] [])) _
    refine X7.ldc2J hx hown (mvT hZ (hw _ (List.mem_of_getElem? (i := 26) rfl))) (g := (mkF m 67 #[.val (.int p1), .val (.int p2), .val (.int p3), .val (.int p4), .val (.long (lw_s p1 p2 p3 p4)), .second, .val (.long (lw_a p1 p2 p3 p4)), .second, .val (.long (lw_c p1 p2 p3 p4)), .second, .val (.long (lw_x p1 p2 p3 p4)), .second, .val (.ref ad5), .val (.double (lw_rise p1 p2 p3 p4)), .second, .val (.long (lw_d p1 p2 p3 p4)), .second, .unset, .unset] [])) rfl (hb hby at_67) ?_
    show Steps p.tables e below (T7.setTop (mkF m 70 #[.val (.int p1), .val (.int p2), .val (.int p3), .val (.int p4), .val (.long (lw_s p1 p2 p3 p4)), .second, .val (.long (lw_a p1 p2 p3 p4)), .second, .val (.long (lw_c p1 p2 p3 p4)), .second, .val (.long (lw_x p1 p2 p3 p4)), .second, .val (.ref ad5), .val (.double (lw_rise p1 p2 p3 p4)), .second, .val (.long (lw_d p1 p2 p3 p4)), .second, .unset, .unset] [(.long (8 : Int64))])) _
    refine XT.lload X7.here hx rfl (hb hby at_70) rfl ?_
    show Steps p.tables e below (T7.setTop (mkF m 72 #[.val (.int p1), .val (.int p2), .val (.int p3), .val (.int p4), .val (.long (lw_s p1 p2 p3 p4)), .second, .val (.long (lw_a p1 p2 p3 p4)), .second, .val (.long (lw_c p1 p2 p3 p4)), .second, .val (.long (lw_x p1 p2 p3 p4)), .second, .val (.ref ad5), .val (.double (lw_rise p1 p2 p3 p4)), .second, .val (.long (lw_d p1 p2 p3 p4)), .second, .unset, .unset] [(.long (lw_s p1 p2 p3 p4)), (.long (8 : Int64))])) _
    refine XT.lmul X7.here hx rfl (hb hby at_72) rfl ?_
    show Steps p.tables e below (T7.setTop (mkF m 73 #[.val (.int p1), .val (.int p2), .val (.int p3), .val (.int p4), .val (.long (lw_s p1 p2 p3 p4)), .second, .val (.long (lw_a p1 p2 p3 p4)), .second, .val (.long (lw_c p1 p2 p3 p4)), .second, .val (.long (lw_x p1 p2 p3 p4)), .second, .val (.ref ad5), .val (.double (lw_rise p1 p2 p3 p4)), .second, .val (.long (lw_d p1 p2 p3 p4)), .second, .unset, .unset] [(.long ((8 : Int64) * (lw_s p1 p2 p3 p4)))])) _
    refine XT.lload X7.here hx rfl (hb hby at_73) rfl ?_
    show Steps p.tables e below (T7.setTop (mkF m 75 #[.val (.int p1), .val (.int p2), .val (.int p3), .val (.int p4), .val (.long (lw_s p1 p2 p3 p4)), .second, .val (.long (lw_a p1 p2 p3 p4)), .second, .val (.long (lw_c p1 p2 p3 p4)), .second, .val (.long (lw_x p1 p2 p3 p4)), .second, .val (.ref ad5), .val (.double (lw_rise p1 p2 p3 p4)), .second, .val (.long (lw_d p1 p2 p3 p4)), .second, .unset, .unset] [(.long (lw_d p1 p2 p3 p4)), (.long ((8 : Int64) * (lw_s p1 p2 p3 p4)))])) _
    refine XT.lmul X7.here hx rfl (hb hby at_75) rfl ?_
    show Steps p.tables e below (T7.setTop (mkF m 76 #[.val (.int p1), .val (.int p2), .val (.int p3), .val (.int p4), .val (.long (lw_s p1 p2 p3 p4)), .second, .val (.long (lw_a p1 p2 p3 p4)), .second, .val (.long (lw_c p1 p2 p3 p4)), .second, .val (.long (lw_x p1 p2 p3 p4)), .second, .val (.ref ad5), .val (.double (lw_rise p1 p2 p3 p4)), .second, .val (.long (lw_d p1 p2 p3 p4)), .second, .unset, .unset] [(.long (((8 : Int64) * (lw_s p1 p2 p3 p4)) * (lw_d p1 p2 p3 p4)))])) _
    refine XT.lload X7.here hx rfl (hb hby at_76) rfl ?_
    show Steps p.tables e below (T7.setTop (mkF m 78 #[.val (.int p1), .val (.int p2), .val (.int p3), .val (.int p4), .val (.long (lw_s p1 p2 p3 p4)), .second, .val (.long (lw_a p1 p2 p3 p4)), .second, .val (.long (lw_c p1 p2 p3 p4)), .second, .val (.long (lw_x p1 p2 p3 p4)), .second, .val (.ref ad5), .val (.double (lw_rise p1 p2 p3 p4)), .second, .val (.long (lw_d p1 p2 p3 p4)), .second, .unset, .unset] [(.long (lw_c p1 p2 p3 p4)), (.long (((8 : Int64) * (lw_s p1 p2 p3 p4)) * (lw_d p1 p2 p3 p4)))])) _
    refine XT.lload X7.here hx rfl (hb hby at_78) rfl ?_
    show Steps p.tables e below (T7.setTop (mkF m 80 #[.val (.int p1), .val (.int p2), .val (.int p3), .val (.int p4), .val (.long (lw_s p1 p2 p3 p4)), .second, .val (.long (lw_a p1 p2 p3 p4)), .second, .val (.long (lw_c p1 p2 p3 p4)), .second, .val (.long (lw_x p1 p2 p3 p4)), .second, .val (.ref ad5), .val (.double (lw_rise p1 p2 p3 p4)), .second, .val (.long (lw_d p1 p2 p3 p4)), .second, .unset, .unset] [(.long (lw_d p1 p2 p3 p4)), (.long (lw_c p1 p2 p3 p4)), (.long (((8 : Int64) * (lw_s p1 p2 p3 p4)) * (lw_d p1 p2 p3 p4)))])) _
    refine XT.lmul X7.here hx rfl (hb hby at_80) rfl ?_
    show Steps p.tables e below (T7.setTop (mkF m 81 #[.val (.int p1), .val (.int p2), .val (.int p3), .val (.int p4), .val (.long (lw_s p1 p2 p3 p4)), .second, .val (.long (lw_a p1 p2 p3 p4)), .second, .val (.long (lw_c p1 p2 p3 p4)), .second, .val (.long (lw_x p1 p2 p3 p4)), .second, .val (.ref ad5), .val (.double (lw_rise p1 p2 p3 p4)), .second, .val (.long (lw_d p1 p2 p3 p4)), .second, .unset, .unset] [(.long ((lw_c p1 p2 p3 p4) * (lw_d p1 p2 p3 p4))), (.long (((8 : Int64) * (lw_s p1 p2 p3 p4)) * (lw_d p1 p2 p3 p4)))])) _
    refine XT.lload X7.here hx rfl (hb hby at_81) rfl ?_
    show Steps p.tables e below (T7.setTop (mkF m 83 #[.val (.int p1), .val (.int p2), .val (.int p3), .val (.int p4), .val (.long (lw_s p1 p2 p3 p4)), .second, .val (.long (lw_a p1 p2 p3 p4)), .second, .val (.long (lw_c p1 p2 p3 p4)), .second, .val (.long (lw_x p1 p2 p3 p4)), .second, .val (.ref ad5), .val (.double (lw_rise p1 p2 p3 p4)), .second, .val (.long (lw_d p1 p2 p3 p4)), .second, .unset, .unset] [(.long (lw_d p1 p2 p3 p4)), (.long ((lw_c p1 p2 p3 p4) * (lw_d p1 p2 p3 p4))), (.long (((8 : Int64) * (lw_s p1 p2 p3 p4)) * (lw_d p1 p2 p3 p4)))])) _
    refine XT.lmul X7.here hx rfl (hb hby at_83) rfl ?_
    show Steps p.tables e below (T7.setTop (mkF m 84 #[.val (.int p1), .val (.int p2), .val (.int p3), .val (.int p4), .val (.long (lw_s p1 p2 p3 p4)), .second, .val (.long (lw_a p1 p2 p3 p4)), .second, .val (.long (lw_c p1 p2 p3 p4)), .second, .val (.long (lw_x p1 p2 p3 p4)), .second, .val (.ref ad5), .val (.double (lw_rise p1 p2 p3 p4)), .second, .val (.long (lw_d p1 p2 p3 p4)), .second, .unset, .unset] [(.long (((lw_c p1 p2 p3 p4) * (lw_d p1 p2 p3 p4)) * (lw_d p1 p2 p3 p4))), (.long (((8 : Int64) * (lw_s p1 p2 p3 p4)) * (lw_d p1 p2 p3 p4)))])) _
    refine XT.ladd X7.here hx rfl (hb hby at_84) rfl ?_
    show Steps p.tables e below (T7.setTop (mkF m 85 #[.val (.int p1), .val (.int p2), .val (.int p3), .val (.int p4), .val (.long (lw_s p1 p2 p3 p4)), .second, .val (.long (lw_a p1 p2 p3 p4)), .second, .val (.long (lw_c p1 p2 p3 p4)), .second, .val (.long (lw_x p1 p2 p3 p4)), .second, .val (.ref ad5), .val (.double (lw_rise p1 p2 p3 p4)), .second, .val (.long (lw_d p1 p2 p3 p4)), .second, .unset, .unset] [(.long ((((8 : Int64) * (lw_s p1 p2 p3 p4)) * (lw_d p1 p2 p3 p4)) + (((lw_c p1 p2 p3 p4) * (lw_d p1 p2 p3 p4)) * (lw_d p1 p2 p3 p4))))])) _
    refine XT.lstore X7.here hx rfl (hb hby at_85) rfl (l' := #[.val (.int p1), .val (.int p2), .val (.int p3), .val (.int p4), .val (.long (lw_s p1 p2 p3 p4)), .second, .val (.long (lw_a p1 p2 p3 p4)), .second, .val (.long (lw_c p1 p2 p3 p4)), .second, .val (.long (lw_x p1 p2 p3 p4)), .second, .val (.ref ad5), .val (.double (lw_rise p1 p2 p3 p4)), .second, .val (.long (lw_d p1 p2 p3 p4)), .second, .val (.long (lw_ref p1 p2 p3 p4)), .second]) rfl ?_
    show Steps p.tables e below (T7.setTop (mkF m 87 #[.val (.int p1), .val (.int p2), .val (.int p3), .val (.int p4), .val (.long (lw_s p1 p2 p3 p4)), .second, .val (.long (lw_a p1 p2 p3 p4)), .second, .val (.long (lw_c p1 p2 p3 p4)), .second, .val (.long (lw_x p1 p2 p3 p4)), .second, .val (.ref ad5), .val (.double (lw_rise p1 p2 p3 p4)), .second, .val (.long (lw_d p1 p2 p3 p4)), .second, .val (.long (lw_ref p1 p2 p3 p4)), .second] [])) _
    refine XS.dload X7.here hx rfl (hb hby at_87) rfl ?_
    show Steps p.tables e below (T7.setTop (mkF m 89 #[.val (.int p1), .val (.int p2), .val (.int p3), .val (.int p4), .val (.long (lw_s p1 p2 p3 p4)), .second, .val (.long (lw_a p1 p2 p3 p4)), .second, .val (.long (lw_c p1 p2 p3 p4)), .second, .val (.long (lw_x p1 p2 p3 p4)), .second, .val (.ref ad5), .val (.double (lw_rise p1 p2 p3 p4)), .second, .val (.long (lw_d p1 p2 p3 p4)), .second, .val (.long (lw_ref p1 p2 p3 p4)), .second] [(.double (lw_rise p1 p2 p3 p4))])) _
    refine X7.ldc2DoubleC hx hown (mvT hZ (hw _ (List.mem_of_getElem? (i := 27) rfl))) (g := (mkF m 89 #[.val (.int p1), .val (.int p2), .val (.int p3), .val (.int p4), .val (.long (lw_s p1 p2 p3 p4)), .second, .val (.long (lw_a p1 p2 p3 p4)), .second, .val (.long (lw_c p1 p2 p3 p4)), .second, .val (.long (lw_x p1 p2 p3 p4)), .second, .val (.ref ad5), .val (.double (lw_rise p1 p2 p3 p4)), .second, .val (.long (lw_d p1 p2 p3 p4)), .second, .val (.long (lw_ref p1 p2 p3 p4)), .second] [(.double (lw_rise p1 p2 p3 p4))])) rfl (hb hby at_89) _ ?_
    show Steps p.tables e below (T7.setTop (mkF m 92 #[.val (.int p1), .val (.int p2), .val (.int p3), .val (.int p4), .val (.long (lw_s p1 p2 p3 p4)), .second, .val (.long (lw_a p1 p2 p3 p4)), .second, .val (.long (lw_c p1 p2 p3 p4)), .second, .val (.long (lw_x p1 p2 p3 p4)), .second, .val (.ref ad5), .val (.double (lw_rise p1 p2 p3 p4)), .second, .val (.long (lw_d p1 p2 p3 p4)), .second, .val (.long (lw_ref p1 p2 p3 p4)), .second] [(.double (4629700416936869888 : UInt64)), (.double (lw_rise p1 p2 p3 p4))])) _
    refine XS.dmulS X7.here hx rfl (hb hby at_92) rfl (own_r32 p1 p2 p3 p4).nn rfl ?_
    show Steps p.tables e below (T7.setTop (mkF m 93 #[.val (.int p1), .val (.int p2), .val (.int p3), .val (.int p4), .val (.long (lw_s p1 p2 p3 p4)), .second, .val (.long (lw_a p1 p2 p3 p4)), .second, .val (.long (lw_c p1 p2 p3 p4)), .second, .val (.long (lw_x p1 p2 p3 p4)), .second, .val (.ref ad5), .val (.double (lw_rise p1 p2 p3 p4)), .second, .val (.long (lw_d p1 p2 p3 p4)), .second, .val (.long (lw_ref p1 p2 p3 p4)), .second] [(.double (FP.dmul (lw_rise p1 p2 p3 p4) (4629700416936869888 : UInt64)))])) _
    refine XT.lload X7.here hx rfl (hb hby at_93) rfl ?_
    show Steps p.tables e below (T7.setTop (mkF m 95 #[.val (.int p1), .val (.int p2), .val (.int p3), .val (.int p4), .val (.long (lw_s p1 p2 p3 p4)), .second, .val (.long (lw_a p1 p2 p3 p4)), .second, .val (.long (lw_c p1 p2 p3 p4)), .second, .val (.long (lw_x p1 p2 p3 p4)), .second, .val (.ref ad5), .val (.double (lw_rise p1 p2 p3 p4)), .second, .val (.long (lw_d p1 p2 p3 p4)), .second, .val (.long (lw_ref p1 p2 p3 p4)), .second] [(.long (lw_ref p1 p2 p3 p4)), (.double (FP.dmul (lw_rise p1 p2 p3 p4) (4629700416936869888 : UInt64)))])) _
    refine XS.l2dS X7.here hx rfl (hb hby at_95) rfl rfl ?_
    show Steps p.tables e below (T7.setTop (mkF m 96 #[.val (.int p1), .val (.int p2), .val (.int p3), .val (.int p4), .val (.long (lw_s p1 p2 p3 p4)), .second, .val (.long (lw_a p1 p2 p3 p4)), .second, .val (.long (lw_c p1 p2 p3 p4)), .second, .val (.long (lw_x p1 p2 p3 p4)), .second, .val (.ref ad5), .val (.double (lw_rise p1 p2 p3 p4)), .second, .val (.long (lw_d p1 p2 p3 p4)), .second, .val (.long (lw_ref p1 p2 p3 p4)), .second] [(.double (FP.l2d (lw_ref p1 p2 p3 p4))), (.double (FP.dmul (lw_rise p1 p2 p3 p4) (4629700416936869888 : UInt64)))])) _
    refine XS.dcmpS X7.here hx rfl (hb hby at_96) rfl rfl ?_
    show Steps p.tables e below (T7.setTop (mkF m 97 #[.val (.int p1), .val (.int p2), .val (.int p3), .val (.int p4), .val (.long (lw_s p1 p2 p3 p4)), .second, .val (.long (lw_a p1 p2 p3 p4)), .second, .val (.long (lw_c p1 p2 p3 p4)), .second, .val (.long (lw_x p1 p2 p3 p4)), .second, .val (.ref ad5), .val (.double (lw_rise p1 p2 p3 p4)), .second, .val (.long (lw_d p1 p2 p3 p4)), .second, .val (.long (lw_ref p1 p2 p3 p4)), .second] [(.int (cmpValue (FP.dcmp (FP.dmul (lw_rise p1 p2 p3 p4) (4629700416936869888 : UInt64)) (FP.l2d (lw_ref p1 p2 p3 p4))) .l))])) _
    refine XS.ifNo X7.here hx rfl (hb hby at_97) rfl (own_same p1 p2 p3 p4) ?_
    show Steps p.tables e below (T7.setTop (mkF m 100 #[.val (.int p1), .val (.int p2), .val (.int p3), .val (.int p4), .val (.long (lw_s p1 p2 p3 p4)), .second, .val (.long (lw_a p1 p2 p3 p4)), .second, .val (.long (lw_c p1 p2 p3 p4)), .second, .val (.long (lw_x p1 p2 p3 p4)), .second, .val (.ref ad5), .val (.double (lw_rise p1 p2 p3 p4)), .second, .val (.long (lw_d p1 p2 p3 p4)), .second, .val (.long (lw_ref p1 p2 p3 p4)), .second] [])) _
    refine XS.iconst X7.here hx rfl (hb hby at_100) ?_
    show Steps p.tables e below (T7.setTop (mkF m 101 #[.val (.int p1), .val (.int p2), .val (.int p3), .val (.int p4), .val (.long (lw_s p1 p2 p3 p4)), .second, .val (.long (lw_a p1 p2 p3 p4)), .second, .val (.long (lw_c p1 p2 p3 p4)), .second, .val (.long (lw_x p1 p2 p3 p4)), .second, .val (.ref ad5), .val (.double (lw_rise p1 p2 p3 p4)), .second, .val (.long (lw_d p1 p2 p3 p4)), .second, .val (.long (lw_ref p1 p2 p3 p4)), .second] [(.int (1 : Int32))])) _
    refine XS.goto X7.here hx rfl (pc0 := 101) (pc' := 105) rfl (hb hby at_101) (by decide) (by decide) ?_
    show Steps p.tables e below (T7.setTop (mkF m 105 #[.val (.int p1), .val (.int p2), .val (.int p3), .val (.int p4), .val (.long (lw_s p1 p2 p3 p4)), .second, .val (.long (lw_a p1 p2 p3 p4)), .second, .val (.long (lw_c p1 p2 p3 p4)), .second, .val (.long (lw_x p1 p2 p3 p4)), .second, .val (.ref ad5), .val (.double (lw_rise p1 p2 p3 p4)), .second, .val (.long (lw_d p1 p2 p3 p4)), .second, .val (.long (lw_ref p1 p2 p3 p4)), .second] [(.int (1 : Int32))])) _
    exact retN X7 hx (t := .boolean) Bd.returns (by simp) (hb hby at_105) hr
  · show Q_lw Z p1 p2 p3 p4  h0 n0 _ T7.heap _
    exact ⟨rfl, Nn7⟩
set_option maxRecDepth 65536 in
set_option maxHeartbeats 40000000 in
theorem comes_1 {Post : Tables → Env → Array Value → State → Outcome → State → Prop} (hpost : ∀ tb e args s v u, (limb_1_1.after args s (.returned v) u = true ∧ limb_1_2.after args s (.returned v) u = true ∧ True) → FrameEnd s (.returned v) u (Jvm.fieldLocs frame_1_writes args s ++ Jvm.arrayLocs frame_1_arrays args s ++ Jvm.staticLocs frame_1_statics s) 16 128 → Post tb e args s (.returned v) u) :
    ArmFor flags0 classFile x code maxLocals ret World_1 tables_1 room_1 Calls_1 rest_1 Pre_1 Post := by
  intro l hfl _ _ p e ha hc hk s m args below hf hA hF happ hP
  obtain ⟨hcalls, hrest, hpre⟩ := hP
  obtain ⟨-, -, -, hnamed, -, -, -, hat⟩ := (Spec.applies_iff hf).mp happ
  obtain ⟨hg, hn⟩ := and_e (Cond.before_iff.mp (show (Jvm.Cond.and given_1 narrow_1).before args s = true from hpre))
  obtain ⟨h1, g0⟩ := and_e hg
  obtain ⟨i0, g1⟩ := and_e g0
  obtain ⟨i1, g2⟩ := and_e g1
  obtain ⟨i2, g3⟩ := and_e g2
  obtain ⟨w0, w1, w2, w3, rfl⟩ : ∃ w0 w1 w2 w3 : Value, args = #[w0, w1, w2, w3] := by
    have hs : args.size = 4 := by simpa [Cond.value, given_1] using h1
    obtain ⟨L⟩ := args
    match L, hs with
    | [w0, w1, w2, w3], _ => exact ⟨w0, w1, w2, w3, rfl⟩
  have hw := fun d (hd : d ∈ tables_1) => atoms_spec (ws := Jvm.Cond.code x code maxLocals ret :: tables_1) hat d (List.mem_cons_of_mem _ hd)
  obtain ⟨v0, e0⟩ := is_v i0
  obtain rfl : w0 = (.int v0) := Option.some.inj e0
  obtain ⟨v1, e1⟩ := is_v i1
  obtain rfl : w1 = (.int v1) := Option.some.inj e1
  obtain ⟨v2, e2⟩ := is_v i2
  obtain rfl : w2 = (.int v2) := Option.some.inj e2
  obtain ⟨v3, e3⟩ := is_v g3
  obtain rfl : w3 = (.int v3) := Option.some.inj e3
  obtain ⟨n, o, h1, h2, h3, _, L, rfl, ⟨rfl, N⟩, hq⟩ := rm_lw l s _ hw tables_1 v0 v1 v2 v3  s.heap s.heap.size (Nat.le_refl _)  p e ha hc hk s m _ below hf ((Spec.applies_iff_loose hf).mp happ).1 ⟨rfl, State.Warmed39.refl s, rfl⟩ trivial
  refine ⟨n, _, h1, h2, h3, hpost _ _ _ _ _ _ ⟨Cond.after_iff.mpr rfl, Cond.after_iff.mpr (eq_i res_at (Term.int_eval (1)) rfl), trivial⟩ ⟨hq.1, hq.2.1, (hq.2.2.sift fun y hy => Or.inr (N y hy)).mono (by decide) (by decide)⟩⟩
theorem main_1_1 : Claimed_1_1 := comes_1 fun _ _ _ _ _ _ h hF => ⟨h.1, hF⟩
theorem main_1_2 : Claimed_1_2 := comes_1 fun _ _ _ _ _ _ h hF => ⟨h.2.1, hF⟩
end Jvm.Pilot.@@N@@
namespace Jvm.Pilot.@@N@@
open Jvm Jvm.ClassFile Sem Op Lib Jvm.Free Jvm.Stand Jvm.Pilot.@@N@@.Jvm.D
/-! MADE BY PROGRAM (witnessworld.py) out of the Statement's table words and the real class files: 9 classes; the members and pool entries that the words name. The judged class is class 1, her method 2. -/
namespace start1
open Jvm.ClassFile
def u (s : String) : CpInfo := .utf8 (stringToUtf16 s)
/-- a pool by its gaps: so many unusable entries, then the entry; so many at the end -/
def gap : Nat → List CpInfo → List CpInfo
  | 0, r => r
  | n + 1, r => .unusable :: gap n r
def poolList (es : List (Nat × CpInfo)) (last : Nat) : List CpInfo := es.foldr (fun e r => gap e.1 (e.2 :: r)) (gap last [])
def pool (es : List (Nat × CpInfo)) (last : Nat) : Array CpInfo := ⟨poolList es last⟩
def fileOf (pool : Array CpInfo) (this : Nat) (attrs : Array Attribute := #[]) (ms : Array MethodInfo := #[]) (fl : Nat := 33) (sup : Nat := 0) (ifs : Array Nat := #[]) (fds : Array FieldInfo := #[]) : ClassFile where
  minorVersion := 0
  majorVersion := 65
  constantPool := pool
  accessFlags := fl
  thisClass := this
  superClass := sup
  interfaces := ifs
  fields := fds
  methods := ms
  attributes := attrs
def plain (name : String) (sup : Option ClassId) : Class where
  name := name
  kind := .ordinary
  loader := none
  accessFlags := 33
  super := sup
  interfaces := #[]
  cf := none
  fields := #[]
  methods := #[]
  instanceTypes := #[]
  staticTypes := #[]
  resolved := #[]
  callSites := []
  init := .initialized
  statics := none
  mirror := none

def pool0 : Array CpInfo := pool [(5, u "<init>"), (0, u "()V"), (1, .class_ 10), (1, u "java/lang/Object")] 113

def k0c0 : Code := { maxStack := 0, maxLocals := 1, code := object_method_1_code, exceptionTable := #[], attributes := #[] }
def k0m0 : Method := { name := "<init>", desc := "()V", sig := { parameters := [], returnType := none }, accessFlags := 1, code := some k0c0 }
/-- java/lang/Object -/
def k0 : Class := { plain "java/lang/Object" none with
  accessFlags := 33
  interfaces := #[]
  cf := some (fileOf pool0 8 #[] #[{ accessFlags := 1, nameIndex := 5, descriptorIndex := 6, attributes := #[] }] 33 0 #[] #[])
  fields := #[]
  methods := #[k0m0]
  instanceTypes := #[]
  staticTypes := #[]
  resolved := Array.replicate 124 none
  statics := none }

def pool1 : Array CpInfo := pool [(2, .class_ 4), (1, u "java/lang/Object"), (0, u "<init>"), (0, u "()V"), (0, .methodref 8 9), (0, .class_ 10), (0, .nameAndType 11 12), (0, u "com/example/quadratur/quadratur/method/FarEndRiseToPinLaw"), (0, u "signed11"), (0, u "(I)J"), (0, .class_ 14), (0, u "com/example/quadratur/quadratur/method/GaussKronrod$FarEnd"), (0, .double 4616189618054758400), (1, .methodref 13 18), (0, .nameAndType 5 19), (0, u "(DDD)V"), (0, .methodref 13 21), (0, .nameAndType 22 23), (0, u "riseTo"), (0, u "(D)D"), (0, .long 8), (1, .double 4629700416936869888), (3, u "law"), (0, u "(IIII)Z")] 7

def k1m0 : Method := { name := "<init>", desc := "()V", sig := { parameters := [], returnType := none }, accessFlags := 1, code := none }
def k1c1 : Code := { maxStack := 2, maxLocals := 1, code := method_2_code, exceptionTable := #[], attributes := #[] }
def k1m1 : Method := { name := "signed11", desc := "(I)J", sig := { parameters := [.int], returnType := some .long }, accessFlags := 10, code := some k1c1 }
def k1c2 : Code := { maxStack := 8, maxLocals := 19, code := code, exceptionTable := #[], attributes := #[] }
def k1m2 : Method := { name := "law", desc := "(IIII)Z", sig := { parameters := [.int, .int, .int, .int], returnType := some .boolean }, accessFlags := 9, code := some k1c2 }
/-- com/example/quadratur/quadratur/method/FarEndRiseToPinLaw -/
def k1 : Class := { plain "com/example/quadratur/quadratur/method/FarEndRiseToPinLaw" (some 0) with
  accessFlags := 49
  interfaces := #[]
  cf := some (fileOf pool1 8 #[] #[{ accessFlags := 1, nameIndex := 5, descriptorIndex := 6, attributes := #[] }, { accessFlags := 10, nameIndex := 11, descriptorIndex := 12, attributes := #[] }, { accessFlags := 9, nameIndex := 30, descriptorIndex := 31, attributes := #[] }] 49 2 #[] #[])
  fields := #[]
  methods := #[k1m0, k1m1, k1m2]
  instanceTypes := #[]
  staticTypes := #[]
  resolved := Array.replicate 39 none
  statics := none }

def pool2 : Array CpInfo := pool [(1, .methodref 2 3), (0, .class_ 4), (0, .nameAndType 5 6), (0, u "java/lang/Object"), (0, u "<init>"), (0, u "()V"), (0, .fieldref 8 9), (0, .class_ 10), (0, .nameAndType 11 12), (0, u "com/example/quadratur/quadratur/method/GaussKronrod$FarEnd"), (0, u "slope"), (0, u "D"), (0, .fieldref 8 14), (0, .nameAndType 15 12), (0, u "slopeAt"), (0, .fieldref 8 17), (0, .nameAndType 18 12), (0, u "curvature"), (0, .double 4611686018427387904), (1, u "(DDD)V"), (2, u "riseTo"), (0, u "(D)D"), (3, .class_ 30), (0, u "com/example/quadratur/quadratur/method/GaussKronrod")] 2

def k2c0 : Code := { maxStack := 3, maxLocals := 7, code := prog_42_method_1_code, exceptionTable := #[], attributes := #[] }
def k2m0 : Method := { name := "<init>", desc := "(DDD)V", sig := { parameters := [.double, .double, .double], returnType := none }, accessFlags := 0, code := some k2c0 }
def k2c1 : Code := { maxStack := 6, maxLocals := 5, code := prog_42_method_2_code, exceptionTable := #[], attributes := #[] }
def k2m1 : Method := { name := "riseTo", desc := "(D)D", sig := { parameters := [.double], returnType := some .double }, accessFlags := 0, code := some k2c1 }
/-- com/example/quadratur/quadratur/method/GaussKronrod$FarEnd -/
def k2 : Class := { plain "com/example/quadratur/quadratur/method/GaussKronrod$FarEnd" (some 0) with
  accessFlags := 48
  interfaces := #[]
  cf := some (fileOf pool2 8 #[.nestHost 29] #[{ accessFlags := 0, nameIndex := 5, descriptorIndex := 21, attributes := #[] }, { accessFlags := 0, nameIndex := 24, descriptorIndex := 25, attributes := #[] }] 48 2 #[] #[{ accessFlags := 16, nameIndex := 11, descriptorIndex := 12, attributes := #[] }, { accessFlags := 16, nameIndex := 15, descriptorIndex := 12, attributes := #[] }, { accessFlags := 16, nameIndex := 18, descriptorIndex := 12, attributes := #[] }])
  fields := #[{ name := "slope", type := .double, accessFlags := 16, slot := 0, constantValue := 0 }, { name := "slopeAt", type := .double, accessFlags := 16, slot := 1, constantValue := 0 }, { name := "curvature", type := .double, accessFlags := 16, slot := 2, constantValue := 0 }]
  methods := #[k2m0, k2m1]
  instanceTypes := #[.double, .double, .double]
  staticTypes := #[]
  resolved := Array.replicate 33 none
  statics := none }

def pool3 : Array CpInfo := pool [(1, u "java/lang/Cloneable"), (0, .class_ 1), (0, u "java/lang/Object"), (0, .class_ 3)] 3

/-- java/lang/Cloneable -/
def k3 : Class := { plain "java/lang/Cloneable" (some 0) with
  accessFlags := 1537
  interfaces := #[]
  cf := some (fileOf pool3 2 #[] #[] 1537 4 #[] #[])
  fields := #[]
  methods := #[]
  instanceTypes := #[]
  staticTypes := #[]
  resolved := Array.replicate 8 none
  statics := none }

def pool4 : Array CpInfo := pool [(1, u "java/io/Serializable"), (0, .class_ 1), (0, u "java/lang/Object"), (0, .class_ 3)] 3

/-- java/io/Serializable -/
def k4 : Class := { plain "java/io/Serializable" (some 0) with
  accessFlags := 1537
  interfaces := #[]
  cf := some (fileOf pool4 2 #[] #[] 1537 4 #[] #[])
  fields := #[]
  methods := #[]
  instanceTypes := #[]
  staticTypes := #[]
  resolved := Array.replicate 8 none
  statics := none }

/-- the primitive byte -/
def k5 : Class := { plain "byte" none with kind := .primitive 'B', accessFlags := 0x411 }
/-- [B -/
def k6 : Class := { plain "[B" (some 0) with kind := .array 5 .byte, interfaces := #[3, 4], accessFlags := 1041 }

/-- the primitive int -/
def k7 : Class := { plain "int" none with kind := .primitive 'I', accessFlags := 0x411 }
/-- [I -/
def k8 : Class := { plain "[I" (some 0) with kind := .array 7 .int, interfaces := #[3, 4], accessFlags := 1041 }

def heap : Heap := #[]
def classes : Array Class := #[k0, k1, k2, k3, k4, k5, k6, k7, k8]
def interned : List (Array UInt16 × Addr) := []
def slotsUsed : Nat := 0
def theMethod : MethodId := ⟨1, 2⟩
def args0 : Array Value := #[.int 3, .int 4, .int 5, .int 6]
def aboutOver (below : List Frame) : State where
  vm := { classes := classes, interned := interned.toArray }
  heap := heap
  slotsUsed := slotsUsed
  threads := #[{ frames := .invoking theMethod args0 :: below }]
def below0 : List Frame := [.native { method := ⟨0, 0⟩, args := #[] }]
def about1 : State := aboutOver below0
def p0 : Program := .bare "" "" ""
def e0 : Env := launch0.env 0 0 0
theorem w_frames : about1.frames = Frame.invoking theMethod args0 :: below0 := rfl
set_option maxRecDepth 65536 in
theorem w_args : argsFit about1.vm theMethod args0 = true := by decide +kernel
set_option maxRecDepth 65536 in
theorem w_heap : heapFits about1 = true := by decide +kernel
set_option maxRecDepth 65536 in
theorem w_runnable : about1.curStatus? = some .runnable := by decide +kernel
set_option maxRecDepth 65536 in
theorem w_alone : about1.alone = true := by decide +kernel
set_option maxRecDepth 65536 in
theorem w_named : about1.methodNamed? x = some theMethod := by decide +kernel
set_option maxRecDepth 65536 in
theorem w_hears : about1.hears theMethod below0 = true := by decide +kernel
set_option maxRecDepth 65536 in
theorem w_ripe : about1.ripe theMethod args0 below0 = true := by decide +kernel
theorem w_running : about1.status = .running := rfl
set_option maxRecDepth 65536 in
theorem w_room : about1.hasRoom e0.platform room_1 = true :=
  launch0.hasRoom_least _ room_1 (by decide +kernel) (by decide +kernel) (by decide +kernel) (by decide +kernel) (by decide +kernel) (by decide +kernel)
theorem allAtoms_all (ts : List Jvm.Cond) (a : Array Jvm.Value) (st : Jvm.State) : (allAtoms ts).before a st = ts.all (fun c => c.before a st) := by
  induction ts with
  | nil => rfl
  | cons c t ih =>
    show (Jvm.Cond.and c (allAtoms t)).before a st = _
    rw [Jvm.Cond.before_and, ih, List.all_cons]
def words1 : List Jvm.Cond := Jvm.Cond.code x code maxLocals ret :: tables_1
/-- a 'code' word, met by the world's own term for the bytes: nothing is compared byte by byte -/
theorem code_word {y : MethodName} {bytes : ByteArray} {mx : Nat} {rt : Option FieldType} {a : Array Value} {s : State} {m : MethodId} {meth : Method} {c : Code} (h1 : s.methodNamed? y = some m) (h2 : s.vm.method? m = some meth) (h3 : meth.code = some c) (h4 : c.code = bytes)
    (h5 : (c.maxLocals == mx && c.exceptionTable.isEmpty && decide (c.maxStack ≤ mostOperands) && decide (meth.sig.returnType = rt) && !meth.locks && decide (parseMethodDescriptor y.desc = some meth.sig)) = true) : (Jvm.Cond.code y bytes mx rt).before a s = true := by
  simp only [Bool.and_eq_true, beq_iff_eq, Bool.not_eq_true', decide_eq_true_eq] at h5
  obtain ⟨⟨⟨⟨⟨g1, g2⟩, g3⟩, g4⟩, g5⟩, g6⟩ := h5
  simp [Cond.before, Cond.holds, Cond.value, h1, h2, h3, h4, g1, g2, g3, g4, g5, g6]
def isCode : Jvm.Cond → Bool
  | .code _ _ _ _ => true
  | _ => false
theorem all_split {L : List Jvm.Cond} {P : Jvm.Cond → Bool} (h1 : L.all (fun c => isCode c || P c) = true) (h2 : ∀ c ∈ L.filter isCode, P c = true) : L.all P = true := by
  refine List.all_eq_true.mpr fun c hc => ?_
  have h := List.all_eq_true.mp h1 c hc
  rcases Bool.eq_false_or_eq_true (isCode c) with hi | hi
  · exact h2 c (List.mem_filter.mpr ⟨hc, hi⟩)
  · simpa [hi] using h
set_option maxRecDepth 65536 in
theorem w_c0 : (Jvm.Cond.code x code maxLocals ret).before args0 about1 = true := code_word (m := ⟨1, 2⟩) (meth := k1m2) (c := k1c2) (by decide +kernel) rfl rfl rfl (by decide +kernel)
set_option maxRecDepth 65536 in
theorem w_c1 : (Jvm.Cond.code ({ cls := "com/example/quadratur/quadratur/method/FarEndRiseToPinLaw", name := "signed11", desc := "(I)J" } : Jvm.MethodName) method_2_code (1 : Nat) (Option.some Jvm.ClassFile.FieldType.long)).before args0 about1 = true := code_word (m := ⟨1, 1⟩) (meth := k1m1) (c := k1c1) (by decide +kernel) rfl rfl rfl (by decide +kernel)
set_option maxRecDepth 65536 in
theorem w_c2 : (Jvm.Cond.code ({ cls := "com/example/quadratur/quadratur/method/GaussKronrod$FarEnd", name := "<init>", desc := "(DDD)V" } : Jvm.MethodName) prog_42_method_1_code (7 : Nat) (Option.none : Option Jvm.ClassFile.FieldType)).before args0 about1 = true := code_word (m := ⟨2, 0⟩) (meth := k2m0) (c := k2c0) (by decide +kernel) rfl rfl rfl (by decide +kernel)
set_option maxRecDepth 65536 in
theorem w_c3 : (Jvm.Cond.code ({ cls := "java/lang/Object", name := "<init>", desc := "()V" } : Jvm.MethodName) object_method_1_code (1 : Nat) (Option.none : Option Jvm.ClassFile.FieldType)).before args0 about1 = true := code_word (m := ⟨0, 0⟩) (meth := k0m0) (c := k0c0) (by decide +kernel) rfl rfl rfl (by decide +kernel)
set_option maxRecDepth 65536 in
theorem w_c4 : (Jvm.Cond.code ({ cls := "com/example/quadratur/quadratur/method/GaussKronrod$FarEnd", name := "riseTo", desc := "(D)D" } : Jvm.MethodName) prog_42_method_2_code (5 : Nat) (Option.some Jvm.ClassFile.FieldType.double)).before args0 about1 = true := code_word (m := ⟨2, 1⟩) (meth := k2m1) (c := k2c1) (by decide +kernel) rfl rfl rfl (by decide +kernel)
def codes1 : List Jvm.Cond := [Jvm.Cond.code x code maxLocals ret, Jvm.Cond.code ({ cls := "com/example/quadratur/quadratur/method/FarEndRiseToPinLaw", name := "signed11", desc := "(I)J" } : Jvm.MethodName) method_2_code (1 : Nat) (Option.some Jvm.ClassFile.FieldType.long), Jvm.Cond.code ({ cls := "com/example/quadratur/quadratur/method/GaussKronrod$FarEnd", name := "<init>", desc := "(DDD)V" } : Jvm.MethodName) prog_42_method_1_code (7 : Nat) (Option.none : Option Jvm.ClassFile.FieldType), Jvm.Cond.code ({ cls := "java/lang/Object", name := "<init>", desc := "()V" } : Jvm.MethodName) object_method_1_code (1 : Nat) (Option.none : Option Jvm.ClassFile.FieldType), Jvm.Cond.code ({ cls := "com/example/quadratur/quadratur/method/GaussKronrod$FarEnd", name := "riseTo", desc := "(D)D" } : Jvm.MethodName) prog_42_method_2_code (5 : Nat) (Option.some Jvm.ClassFile.FieldType.double)]
set_option maxRecDepth 65536 in
theorem codes_eq : words1.filter isCode = codes1 := rfl
theorem w_codes : ∀ c ∈ words1.filter isCode, c.before args0 about1 = true := by
  rw [codes_eq]
  intro c hc
  simp only [codes1, List.mem_cons, List.not_mem_nil, or_false] at hc
  rcases hc with rfl | rfl | rfl | rfl | rfl
  · exact w_c0
  · exact w_c1
  · exact w_c2
  · exact w_c3
  · exact w_c4
set_option maxRecDepth 65536 in
theorem w_t1 : (words1.take 24).all (fun c => isCode c || c.before args0 about1) = true := by decide +kernel
set_option maxRecDepth 65536 in
theorem w_t2 : (words1.drop 24).all (fun c => isCode c || c.before args0 about1) = true := by decide +kernel
theorem w_tables : (allAtoms (Jvm.Cond.code x code maxLocals ret :: tables_1)).before args0 about1 = true := by
  rw [allAtoms_all]
  show words1.all (fun c => c.before args0 about1) = true
  refine all_split ?_ w_codes
  rw [← List.take_append_drop 24 words1, List.all_append, w_t1, w_t2]
  rfl
set_option maxRecDepth 65536 in
theorem w_case : (Jvm.Cond.and given_1 narrow_1).before args0 about1 = true := by decide +kernel
theorem w_applies : (headSpec (Jvm.Cond.code x code maxLocals ret :: tables_1) room_1).applies x e0.platform about1 = true :=
  (Spec.applies_iff w_frames).mpr ⟨w_running, w_runnable, w_alone, w_named, w_hears, w_ripe, w_room, w_tables⟩
theorem atStart : AtStart classFile x code maxLocals ret World_1 tables_1 room_1 Calls_1 rest_1 Pre_1 launch0 p0 e0 about1 theMethod args0 below0 :=
  ⟨lists_1, trivial, launch0.admits_env _ _ _, launch0.least_env, fairChoices_fair.cas, fairChoices_fair.clock, w_frames, w_args, w_heap, w_applies, trivial, trivial, w_case⟩
end start1
theorem witness_1 : WitnessClaimed_1 := ⟨start1.p0, start1.e0, start1.about1, start1.theMethod, start1.args0, start1.below0, start1.atStart⟩
end Jvm.Pilot.@@N@@
