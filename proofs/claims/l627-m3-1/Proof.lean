import JvmDerived
import JvmDerived.Pilot.@@N@@Statement
import JvmDerived.Pilot.@@N@@Code
set_option linter.unusedVariables false
set_option linter.unusedSimpArgs false
@@BLOCK:NumsL.lean.txt@@
namespace Jvm.RoadKit
open Sem ClassFile Op Lib Jvm.Stand Jvm.Free Jvm.LawKit
section New
variable {p : Program} {l : Launch} {e : Env} {R : Room} {s : State} {m : MethodId} {args : Array Value} {below : List Frame} {meth : Method} {c : Code} {T : State} {locs : List Loc} {cells slots : Nat}
theorem retI (X : Stand p l e R s m args below meth c T locs cells slots) (hx : p.tables.exec = Jvm.exec) {pc : Nat} {Ls : Array Slot} {z : Int32} {rest : List Value} (hret : meth.sig.returnType = some .int) (hd : decode c.code pc = .ok (.ireturn, 1)) {fs : List Frame}
    (hl : ∀ (f : JFrame) (acts : List Action), f.method = m → f.locked = none → f.entered = [] → (doReturn e (T.setTop f) acts (some (.int z))).1 = T.setFrames fs) : Steps p.tables e below (T.setTop (mkF m pc Ls (.int z :: rest))) (T.setFrames fs) := by
  have hm' : T.vm.method? m = some meth := X.method'
  have hn : narrow .int (.int z) = .int z := rfl
  show Steps p.tables e below (T.setTop { method := m, pc := pc, locals := Ls, stack := _ :: rest, locked := none }) _
  jvm_step X.here [X.here.top, hx, hd, hm', hret, hn]
  first | (intro acts; rw [hl _ acts rfl rfl rfl]) | rw [hl _ _ rfl rfl rfl]
  exact Steps.refl _
end New
end Jvm.RoadKit
namespace Jvm.Pilot.@@N@@
open Jvm Jvm.ClassFile Sem Op Lib Jvm.Free Jvm.Stand Jvm.LawKit Jvm.RoadKit Bundle Jvm.Pilot.@@N@@.Jvm.D
/-! own text: doubles as whole numbers of 2^-1074 (own_Fin), what a double can hold (own_Rep), and the four operations by bounds -/
def own_Rep (z : Int) : Prop := ∃ (s : Bool) (c : Nat) (q : Int), FP.Core.fits FP.Core.b64 (.fin s c q) ∧ FP.Core.zval FP.Core.b64 (.fin s c q) = z
def own_Fin (a : UInt64) (z : Int) : Prop := FP.Core.DFin a ∧ FP.Core.zval FP.Core.b64 (FP.Core.val64 a) = z
def own_U : Int := ((FP.Core.one64 : Nat) : Int)
theorem own_U_pos : 0 < own_U := Int.natCast_pos.mpr FP.Core.one64_pos
theorem own_U_lit : own_U = 202402253307310618352495346718917307049556649764142118356901358027430339567995346891960383701437124495187077864316811911389808737385793476867013399940738509921517424276566361364466907742093216341239767678472745068562007483424692698618103355649159556340810056512358769552333414615230502532186327508646006263307707741093494784 := by decide +kernel
theorem own_Fin.rep {a : UInt64} {z : Int} (h : own_Fin a z) : own_Rep z := by
  obtain ⟨⟨s, c, q, e⟩, h⟩ := h
  refine ⟨s, c, q, ?_, ?_⟩
  · rw [← e]; exact FP.Core.val64_fits a
  · rw [← e]; exact h
theorem own_Fin.ne {a : UInt64} {z : Int} (h : own_Fin a z) : FP.Core.val64 a ≠ .nan := h.1.ne_nan
theorem own_Fin.nn {a : UInt64} {z : Int} (h : own_Fin a z) : Jvm.Free.Fl.NoNaN64 a := Jvm.Free.Fl.val64_no.mpr h.ne
def own_Val (a : UInt64) (z : Int) : Prop := FP.Core.val64 a ≠ .nan ∧ FP.Core.zval FP.Core.b64 (FP.Core.val64 a) = z
theorem own_Fin.v {a : UInt64} {z : Int} (h : own_Fin a z) : own_Val a z := ⟨h.ne, h.2⟩
theorem own_Val.nn {a : UInt64} {z : Int} (h : own_Val a z) : Jvm.Free.Fl.NoNaN64 a := Jvm.Free.Fl.val64_no.mpr h.1
theorem own_Fin.cast {a : UInt64} {z w : Int} (h : own_Fin a z) (e : z = w) : own_Fin a w := e ▸ h
theorem own_signed_le (s : Bool) (n : Nat) : FP.Core.signed s n ≤ (n : Int) ∧ -(n : Int) ≤ FP.Core.signed s n := by
  cases s <;> simp only [FP.Core.signed, if_true, Bool.false_eq_true, if_false] <;> omega
theorem own_zval_inf (f : FP.Core.Fmt) (s : Bool) : FP.Core.zval f (.inf s) = FP.Core.signed s (f.tails * 2 ^ (f.exps - 2)) := rfl
theorem own_zval_fin (f : FP.Core.Fmt) (s : Bool) (c : Nat) (q : Int) : FP.Core.zval f (.fin s c q) = FP.Core.signed s (FP.Core.inUnits c q f.qmin) := rfl
theorem own_Rep.lt {z : Int} (h : own_Rep z) : z < ((FP.Core.b64.tails * 2 ^ (FP.Core.b64.exps - 2) : Nat) : Int) ∧ -((FP.Core.b64.tails * 2 ^ (FP.Core.b64.exps - 2) : Nat) : Int) < z := by
  obtain ⟨s, c, q, hf, rfl⟩ := h
  have h1 := FP.Core.zmag_lt_top FP.Core.good_b64 hf
  have h2 := own_signed_le s (FP.Core.inUnits c q FP.Core.b64.qmin)
  rw [own_zval_fin]
  generalize FP.Core.inUnits c q FP.Core.b64.qmin = n at *
  generalize FP.Core.b64.tails * 2 ^ (FP.Core.b64.exps - 2) = t at *
  omega
theorem own_fin_of {r : UInt64} {lo hi : Int} (hn : FP.Core.val64 r ≠ .nan) (rl : own_Rep lo) (rh : own_Rep hi) (h1 : lo ≤ FP.Core.zval FP.Core.b64 (FP.Core.val64 r)) (h2 : FP.Core.zval FP.Core.b64 (FP.Core.val64 r) ≤ hi) :
    ∃ z, own_Fin r z ∧ lo ≤ z ∧ z ≤ hi := by
  refine ⟨_, ⟨?_, rfl⟩, h1, h2⟩
  have a := rl.lt
  have b := rh.lt
  cases hv : FP.Core.val64 r with
  | nan => exact absurd hv hn
  | fin s c q => exact ⟨s, c, q, hv⟩
  | inf s =>
    exfalso
    rw [hv, own_zval_inf] at h1 h2
    generalize FP.Core.b64.tails * 2 ^ (FP.Core.b64.exps - 2) = t at *
    cases s <;> simp only [FP.Core.signed, if_true, Bool.false_eq_true, if_false] at h1 h2 <;> omega
theorem own_add {a b : UInt64} {x y lo hi : Int} (ha : own_Fin a x) (hb : own_Fin b y) (rl : own_Rep lo) (rh : own_Rep hi) (h1 : lo ≤ x + y) (h2 : x + y ≤ hi) : ∃ z, own_Fin (FP.dadd a b) z ∧ lo ≤ z ∧ z ≤ hi := by
  obtain ⟨s1, c1, q1, f1, e1⟩ := id rl
  obtain ⟨s2, c2, q2, f2, e2⟩ := id rh
  have ev : FP.Core.val64 (FP.dadd a b) = _ := FP.Core.val64_dadd a b
  refine own_fin_of ((FP.Core.notNaN_iff _).mp (FP.Core.dadd_out ha.1.notNaN hb.1)) rl rh ?_ ?_
  · rw [ev, ← e1]
    exact FP.Core.sum_ge FP.Core.good_b64 ha.1 hb.1 (FP.Core.val64_fits a) (FP.Core.val64_fits b) f1 (fun q => nomatch q) (by rw [e1, ha.2, hb.2]; exact h1)
  · rw [ev, ← e2]
    exact FP.Core.sum_le FP.Core.good_b64 ha.1 hb.1 (FP.Core.val64_fits a) (FP.Core.val64_fits b) f2 (fun q => nomatch q) (by rw [e2, ha.2, hb.2]; exact h2)
theorem own_add_e {a b : UInt64} {x y : Int} (ha : own_Fin a x) (hb : own_Fin b y) (r : own_Rep (x + y)) : own_Fin (FP.dadd a b) (x + y) := by
  obtain ⟨z, h, h1, h2⟩ := own_add ha hb r r (Int.le_refl _) (Int.le_refl _)
  exact h.cast (Int.le_antisymm h2 h1)
theorem own_fin_negate {d : FP.Core.Datum} (h : ∃ s c q, d = .fin s c q) : ∃ s c q, FP.Core.negate d = .fin s c q := by
  obtain ⟨s, c, q, rfl⟩ := h
  exact ⟨!s, c, q, rfl⟩
theorem own_sub {a b : UInt64} {x y lo hi : Int} (ha : own_Fin a x) (hb : own_Fin b y) (rl : own_Rep lo) (rh : own_Rep hi) (h1 : lo ≤ x - y) (h2 : x - y ≤ hi) : ∃ z, own_Fin (FP.dsub a b) z ∧ lo ≤ z ∧ z ≤ hi := by
  obtain ⟨s1, c1, q1, f1, e1⟩ := id rl
  obtain ⟨s2, c2, q2, f2, e2⟩ := id rh
  have ev : FP.Core.val64 (FP.dsub a b) = _ := FP.Core.val64_dsub a b
  refine own_fin_of ((FP.Core.notNaN_iff _).mp (FP.Core.dsub_out ha.1.notNaN hb.1)) rl rh ?_ ?_
  · rw [ev, ← e1]
    exact FP.Core.sum_ge FP.Core.good_b64 ha.1 (own_fin_negate hb.1) (FP.Core.val64_fits a) (FP.Core.negate_fits (FP.Core.val64_fits b)) f1 (fun q => nomatch q) (by rw [e1, ha.2, FP.Core.zval_negate, hb.2]; omega)
  · rw [ev, ← e2]
    exact FP.Core.sum_le FP.Core.good_b64 ha.1 (own_fin_negate hb.1) (FP.Core.val64_fits a) (FP.Core.negate_fits (FP.Core.val64_fits b)) f2 (fun q => nomatch q) (by rw [e2, ha.2, FP.Core.zval_negate, hb.2]; omega)
theorem own_sub_e {a b : UInt64} {x y : Int} (ha : own_Fin a x) (hb : own_Fin b y) (r : own_Rep (x - y)) : own_Fin (FP.dsub a b) (x - y) := by
  obtain ⟨z, h, h1, h2⟩ := own_sub ha hb r r (Int.le_refl _) (Int.le_refl _)
  exact h.cast (Int.le_antisymm h2 h1)
theorem own_qq : (FP.Core.b64.qmin - 2 * FP.Core.b64.qmin).toNat = (-FP.Core.b64.qmin).toNat := by rw [FP.Core.qmin_b64]; rfl
theorem own_mul_ge {a b : UInt64} {x y lo : Int} (ha : own_Fin a x) (hb : own_Fin b y) (rl : own_Rep lo) (h1 : lo * own_U ≤ x * y) : lo ≤ FP.Core.zval FP.Core.b64 (FP.Core.val64 (FP.dmul a b)) := by
  obtain ⟨s1, c1, q1, f1, e1⟩ := id rl
  obtain ⟨s, c, q, ea⟩ := id ha.1
  obtain ⟨t, d, r, eb⟩ := id hb.1
  have fa := FP.Core.val64_fits a
  have fb := FP.Core.val64_fits b
  have za := ha.2
  have zb := hb.2
  have ev : FP.Core.val64 (FP.dmul a b) = _ := FP.Core.val64_dmul a b
  rw [ea] at fa za ev
  rw [eb] at fb zb ev
  obtain ⟨p1, p2, p3⟩ := FP.Core.product_units fa fb
  rw [p1] at ev
  have hq : 2 * FP.Core.b64.qmin ≤ FP.Core.b64.qmin := by rw [FP.Core.qmin_b64]; decide
  have hs : FP.Core.signed (s != t) (FP.Core.inUnits (c * d) (q + r) (2 * FP.Core.b64.qmin)) = x * y := by
    rw [p3, FP.Core.signed_xor, ← za, ← zb]; rfl
  have hu : ((2 ^ (FP.Core.b64.qmin - 2 * FP.Core.b64.qmin).toNat : Nat) : Int) = own_U := by rw [own_qq, FP.Core.pow_qmin64]; rfl
  rw [ev, ← e1]
  exact FP.Core.zval_round_ge FP.Core.good_b64 f1 (fun q => nomatch q) hq p2 (by rw [hs, hu, e1]; exact h1)
theorem own_mul_le {a b : UInt64} {x y hi : Int} (ha : own_Fin a x) (hb : own_Fin b y) (rh : own_Rep hi) (h2 : x * y ≤ hi * own_U) : FP.Core.zval FP.Core.b64 (FP.Core.val64 (FP.dmul a b)) ≤ hi := by
  obtain ⟨s2, c2, q2, f2, e2⟩ := id rh
  obtain ⟨s, c, q, ea⟩ := id ha.1
  obtain ⟨t, d, r, eb⟩ := id hb.1
  have fa := FP.Core.val64_fits a
  have fb := FP.Core.val64_fits b
  have za := ha.2
  have zb := hb.2
  have ev : FP.Core.val64 (FP.dmul a b) = _ := FP.Core.val64_dmul a b
  rw [ea] at fa za ev
  rw [eb] at fb zb ev
  obtain ⟨p1, p2, p3⟩ := FP.Core.product_units fa fb
  rw [p1] at ev
  have hq : 2 * FP.Core.b64.qmin ≤ FP.Core.b64.qmin := by rw [FP.Core.qmin_b64]; decide
  have hs : FP.Core.signed (s != t) (FP.Core.inUnits (c * d) (q + r) (2 * FP.Core.b64.qmin)) = x * y := by
    rw [p3, FP.Core.signed_xor, ← za, ← zb]; rfl
  have hu : ((2 ^ (FP.Core.b64.qmin - 2 * FP.Core.b64.qmin).toNat : Nat) : Int) = own_U := by rw [own_qq, FP.Core.pow_qmin64]; rfl
  rw [ev, ← e2]
  exact FP.Core.zval_round_le FP.Core.good_b64 f2 (fun q => nomatch q) hq p2 (by rw [hs, hu, e2]; exact h2)
theorem own_mul_ne {a b : UInt64} {x y : Int} (ha : own_Fin a x) (hb : own_Fin b y) : FP.Core.val64 (FP.dmul a b) ≠ .nan := (FP.Core.notNaN_iff _).mp (FP.Core.dmul_out ha.1 hb.1)
theorem own_mul {a b : UInt64} {x y lo hi : Int} (ha : own_Fin a x) (hb : own_Fin b y) (rl : own_Rep lo) (rh : own_Rep hi) (h1 : lo * own_U ≤ x * y) (h2 : x * y ≤ hi * own_U) : ∃ z, own_Fin (FP.dmul a b) z ∧ lo ≤ z ∧ z ≤ hi :=
  own_fin_of (own_mul_ne ha hb) rl rh (own_mul_ge ha hb rl h1) (own_mul_le ha hb rh h2)
theorem own_mul_e {a b : UInt64} {x y z : Int} (ha : own_Fin a x) (hb : own_Fin b y) (r : own_Rep z) (e : x * y = z * own_U) : own_Fin (FP.dmul a b) z := by
  obtain ⟨w, h, h1, h2⟩ := own_mul ha hb r r (Int.le_of_eq e.symm) (Int.le_of_eq e)
  exact h.cast (Int.le_antisymm h2 h1)
theorem own_ratio_units {c d : Nat} {q r m : Int} (hq : m ≤ q) (hr : m ≤ r) (hm : m < 0) :
    FP.Core.inUnits c (q - r) (m + m - r) = FP.Core.inUnits c q m * 2 ^ (-m).toNat ∧ ∀ v : Nat, v * 2 ^ (m - (m + m - r)).toNat * d = v * FP.Core.inUnits d r m := by
  constructor
  · unfold FP.Core.inUnits
    rw [show (q - r - (m + m - r)).toNat = (q - m).toNat + (-m).toNat by omega, Nat.pow_add, Nat.mul_assoc]
  · intro v
    unfold FP.Core.inUnits
    rw [show (m - (m + m - r)).toNat = (r - m).toNat by omega, Nat.mul_assoc, Nat.mul_comm d]
theorem own_ratio_le {s s' t : Bool} {c d : Nat} {q r : Int} {V : FP.Core.Datum} (hx : FP.Core.fits FP.Core.b64 (.fin s c q)) (hy : FP.Core.fits FP.Core.b64 (.fin t d r)) (hd : 0 < d) (hV : FP.Core.fits FP.Core.b64 V) (hn : V ≠ .nan)
    (h : FP.Core.inUnits c q FP.Core.b64.qmin * FP.Core.one64 ≤ FP.Core.zmag FP.Core.b64 V * FP.Core.inUnits d r FP.Core.b64.qmin) : FP.Core.zmag FP.Core.b64 (FP.Core.roundRatio FP.Core.b64 s' c d (q - r)) ≤ FP.Core.zmag FP.Core.b64 V := by
  have hm : FP.Core.b64.qmin < 0 := by rw [FP.Core.qmin_b64]; decide
  obtain ⟨u1, u2⟩ := own_ratio_units (c := c) (d := d) hx.2.1 hy.2.1 hm
  have hqx := hx.2.1
  have hqy := hy.2.1
  refine FP.Core.zmag_roundRatio_le FP.Core.good_b64 (e0 := FP.Core.b64.qmin + FP.Core.b64.qmin - r) hd hV hn (by omega) (by omega) ?_
  rw [u1, u2, FP.Core.pow_qmin64]; exact h
theorem own_ratio_ge {s s' t : Bool} {c d : Nat} {q r : Int} {V : FP.Core.Datum} (hx : FP.Core.fits FP.Core.b64 (.fin s c q)) (hy : FP.Core.fits FP.Core.b64 (.fin t d r)) (hd : 0 < d) (hV : FP.Core.fits FP.Core.b64 V)
    (h : FP.Core.zmag FP.Core.b64 V * FP.Core.inUnits d r FP.Core.b64.qmin ≤ FP.Core.inUnits c q FP.Core.b64.qmin * FP.Core.one64) : FP.Core.zmag FP.Core.b64 V ≤ FP.Core.zmag FP.Core.b64 (FP.Core.roundRatio FP.Core.b64 s' c d (q - r)) := by
  have hm : FP.Core.b64.qmin < 0 := by rw [FP.Core.qmin_b64]; decide
  obtain ⟨u1, u2⟩ := own_ratio_units (c := c) (d := d) hx.2.1 hy.2.1 hm
  have hqx := hx.2.1
  have hqy := hy.2.1
  refine FP.Core.zmag_roundRatio_ge FP.Core.good_b64 (e0 := FP.Core.b64.qmin + FP.Core.b64.qmin - r) hd hV (by omega) (by omega) ?_
  rw [u1, u2, FP.Core.pow_qmin64]; exact h
theorem own_quot {a b : UInt64} {y : Int} {s : Bool} {c : Nat} {q : Int} (ea : FP.Core.val64 a = .fin s c q) (hb : own_Fin b y) (hy : 0 < y) :
    ∃ d r, FP.Core.val64 b = .fin false d r ∧ 0 < d ∧ y = ((FP.Core.inUnits d r FP.Core.b64.qmin : Nat) : Int) ∧ FP.Core.val64 (FP.ddiv a b) = FP.Core.roundRatio FP.Core.b64 s c d (q - r) := by
  obtain ⟨t, d, r, eb⟩ := id hb.1
  have zb := hb.2
  rw [eb, own_zval_fin] at zb
  obtain ⟨k1, k2⟩ := FP.Core.signed_pos (s := t) (m := FP.Core.inUnits d r FP.Core.b64.qmin) (by rw [zb]; exact hy)
  have ht : t = false := by
    cases t with
    | false => rfl
    | true =>
      simp only [FP.Core.signed, if_true] at k1; omega
  subst ht
  have hd : 0 < d := by
    rcases Nat.eq_zero_or_pos d with h | h
    · subst h; unfold FP.Core.inUnits at k2; omega
    · exact h
  refine ⟨d, r, eb, hd, by rw [← zb, k1], ?_⟩
  have ev : FP.Core.val64 (FP.ddiv a b) = _ := FP.Core.val64_ddiv a b
  rw [ea, eb] at ev
  rw [ev]
  show (if d = 0 then _ else FP.Core.roundRatio FP.Core.b64 (s != false) c d (q - r)) = _
  rw [if_neg (Nat.pos_iff_ne_zero.mp hd)]
  cases s <;> rfl
theorem own_div_le {a b : UInt64} {x y hi : Int} (ha : own_Fin a x) (hb : own_Fin b y) (hy : 0 < y) (rh : own_Rep hi) (h2 : x * own_U ≤ hi * y) : FP.Core.zval FP.Core.b64 (FP.Core.val64 (FP.ddiv a b)) ≤ hi := by
  obtain ⟨s2, c2, q2, f2, e2⟩ := id rh
  obtain ⟨s, c, q, ea⟩ := id ha.1
  obtain ⟨d, r, eb, hd, ey, ev⟩ := own_quot ea hb hy
  have fa := FP.Core.val64_fits a
  have fb := FP.Core.val64_fits b
  have za := ha.2
  rw [ea] at fa za
  rw [eb] at fb
  have l1 := own_ratio_le (s' := s) fa fb hd f2 (fun q => nomatch q)
  have l2 := own_ratio_ge (s' := s) fa fb hd f2
  have hY : 0 < FP.Core.inUnits d r FP.Core.b64.qmin := by omega
  rw [ev, ← e2]
  unfold FP.Core.zval
  rw [FP.Core.sgn_roundRatio]
  rw [own_zval_fin] at za
  have e2' : FP.Core.signed s2 (FP.Core.zmag FP.Core.b64 (.fin s2 c2 q2)) = hi := e2
  show FP.Core.signed s _ ≤ FP.Core.signed s2 _
  rw [← e2', ← za, ey] at h2
  unfold own_U at h2
  rw [← FP.Core.signed_mul, ← FP.Core.signed_mul] at h2
  generalize FP.Core.zmag FP.Core.b64 (FP.Core.roundRatio FP.Core.b64 s c d (q - r)) = zR at *
  generalize FP.Core.zmag FP.Core.b64 (.fin s2 c2 q2) = v at *
  have hz : v * FP.Core.inUnits d r FP.Core.b64.qmin = 0 → v = 0 := fun h => (Nat.mul_eq_zero.mp h).resolve_right (by omega)
  generalize v * FP.Core.inUnits d r FP.Core.b64.qmin = B at *
  generalize FP.Core.inUnits c q FP.Core.b64.qmin * FP.Core.one64 = A at *
  cases s <;> cases s2 <;> simp only [FP.Core.signed, if_true, Bool.false_eq_true, if_false] at h2 ⊢
  · have := l1 (by omega); omega
  · have := l1 (by omega); have := hz (by omega); omega
  · omega
  · have := l2 (by omega); omega
theorem own_neg {a : UInt64} {x : Int} (ha : own_Fin a x) : own_Fin (FP.dneg a) (-x) := by
  have e : FP.Core.val64 (FP.dneg a) = _ := FP.val64_dneg a
  refine ⟨?_, ?_⟩
  · show ∃ s c q, _ = _
    rw [e]; exact own_fin_negate ha.1
  · rw [e, FP.Core.zval_negate, ha.2]
theorem own_div_ge {a b : UInt64} {x y lo : Int} (ha : own_Fin a x) (hb : own_Fin b y) (hy : 0 < y) (rl : own_Rep lo) (h1 : lo * y ≤ x * own_U) : lo ≤ FP.Core.zval FP.Core.b64 (FP.Core.val64 (FP.ddiv a b)) := by
  obtain ⟨s2, c2, q2, f2, e2⟩ := id rl
  obtain ⟨s, c, q, ea⟩ := id ha.1
  obtain ⟨d, r, eb, hd, ey, ev⟩ := own_quot ea hb hy
  have fa := FP.Core.val64_fits a
  have fb := FP.Core.val64_fits b
  have za := ha.2
  rw [ea] at fa za
  rw [eb] at fb
  have l1 := own_ratio_le (s' := s) fa fb hd f2 (fun q => nomatch q)
  have l2 := own_ratio_ge (s' := s) fa fb hd f2
  have hY : 0 < FP.Core.inUnits d r FP.Core.b64.qmin := by omega
  rw [ev, ← e2]
  unfold FP.Core.zval
  rw [FP.Core.sgn_roundRatio]
  rw [own_zval_fin] at za
  have e2' : FP.Core.signed s2 (FP.Core.zmag FP.Core.b64 (.fin s2 c2 q2)) = lo := e2
  show FP.Core.signed s2 _ ≤ FP.Core.signed s _
  rw [← e2', ← za, ey] at h1
  unfold own_U at h1
  rw [← FP.Core.signed_mul, ← FP.Core.signed_mul] at h1
  generalize FP.Core.zmag FP.Core.b64 (FP.Core.roundRatio FP.Core.b64 s c d (q - r)) = zR at *
  generalize FP.Core.zmag FP.Core.b64 (.fin s2 c2 q2) = v at *
  have hz : v * FP.Core.inUnits d r FP.Core.b64.qmin = 0 → v = 0 := fun h => (Nat.mul_eq_zero.mp h).resolve_right (by omega)
  generalize v * FP.Core.inUnits d r FP.Core.b64.qmin = B at *
  generalize FP.Core.inUnits c q FP.Core.b64.qmin * FP.Core.one64 = A at *
  cases s <;> cases s2 <;> simp only [FP.Core.signed, if_true, Bool.false_eq_true, if_false] at h1 ⊢
  · have := l2 (by omega); omega
  · omega
  · have := l1 (by omega); have := hz (by omega); omega
  · have := l1 (by omega); omega
theorem own_div {a b : UInt64} {x y lo hi : Int} (ha : own_Fin a x) (hb : own_Fin b y) (hy : 0 < y) (rl : own_Rep lo) (rh : own_Rep hi) (h1 : lo * y ≤ x * own_U) (h2 : x * own_U ≤ hi * y) : ∃ z, own_Fin (FP.ddiv a b) z ∧ lo ≤ z ∧ z ≤ hi := by
  refine own_fin_of ?_ rl rh (own_div_ge ha hb hy rl h1) (own_div_le ha hb hy rh h2)
  obtain ⟨s, c, q, ea⟩ := id ha.1
  obtain ⟨d, r, eb, hd, ey, ev⟩ := own_quot ea hb hy
  rw [ev]; exact FP.Core.roundRatio_ne_nan _ _ _ _ _
theorem own_div_e {a b : UInt64} {x y z : Int} (ha : own_Fin a x) (hb : own_Fin b y) (hy : 0 < y) (r : own_Rep z) (e : x * own_U = z * y) : own_Fin (FP.ddiv a b) z := by
  obtain ⟨w, h, h1, h2⟩ := own_div ha hb hy r r (Int.le_of_eq e.symm) (Int.le_of_eq e)
  exact h.cast (Int.le_antisymm h2 h1)
/-- quotients of one value are one double -/
theorem own_div_same {a b a' b' : UInt64} {x y x' y' : Int} (ha : own_Fin a x) (hb : own_Fin b y) (ha' : own_Fin a' x') (hb' : own_Fin b' y') (hx : 0 < x) (hx' : 0 < x') (hy : 0 < y) (hy' : 0 < y') (e : x * y' = x' * y) : FP.Core.val64 (FP.ddiv a b) = FP.Core.val64 (FP.ddiv a' b') := by
  obtain ⟨s, c, q, ea⟩ := id ha.1
  obtain ⟨d, r, eb, hd, ey, ev⟩ := own_quot ea hb hy
  obtain ⟨s', c', q', ea'⟩ := id ha'.1
  obtain ⟨d', r', eb', hd', ey', ev'⟩ := own_quot ea' hb' hy'
  have za := ha.2
  have za' := ha'.2
  have fa := FP.Core.val64_fits a
  have fb := FP.Core.val64_fits b
  have fa' := FP.Core.val64_fits a'
  have fb' := FP.Core.val64_fits b'
  rw [ea] at za fa
  rw [ea'] at za' fa'
  rw [eb] at fb
  rw [eb'] at fb'
  rw [own_zval_fin] at za za'
  obtain ⟨k1, k2⟩ := FP.Core.signed_pos (s := s) (m := FP.Core.inUnits c q FP.Core.b64.qmin) (by rw [za]; exact hx)
  obtain ⟨k1', k2'⟩ := FP.Core.signed_pos (s := s') (m := FP.Core.inUnits c' q' FP.Core.b64.qmin) (by rw [za']; exact hx')
  have hs : s = false := by
    cases s with
    | false => rfl
    | true => simp only [FP.Core.signed, if_true] at k1; omega
  have hs' : s' = false := by
    cases s' with
    | false => rfl
    | true => simp only [FP.Core.signed, if_true] at k1'; omega
  subst hs hs'
  rw [ev, ev']
  have E : FP.Core.inUnits c q FP.Core.b64.qmin * FP.Core.inUnits d' r' FP.Core.b64.qmin = FP.Core.inUnits c' q' FP.Core.b64.qmin * FP.Core.inUnits d r FP.Core.b64.qmin := by
    have h : ((FP.Core.inUnits c q FP.Core.b64.qmin * FP.Core.inUnits d' r' FP.Core.b64.qmin : Nat) : Int) = ((FP.Core.inUnits c' q' FP.Core.b64.qmin * FP.Core.inUnits d r FP.Core.b64.qmin : Nat) : Int) := by
      rw [Int.natCast_mul, Int.natCast_mul, ← k1, ← k1', za, za', ← ey, ← ey']; exact e
    exact Int.ofNat_inj.mp h
  have g1 := fa.2.1
  have g2 := fb.2.1
  have g3 := fa'.2.1
  have g4 := fb'.2.1
  generalize FP.Core.b64.qmin = m at *
  refine FP.Core.roundRatio_congr hd hd' ?_
  unfold FP.Core.inUnits at E
  generalize ha1 : (q - m).toNat = A1 at *
  generalize ha2 : (r - m).toNat = A2 at *
  generalize ha3 : (q' - m).toNat = A3 at *
  generalize ha4 : (r' - m).toNat = A4 at *
  have E' : c * d' * 2 ^ (A1 + A4) = c' * d * 2 ^ (A3 + A2) := by
    rw [Nat.pow_add, Nat.pow_add]
    calc c * d' * (2 ^ A1 * 2 ^ A4) = c * 2 ^ A1 * (d' * 2 ^ A4) := by simp only [Nat.mul_assoc, Nat.mul_left_comm, Nat.mul_comm]
      _ = c' * 2 ^ A3 * (d * 2 ^ A2) := E
      _ = c' * d * (2 ^ A3 * 2 ^ A2) := by simp only [Nat.mul_assoc, Nat.mul_left_comm, Nat.mul_comm]
  rcases Nat.le_total (A3 + A2) (A1 + A4) with h | h
  · rw [show (q - r - (q' - r')).toNat = (A1 + A4) - (A3 + A2) by omega, show (q' - r' - (q - r)).toNat = 0 by omega]
    have : 2 ^ (A1 + A4) = 2 ^ ((A1 + A4) - (A3 + A2)) * 2 ^ (A3 + A2) := by rw [← Nat.pow_add]; congr 1; omega
    rw [this, ← Nat.mul_assoc] at E'
    rw [Nat.pow_zero, Nat.mul_one]
    exact Nat.eq_of_mul_eq_mul_right (Nat.two_pow_pos _) E'
  · rw [show (q - r - (q' - r')).toNat = 0 by omega, show (q' - r' - (q - r)).toNat = (A3 + A2) - (A1 + A4) by omega]
    have : 2 ^ (A3 + A2) = 2 ^ ((A3 + A2) - (A1 + A4)) * 2 ^ (A1 + A4) := by rw [← Nat.pow_add]; congr 1; omega
    rw [this, ← Nat.mul_assoc] at E'
    rw [Nat.pow_zero, Nat.mul_one]
    exact Nat.eq_of_mul_eq_mul_right (Nat.two_pow_pos _) E'
theorem own_cmp {a b : UInt64} {x y : Int} (ha : own_Val a x) (hb : own_Val b y) (o : CmpOp) : cmpValue (FP.dcmp a b) o = if x < y then -1 else if x = y then 0 else 1 := by
  rw [show FP.dcmp a b = _ from FP.Core.dcmp_zval ha.1 hb.1, ha.2, hb.2, FP.Core.compare_ite]
  by_cases h1 : x < y
  · rw [if_pos h1, if_pos h1]; rfl
  · rw [if_neg h1, if_neg h1]
    by_cases h2 : x = y
    · rw [if_pos h2, if_pos h2]; rfl
    · rw [if_neg h2, if_neg h2]; rfl
theorem own_if {a b : UInt64} {x y : Int} (ha : own_Val a x) (hb : own_Val b y) (o : CmpOp) :
    (ifCond.holds .eq (cmpValue (FP.dcmp a b) o) = decide (x = y)) ∧ (ifCond.holds .ne (cmpValue (FP.dcmp a b) o) = decide (x ≠ y)) ∧ (ifCond.holds .lt (cmpValue (FP.dcmp a b) o) = decide (x < y)) ∧
    (ifCond.holds .ge (cmpValue (FP.dcmp a b) o) = decide (y ≤ x)) ∧ (ifCond.holds .gt (cmpValue (FP.dcmp a b) o) = decide (y < x)) ∧ (ifCond.holds .le (cmpValue (FP.dcmp a b) o) = decide (x ≤ y)) := by
  rw [own_cmp ha hb o]
  by_cases h1 : x < y
  · rw [if_pos h1]
    rw [decide_eq_false (show ¬ x = y by omega), decide_eq_true (show x ≠ y by omega), decide_eq_true h1, decide_eq_false (show ¬ y ≤ x by omega), decide_eq_false (show ¬ y < x by omega), decide_eq_true (show x ≤ y by omega)]
    decide
  · rw [if_neg h1]
    by_cases h2 : x = y
    · rw [if_pos h2]
      rw [decide_eq_true h2, decide_eq_false (show ¬ x ≠ y by omega), decide_eq_false h1, decide_eq_true (show y ≤ x by omega), decide_eq_false (show ¬ y < x by omega), decide_eq_true (show x ≤ y by omega)]
      decide
    · rw [if_neg h2]
      rw [decide_eq_false h2, decide_eq_true (show x ≠ y by omega), decide_eq_false h1, decide_eq_true (show y ≤ x by omega), decide_eq_true (show y < x by omega), decide_eq_false (show ¬ x ≤ y by omega)]
      decide
theorem own_of_dint {i : Int} {a : UInt64} (h : FP.Core.DInt i a) : own_Fin a (i * own_U) := by
  refine ⟨?_, FP.Core.DInt_zval h⟩
  have h' : FP.Core.Whole i (FP.Core.val64 a) := h
  cases hv : FP.Core.val64 a with
  | nan => rw [hv] at h'; exact h'.elim
  | inf s => rw [hv] at h'; exact h'.elim
  | fin s c q => exact ⟨s, c, q, hv⟩
theorem own_i2d (n : Int32) : own_Fin (FP.i2d n) (n.toInt * own_U) := own_of_dint (FP.Core.i2d_int n)
theorem own_l2d {n : Int64} (h : n.toInt.natAbs ≤ 9007199254740992) : own_Fin (FP.l2d n) (n.toInt * own_U) := own_of_dint (FP.Core.l2d_int h)
theorem own_signed_self (n : Int) : FP.Core.signed (decide (n < 0)) n.natAbs = n := by
  by_cases h : n < 0
  · rw [decide_eq_true h]; simp only [FP.Core.signed, if_true]; omega
  · rw [decide_eq_false h]; simp only [FP.Core.signed, Bool.false_eq_true, if_false]; omega
theorem own_rep (n : Int) (k : Nat) {P : Int} (hP : ((2 ^ k : Nat) : Int) = P) (hn : n.natAbs < 9007199254740992) (hk : k ≤ 2045) : own_Rep (n * P) := by
  have hmax : FP.Core.b64.qmax = 971 := by decide
  obtain ⟨c', q', h1, h2⟩ := FP.Core.round_exact FP.Core.good_b64 (decide (n < 0)) (c := n.natAbs) (q := (k : Int) - 1074) (show n.natAbs < 2 ^ 53 by omega) (by rw [FP.Core.qmin_b64]; omega) (by rw [hmax]; omega)
  refine ⟨decide (n < 0), c', q', ?_, ?_⟩
  · rw [← h1]; exact FP.Core.round_fits FP.Core.good_b64 _
  · rw [own_zval_fin, h2]
    unfold FP.Core.inUnits
    rw [show ((k : Int) - 1074 - FP.Core.b64.qmin).toNat = k by rw [FP.Core.qmin_b64]; omega, FP.Core.signed_mul, hP, own_signed_self]
theorem own_rep_U (n : Int) (hn : n.natAbs < 9007199254740992) : own_Rep (n * own_U) := own_rep n 1074 rfl hn (by decide)
/-! own text: ints, longs and branches in plain integers -/
theorem own_h_eq (x : Int32) : (ifCond.holds .eq x = true) ↔ x.toInt = 0 := by
  simp only [ifCond.holds, beq_iff_eq, ← Int32.toInt_inj, Int32.toInt_zero]
theorem own_h_ne (x : Int32) : (ifCond.holds .ne x = true) ↔ x.toInt ≠ 0 := by
  simp only [ifCond.holds, bne_iff_ne, ne_eq, ← Int32.toInt_inj, Int32.toInt_zero]
theorem own_h_lt (x : Int32) : (ifCond.holds .lt x = true) ↔ x.toInt < 0 := by
  simp only [ifCond.holds, decide_eq_true_eq, Int32.lt_iff_toInt_lt, Int32.toInt_zero]
theorem own_h_ge (x : Int32) : (ifCond.holds .ge x = true) ↔ 0 ≤ x.toInt := by
  simp only [ifCond.holds, decide_eq_true_eq, ge_iff_le, Int32.le_iff_toInt_le, Int32.toInt_zero]
theorem own_h_gt (x : Int32) : (ifCond.holds .gt x = true) ↔ 0 < x.toInt := by
  simp only [ifCond.holds, decide_eq_true_eq, gt_iff_lt, Int32.lt_iff_toInt_lt, Int32.toInt_zero]
theorem own_h_le (x : Int32) : (ifCond.holds .le x = true) ↔ x.toInt ≤ 0 := by
  simp only [ifCond.holds, decide_eq_true_eq, Int32.le_iff_toInt_le, Int32.toInt_zero]
theorem own_c_eq (x y : Int32) : (if_icmp.holds .eq x y = true) ↔ x.toInt = y.toInt := by
  simp only [if_icmp.holds, beq_iff_eq, ← Int32.toInt_inj]
theorem own_c_ne (x y : Int32) : (if_icmp.holds .ne x y = true) ↔ x.toInt ≠ y.toInt := by
  simp only [if_icmp.holds, bne_iff_ne, ne_eq, ← Int32.toInt_inj]
theorem own_c_lt (x y : Int32) : (if_icmp.holds .lt x y = true) ↔ x.toInt < y.toInt := by
  simp only [if_icmp.holds, decide_eq_true_eq, Int32.lt_iff_toInt_lt]
theorem own_c_ge (x y : Int32) : (if_icmp.holds .ge x y = true) ↔ y.toInt ≤ x.toInt := by
  simp only [if_icmp.holds, decide_eq_true_eq, ge_iff_le, Int32.le_iff_toInt_le]
theorem own_c_gt (x y : Int32) : (if_icmp.holds .gt x y = true) ↔ y.toInt < x.toInt := by
  simp only [if_icmp.holds, decide_eq_true_eq, gt_iff_lt, Int32.lt_iff_toInt_lt]
theorem own_c_le (x y : Int32) : (if_icmp.holds .le x y = true) ↔ x.toInt ≤ y.toInt := by
  simp only [if_icmp.holds, decide_eq_true_eq, Int32.le_iff_toInt_le]
theorem own_L (x y : Int64) : (XT.cmpL x y).toInt = if y.toInt < x.toInt then 1 else if x.toInt = y.toInt then 0 else -1 := by
  unfold XT.cmpL
  simp only [Int64.lt_iff_toInt_lt, ← Int64.toInt_inj]
  split
  · rfl
  · split <;> rfl
theorem own_f_of {b : Bool} {p : Prop} (h : (b = true) ↔ p) (hp : ¬ p) : b = false := Bool.eq_false_iff.mpr fun q => hp (h.mp q)
theorem own_irem (x y : Int32) : (x - x / y * y).toInt = x.toInt.tmod y.toInt := by
  have a := (x % y).toInt_lt; have b := (x % y).le_toInt
  rw [Int32.toInt_mod] at a b
  rw [Int32.toInt_sub, Int32.toInt_mul, Int32.toInt_div, Int.bmod_mul_bmod, Int.sub_bmod_bmod, Int.mul_comm, ← Int.tmod_def]
  exact Jvm.Kit.bmod32 b a
theorem own_irem_nn {x y : Int32} (hx : 0 ≤ x.toInt) : (x - x / y * y).toInt = x.toInt % y.toInt := by rw [own_irem, Int.tmod_eq_emod_of_nonneg hx]
theorem own_ne0 {y : Int32} (h : y.toInt ≠ 0) : y ≠ 0 := fun q => h (by rw [q]; rfl)
theorem own_ne0L {y : Int64} (h : y.toInt ≠ 0) : y ≠ 0 := fun q => h (by rw [q]; rfl)
theorem own_mask31 (x : Int32) : 0 ≤ (x &&& 2147483647).toInt ∧ (x &&& 2147483647).toInt < 2147483648 := by
  rw [Jvm.Kit.i32_mask x 2147483647 (k := 31) (by decide) (by decide)]
  omega



def hf_r (d4 : UInt64) (d8 : UInt64) (d9 : UInt64) : Int32 := (if (ifCond.holds .gt (cmpValue (FP.dcmp d4 d9) .g)) = true then (0 : Int32) else (1 : Int32))
def ho_res (d4 : UInt64) (d8 : UInt64) (d9 : UInt64) : Int32 := if (ifCond.holds .gt (cmpValue (FP.dcmp d8 d4) .g)) = true then (0 : Int32) else (hf_r d4 d8 d9)
def lw_lo (p1 : Int32) (p2 : Int32) (p3 : Int32) (p4 : Int32) : Int64 := (Int32.toInt64 p1)
def lw_hi (p1 : Int32) (p2 : Int32) (p3 : Int32) (p4 : Int32) : Int64 := (Int32.toInt64 p2)
def lw_off (p1 : Int32) (p2 : Int32) (p3 : Int32) (p4 : Int32) : Int64 := ((Int32.toInt64 (p3 &&& (3 : Int32))) - (1 : Int64))
def lw_m (p1 : Int32) (p2 : Int32) (p3 : Int32) (p4 : Int32) : Int32 := (p4 &&& (3 : Int32))
def lw_x0 (p1 : Int32) (p2 : Int32) (p3 : Int32) (p4 : Int32) : Int64 := (Int32.toInt64 p3)
def lw_xl (p1 : Int32) (p2 : Int32) (p3 : Int32) (p4 : Int32) : Int64 := (if (if_icmp.holds .ne (lw_m p1 p2 p3 p4) (1 : Int32)) = true then (if (if_icmp.holds .ne (lw_m p1 p2 p3 p4) (2 : Int32)) = true then (lw_x0 p1 p2 p3 p4) else ((lw_hi p1 p2 p3 p4) + (lw_off p1 p2 p3 p4))) else ((lw_lo p1 p2 p3 p4) + (lw_off p1 p2 p3 p4)))
def lw_half0 (p1 : Int32) (p2 : Int32) (p3 : Int32) (p4 : Int32) : Int32 := (if (ifCond.holds .eq (p4 &&& (4 : Int32))) = true then (0 : Int32) else (1 : Int32))
def lw_half (p1 : Int32) (p2 : Int32) (p3 : Int32) (p4 : Int32) : Int32 := (lw_half0 p1 p2 p3 p4)
def lw_d0 (p1 : Int32) (p2 : Int32) (p3 : Int32) (p4 : Int32) : UInt64 := (FP.l2d (lw_xl p1 p2 p3 p4))
def lw_x (p1 : Int32) (p2 : Int32) (p3 : Int32) (p4 : Int32) : UInt64 := (if (ifCond.holds .eq (lw_half p1 p2 p3 p4)) = true then (lw_d0 p1 p2 p3 p4) else (FP.dadd (lw_d0 p1 p2 p3 p4) (4602678819172646912 : UInt64)))
def lw_exp (p1 : Int32) (p2 : Int32) (p3 : Int32) (p4 : Int32) : Int32 := (if (ifCond.holds .eq (lw_half p1 p2 p3 p4)) = true then (if (ifCond.holds .gt (XT.cmpL (lw_lo p1 p2 p3 p4) (lw_xl p1 p2 p3 p4))) = true then (0 : Int32) else (if (ifCond.holds .gt (XT.cmpL (lw_xl p1 p2 p3 p4) (lw_hi p1 p2 p3 p4))) = true then (0 : Int32) else (1 : Int32))) else (if (ifCond.holds .gt (XT.cmpL (lw_lo p1 p2 p3 p4) (lw_xl p1 p2 p3 p4))) = true then (0 : Int32) else (if (ifCond.holds .ge (XT.cmpL (lw_xl p1 p2 p3 p4) (lw_hi p1 p2 p3 p4))) = true then (0 : Int32) else (1 : Int32))))
theorem own_fldx {Z : State} {h : Heap} {a : Addr} {C O n d O' n' d' : String} {v : Value} {a0 : Array Value} {kk : Nat} (E : Exa Z h a C) (F : Fld Z h a O n d v) (L : Laid Z a0 C O' n' d') (wi : (Cond.instantiable C kk).before a0 Z = true) : ∃ w, Fld Z h a O' n' d' w := by
  obtain ⟨cell, cf, k, i, f, h1, h2, h3, h4, h5, -, h7⟩ := F
  obtain ⟨cell', kc, e1, e2, e3, e4, e5⟩ := E
  cases h1.symm.trans e1
  obtain ⟨c1, k1, cf1, kf1, i1, f1, b1, b2, b3, b4, b5, b6, -⟩ := L.spec
  cases e2.symm.trans b1
  cases e3.symm.trans b2
  obtain ⟨c2, k2, i1', i2', i3', -⟩ := Cond.instantiable_spec wi
  cases e2.symm.trans i1'
  cases e3.symm.trans i2'
  have hs := e5 i3'
  have hlt : f1.slot < cell.slots.size := by rw [hs]; exact (Array.getElem?_eq_some_iff.mp b6).1
  exact ⟨cell.slots[f1.slot], cell, cf1, kf1, i1, f1, h1, b3, b4, h4, h5, b5, Array.getElem?_eq_getElem hlt⟩
theorem own_half : own_Fin (4602678819172646912 : UInt64) (101201126653655309176247673359458653524778324882071059178450679013715169783997673445980191850718562247593538932158405955694904368692896738433506699970369254960758712138283180682233453871046608170619883839236372534281003741712346349309051677824579778170405028256179384776166707307615251266093163754323003131653853870546747392) := ⟨(FP.Core.fin_bits _).mpr (by decide), by decide +kernel⟩

theorem own_lo (p1 p2 p3 p4 : Int32) : (lw_lo p1 p2 p3 p4).toInt = p1.toInt ∧ (lw_hi p1 p2 p3 p4).toInt = p2.toInt := ⟨Jvm.Kit.i64_of_i32 p1, Jvm.Kit.i64_of_i32 p2⟩
theorem own_off (p1 p2 p3 p4 : Int32) : -1 ≤ (lw_off p1 p2 p3 p4).toInt ∧ (lw_off p1 p2 p3 p4).toInt ≤ 2 := by
  have h := Jvm.Kit.i32_mask p3 3 (k := 2) (by decide) (by decide)
  have e : (lw_off p1 p2 p3 p4).toInt = (p3 &&& 3).toInt - 1 := by
    show (Int32.toInt64 (p3 &&& (3 : Int32)) - (1 : Int64)).toInt = _
    rw [Jvm.Kit.i64_sub (by rw [Jvm.Kit.i64_of_i32, h]; show _ ≤ _ - (1 : Int); omega) (by rw [Jvm.Kit.i64_of_i32, h]; show _ - (1 : Int) < _; omega), Jvm.Kit.i64_of_i32]; rfl
  rw [e, h]; omega
theorem own_xl (p1 p2 p3 p4 : Int32) : -2147483649 ≤ (lw_xl p1 p2 p3 p4).toInt ∧ (lw_xl p1 p2 p3 p4).toInt ≤ 2147483650 := by
  have a1 := p1.toInt_lt; have b1 := p1.le_toInt
  have a2 := p2.toInt_lt; have b2 := p2.le_toInt
  have a3 := p3.toInt_lt; have b3 := p3.le_toInt
  have h := own_lo p1 p2 p3 p4
  have ho := own_off p1 p2 p3 p4
  unfold lw_xl
  repeat' split
  all_goals first
    | (rw [Jvm.Kit.i64_add (by omega) (by omega)]; omega)
    | (show _ ≤ (Int32.toInt64 p3).toInt ∧ (Int32.toInt64 p3).toInt ≤ _; rw [Jvm.Kit.i64_of_i32]; omega)
theorem own_d0 (p1 p2 p3 p4 : Int32) : own_Fin (lw_d0 p1 p2 p3 p4) ((lw_xl p1 p2 p3 p4).toInt * 202402253307310618352495346718917307049556649764142118356901358027430339567995346891960383701437124495187077864316811911389808737385793476867013399940738509921517424276566361364466907742093216341239767678472745068562007483424692698618103355649159556340810056512358769552333414615230502532186327508646006263307707741093494784) := by
  have h := own_xl p1 p2 p3 p4
  have q := own_l2d (n := lw_xl p1 p2 p3 p4) (by omega)
  rw [own_U_lit] at q; exact q
theorem own_plus (p1 p2 p3 p4 : Int32) : own_Fin (FP.dadd (lw_d0 p1 p2 p3 p4) (4602678819172646912 : UInt64)) ((2 * (lw_xl p1 p2 p3 p4).toInt + 1) * 101201126653655309176247673359458653524778324882071059178450679013715169783997673445980191850718562247593538932158405955694904368692896738433506699970369254960758712138283180682233453871046608170619883839236372534281003741712346349309051677824579778170405028256179384776166707307615251266093163754323003131653853870546747392) := by
  have h := own_xl p1 p2 p3 p4
  have e : (lw_xl p1 p2 p3 p4).toInt * 202402253307310618352495346718917307049556649764142118356901358027430339567995346891960383701437124495187077864316811911389808737385793476867013399940738509921517424276566361364466907742093216341239767678472745068562007483424692698618103355649159556340810056512358769552333414615230502532186327508646006263307707741093494784 + 101201126653655309176247673359458653524778324882071059178450679013715169783997673445980191850718562247593538932158405955694904368692896738433506699970369254960758712138283180682233453871046608170619883839236372534281003741712346349309051677824579778170405028256179384776166707307615251266093163754323003131653853870546747392 = (2 * (lw_xl p1 p2 p3 p4).toInt + 1) * 101201126653655309176247673359458653524778324882071059178450679013715169783997673445980191850718562247593538932158405955694904368692896738433506699970369254960758712138283180682233453871046608170619883839236372534281003741712346349309051677824579778170405028256179384776166707307615251266093163754323003131653853870546747392 := by omega
  exact (own_add_e (own_d0 p1 p2 p3 p4) own_half (by rw [e]; exact own_rep _ 1073 (by decide +kernel) (by omega) (by decide))).cast e
theorem own_nn82 (p1 p2 p3 p4 : Int32) : Jvm.Free.Fl.NoNaN64 (FP.dadd (lw_d0 p1 p2 p3 p4) (4602678819172646912 : UInt64)) := (own_plus p1 p2 p3 p4).nn
theorem own_same (p1 p2 p3 p4 : Int32) : if_icmp.holds .ne (ho_res (lw_x p1 p2 p3 p4) (FP.l2d (lw_lo p1 p2 p3 p4)) (FP.l2d (lw_hi p1 p2 p3 p4))) (lw_exp p1 p2 p3 p4) = false := by
  have key : ho_res (lw_x p1 p2 p3 p4) (FP.l2d (lw_lo p1 p2 p3 p4)) (FP.l2d (lw_hi p1 p2 p3 p4)) = lw_exp p1 p2 p3 p4 := by
    have a1 := p1.toInt_lt; have b1 := p1.le_toInt
    have a2 := p2.toInt_lt; have b2 := p2.le_toInt
    have h := own_lo p1 p2 p3 p4
    have hx := own_xl p1 p2 p3 p4
    have hl := own_l2d (n := lw_lo p1 p2 p3 p4) (by omega)
    have hh := own_l2d (n := lw_hi p1 p2 p3 p4) (by omega)
    rw [own_U_lit] at hl hh
    unfold ho_res hf_r lw_exp lw_x
    by_cases c : ifCond.holds .eq (lw_half p1 p2 p3 p4) = true
    · rw [if_pos c, if_pos c]
      have hz := own_d0 p1 p2 p3 p4
      rw [(own_if hl.v hz.v .g).2.2.2.2.1, (own_if hz.v hh.v .g).2.2.2.2.1]
      simp only [decide_eq_true_eq, own_h_gt, own_L]
      repeat' split
      all_goals first | rfl | (exfalso; omega)
    · rw [if_neg c, if_neg c]
      have hz := own_plus p1 p2 p3 p4
      rw [(own_if hl.v hz.v .g).2.2.2.2.1, (own_if hz.v hh.v .g).2.2.2.2.1]
      simp only [decide_eq_true_eq, own_h_gt, own_h_ge, own_L]
      repeat' split
      all_goals first | rfl | (exfalso; omega)
  rw [key]
  exact own_f_of (own_c_ne _ _) (fun h => h rfl)
theorem d1_0 : decode prog_41_method_1_code 0 = .ok (.aload_n 0, 1) := by decide +kernel
theorem d1_1 : decode prog_41_method_1_code 1 = .ok (.invokespecial 1, 3) := by decide +kernel
theorem d1_4 : decode prog_41_method_1_code 4 = .ok (.aload_n 0, 1) := by decide +kernel
theorem d1_5 : decode prog_41_method_1_code 5 = .ok (.dload_n 1, 1) := by decide +kernel
theorem d1_6 : decode prog_41_method_1_code 6 = .ok (.putfield 7, 3) := by decide +kernel
theorem d1_9 : decode prog_41_method_1_code 9 = .ok (.aload_n 0, 1) := by decide +kernel
theorem d1_10 : decode prog_41_method_1_code 10 = .ok (.dload_n 3, 1) := by decide +kernel
theorem d1_11 : decode prog_41_method_1_code 11 = .ok (.putfield 13, 3) := by decide +kernel
theorem d1_14 : decode prog_41_method_1_code 14 = .ok (.aload_n 0, 1) := by decide +kernel
theorem d1_15 : decode prog_41_method_1_code 15 = .ok (.dload 5, 2) := by decide +kernel
theorem d1_17 : decode prog_41_method_1_code 17 = .ok (.putfield 16, 3) := by decide +kernel
theorem d1_20 : decode prog_41_method_1_code 20 = .ok (.return_, 1) := by decide +kernel
theorem d3_0 : decode prog_42_method_1_code 0 = .ok (.aload_n 0, 1) := by decide +kernel
theorem d3_1 : decode prog_42_method_1_code 1 = .ok (.invokespecial 1, 3) := by decide +kernel
theorem d3_4 : decode prog_42_method_1_code 4 = .ok (.aload_n 0, 1) := by decide +kernel
theorem d3_5 : decode prog_42_method_1_code 5 = .ok (.dload_n 1, 1) := by decide +kernel
theorem d3_6 : decode prog_42_method_1_code 6 = .ok (.putfield 7, 3) := by decide +kernel
theorem d3_9 : decode prog_42_method_1_code 9 = .ok (.aload_n 0, 1) := by decide +kernel
theorem d3_10 : decode prog_42_method_1_code 10 = .ok (.dload_n 3, 1) := by decide +kernel
theorem d3_11 : decode prog_42_method_1_code 11 = .ok (.putfield 13, 3) := by decide +kernel
theorem d3_14 : decode prog_42_method_1_code 14 = .ok (.aload_n 0, 1) := by decide +kernel
theorem d3_15 : decode prog_42_method_1_code 15 = .ok (.dload 5, 2) := by decide +kernel
theorem d3_17 : decode prog_42_method_1_code 17 = .ok (.putfield 16, 3) := by decide +kernel
theorem d3_20 : decode prog_42_method_1_code 20 = .ok (.aload_n 0, 1) := by decide +kernel
theorem d3_21 : decode prog_42_method_1_code 21 = .ok (.dload 7, 2) := by decide +kernel
theorem d3_23 : decode prog_42_method_1_code 23 = .ok (.putfield 19, 3) := by decide +kernel
theorem d3_26 : decode prog_42_method_1_code 26 = .ok (.aload_n 0, 1) := by decide +kernel
theorem d3_27 : decode prog_42_method_1_code 27 = .ok (.dload 9, 2) := by decide +kernel
theorem d3_29 : decode prog_42_method_1_code 29 = .ok (.putfield 22, 3) := by decide +kernel
theorem d3_32 : decode prog_42_method_1_code 32 = .ok (.aload_n 0, 1) := by decide +kernel
theorem d3_33 : decode prog_42_method_1_code 33 = .ok (.dload 11, 2) := by decide +kernel
theorem d3_35 : decode prog_42_method_1_code 35 = .ok (.putfield 25, 3) := by decide +kernel
theorem d3_38 : decode prog_42_method_1_code 38 = .ok (.aload_n 0, 1) := by decide +kernel
theorem d3_39 : decode prog_42_method_1_code 39 = .ok (.dload 13, 2) := by decide +kernel
theorem d3_41 : decode prog_42_method_1_code 41 = .ok (.putfield 28, 3) := by decide +kernel
theorem d3_44 : decode prog_42_method_1_code 44 = .ok (.aload_n 0, 1) := by decide +kernel
theorem d3_45 : decode prog_42_method_1_code 45 = .ok (.dload 15, 2) := by decide +kernel
theorem d3_47 : decode prog_42_method_1_code 47 = .ok (.putfield 31, 3) := by decide +kernel
theorem d3_50 : decode prog_42_method_1_code 50 = .ok (.aload_n 0, 1) := by decide +kernel
theorem d3_51 : decode prog_42_method_1_code 51 = .ok (.dload 17, 2) := by decide +kernel
theorem d3_53 : decode prog_42_method_1_code 53 = .ok (.putfield 34, 3) := by decide +kernel
theorem d3_56 : decode prog_42_method_1_code 56 = .ok (.aload_n 0, 1) := by decide +kernel
theorem d3_57 : decode prog_42_method_1_code 57 = .ok (.dload 19, 2) := by decide +kernel
theorem d3_59 : decode prog_42_method_1_code 59 = .ok (.putfield 37, 3) := by decide +kernel
theorem d3_62 : decode prog_42_method_1_code 62 = .ok (.aload_n 0, 1) := by decide +kernel
theorem d3_63 : decode prog_42_method_1_code 63 = .ok (.aload 21, 2) := by decide +kernel
theorem d3_65 : decode prog_42_method_1_code 65 = .ok (.putfield 40, 3) := by decide +kernel
theorem d3_68 : decode prog_42_method_1_code 68 = .ok (.aload_n 0, 1) := by decide +kernel
theorem d3_69 : decode prog_42_method_1_code 69 = .ok (.dload 22, 2) := by decide +kernel
theorem d3_71 : decode prog_42_method_1_code 71 = .ok (.putfield 44, 3) := by decide +kernel
theorem d3_74 : decode prog_42_method_1_code 74 = .ok (.aload_n 0, 1) := by decide +kernel
theorem d3_75 : decode prog_42_method_1_code 75 = .ok (.dload 24, 2) := by decide +kernel
theorem d3_77 : decode prog_42_method_1_code 77 = .ok (.putfield 47, 3) := by decide +kernel
theorem d3_80 : decode prog_42_method_1_code 80 = .ok (.aload_n 0, 1) := by decide +kernel
theorem d3_81 : decode prog_42_method_1_code 81 = .ok (.dload 26, 2) := by decide +kernel
theorem d3_83 : decode prog_42_method_1_code 83 = .ok (.putfield 50, 3) := by decide +kernel
theorem d3_86 : decode prog_42_method_1_code 86 = .ok (.aload_n 0, 1) := by decide +kernel
theorem d3_87 : decode prog_42_method_1_code 87 = .ok (.dload 28, 2) := by decide +kernel
theorem d3_89 : decode prog_42_method_1_code 89 = .ok (.putfield 53, 3) := by decide +kernel
theorem d3_92 : decode prog_42_method_1_code 92 = .ok (.aload_n 0, 1) := by decide +kernel
theorem d3_93 : decode prog_42_method_1_code 93 = .ok (.dload 30, 2) := by decide +kernel
theorem d3_95 : decode prog_42_method_1_code 95 = .ok (.putfield 56, 3) := by decide +kernel
theorem d3_98 : decode prog_42_method_1_code 98 = .ok (.aload_n 0, 1) := by decide +kernel
theorem d3_99 : decode prog_42_method_1_code 99 = .ok (.dload 32, 2) := by decide +kernel
theorem d3_101 : decode prog_42_method_1_code 101 = .ok (.putfield 59, 3) := by decide +kernel
theorem d3_104 : decode prog_42_method_1_code 104 = .ok (.aload_n 0, 1) := by decide +kernel
theorem d3_105 : decode prog_42_method_1_code 105 = .ok (.dload 34, 2) := by decide +kernel
theorem d3_107 : decode prog_42_method_1_code 107 = .ok (.putfield 62, 3) := by decide +kernel
theorem d3_110 : decode prog_42_method_1_code 110 = .ok (.aload_n 0, 1) := by decide +kernel
theorem d3_111 : decode prog_42_method_1_code 111 = .ok (.dload 36, 2) := by decide +kernel
theorem d3_113 : decode prog_42_method_1_code 113 = .ok (.putfield 65, 3) := by decide +kernel
theorem d3_116 : decode prog_42_method_1_code 116 = .ok (.aload_n 0, 1) := by decide +kernel
theorem d3_117 : decode prog_42_method_1_code 117 = .ok (.dload 38, 2) := by decide +kernel
theorem d3_119 : decode prog_42_method_1_code 119 = .ok (.putfield 68, 3) := by decide +kernel
theorem d3_122 : decode prog_42_method_1_code 122 = .ok (.aload_n 0, 1) := by decide +kernel
theorem d3_123 : decode prog_42_method_1_code 123 = .ok (.dload 40, 2) := by decide +kernel
theorem d3_125 : decode prog_42_method_1_code 125 = .ok (.putfield 71, 3) := by decide +kernel
theorem d3_128 : decode prog_42_method_1_code 128 = .ok (.aload_n 0, 1) := by decide +kernel
theorem d3_129 : decode prog_42_method_1_code 129 = .ok (.dload 42, 2) := by decide +kernel
theorem d3_131 : decode prog_42_method_1_code 131 = .ok (.putfield 74, 3) := by decide +kernel
theorem d3_134 : decode prog_42_method_1_code 134 = .ok (.aload_n 0, 1) := by decide +kernel
theorem d3_135 : decode prog_42_method_1_code 135 = .ok (.dload 44, 2) := by decide +kernel
theorem d3_137 : decode prog_42_method_1_code 137 = .ok (.putfield 77, 3) := by decide +kernel
theorem d3_140 : decode prog_42_method_1_code 140 = .ok (.aload_n 0, 1) := by decide +kernel
theorem d3_141 : decode prog_42_method_1_code 141 = .ok (.iload 46, 2) := by decide +kernel
theorem d3_143 : decode prog_42_method_1_code 143 = .ok (.putfield 80, 3) := by decide +kernel
theorem d3_146 : decode prog_42_method_1_code 146 = .ok (.aload_n 0, 1) := by decide +kernel
theorem d3_147 : decode prog_42_method_1_code 147 = .ok (.iload 47, 2) := by decide +kernel
theorem d3_149 : decode prog_42_method_1_code 149 = .ok (.putfield 84, 3) := by decide +kernel
theorem d3_152 : decode prog_42_method_1_code 152 = .ok (.aload_n 0, 1) := by decide +kernel
theorem d3_153 : decode prog_42_method_1_code 153 = .ok (.dload 48, 2) := by decide +kernel
theorem d3_155 : decode prog_42_method_1_code 155 = .ok (.putfield 87, 3) := by decide +kernel
theorem d3_158 : decode prog_42_method_1_code 158 = .ok (.aload_n 0, 1) := by decide +kernel
theorem d3_159 : decode prog_42_method_1_code 159 = .ok (.dload 50, 2) := by decide +kernel
theorem d3_161 : decode prog_42_method_1_code 161 = .ok (.putfield 90, 3) := by decide +kernel
theorem d3_164 : decode prog_42_method_1_code 164 = .ok (.aload_n 0, 1) := by decide +kernel
theorem d3_165 : decode prog_42_method_1_code 165 = .ok (.dload 52, 2) := by decide +kernel
theorem d3_167 : decode prog_42_method_1_code 167 = .ok (.putfield 93, 3) := by decide +kernel
theorem d3_170 : decode prog_42_method_1_code 170 = .ok (.return_, 1) := by decide +kernel
theorem d4_0 : decode prog_42_method_6_code 0 = .ok (.aload_n 0, 1) := by decide +kernel
theorem d4_1 : decode prog_42_method_6_code 1 = .ok (.getfield 7, 3) := by decide +kernel
theorem d4_4 : decode prog_42_method_6_code 4 = .ok (.dload_n 1, 1) := by decide +kernel
theorem d4_5 : decode prog_42_method_6_code 5 = .ok (.dcmp .g, 1) := by decide +kernel
theorem d4_6 : decode prog_42_method_6_code 6 = .ok (.ifCond .gt 16, 3) := by decide +kernel
theorem d4_9 : decode prog_42_method_6_code 9 = .ok (.dload_n 1, 1) := by decide +kernel
theorem d4_10 : decode prog_42_method_6_code 10 = .ok (.aload_n 0, 1) := by decide +kernel
theorem d4_11 : decode prog_42_method_6_code 11 = .ok (.getfield 13, 3) := by decide +kernel
theorem d4_14 : decode prog_42_method_6_code 14 = .ok (.dcmp .g, 1) := by decide +kernel
theorem d4_15 : decode prog_42_method_6_code 15 = .ok (.ifCond .gt 7, 3) := by decide +kernel
theorem d4_18 : decode prog_42_method_6_code 18 = .ok (.iconst 1, 1) := by decide +kernel
theorem d4_19 : decode prog_42_method_6_code 19 = .ok (.goto 4, 3) := by decide +kernel
theorem d4_22 : decode prog_42_method_6_code 22 = .ok (.iconst 0, 1) := by decide +kernel
theorem d4_23 : decode prog_42_method_6_code 23 = .ok (.ireturn, 1) := by decide +kernel
theorem pn_0 : plainName "com/example/quadratur/quadratur/method/GaussKronrod$FarEnd" = true := by first | (simp [plainName, overriddenIn]; done) | decide +kernel
theorem pn_1 : plainName "com/example/quadratur/quadratur/method/GaussKronrod$Piece" = true := by first | (simp [plainName, overriddenIn]; done) | decide +kernel
theorem pn_2 : plainName "com/example/quadratur/quadratur/method/PieceHoldsPinLaw" = true := by first | (simp [plainName, overriddenIn]; done) | decide +kernel
theorem pd_0 : parseMethodDescriptor "(DDD)V" = some ⟨[.double, .double, .double], none⟩ := by decide +kernel
theorem pd_1 : parseMethodDescriptor "(DDDDDDDDDDLcom/example/quadratur/quadratur/method/GaussKronrod$FarEnd;DDDDDDDDDDDDIIDDD)V" = some ⟨[.double, .double, .double, .double, .double, .double, .double, .double, .double, .double, (.object "com/example/quadratur/quadratur/method/GaussKronrod$FarEnd"), .double, .double, .double, .double, .double, .double, .double, .double, .double, .double, .double, .double, .int, .int, .double, .double, .double], none⟩ := by decide +kernel
theorem pd_2 : parseMethodDescriptor "(D)Z" = some ⟨[.double], some .boolean⟩ := by decide +kernel
theorem ef_ini (m : MethodId) (a1 : Addr) (d1 : UInt64) (d2 : UInt64) (d3 : UInt64) : entryFrame m #[(.ref a1), (.double d1), (.double d2), (.double d3)] 7 = (mkF m 0 #[.val (.ref a1), .val (.double d1), .second, .val (.double d2), .second, .val (.double d3), .second] []) := by first | (simp [entryFrame, mkF, argsToLocals, Value.category]; done) | rfl
def Q_ini (Z : State) (a1 : Addr) (d1 : UInt64) (d2 : UInt64) (d3 : UInt64)  (h0 : Heap) (n0 : Nat) (v : Option Value) (h : Heap) (L : List Loc) : Prop := v = none ∧ Fr n0 L ∧ Keep h0 h [a1] ∧ (Exa Z h a1 "com/example/quadratur/quadratur/method/GaussKronrod$FarEnd") ∧ (Fld Z h a1 "com/example/quadratur/quadratur/method/GaussKronrod$FarEnd" "slope" "D" (.double d1)) ∧ (Fld Z h a1 "com/example/quadratur/quadratur/method/GaussKronrod$FarEnd" "slopeAt" "D" (.double d2)) ∧ (Fld Z h a1 "com/example/quadratur/quadratur/method/GaussKronrod$FarEnd" "curvature" "D" (.double d3))
set_option maxRecDepth 65536 in
set_option maxHeartbeats 40000000 in
theorem rm_ini (l : Launch) (Z : State) (a0 : Array Value) (hw : ∀ d ∈ tables_1, d.before a0 Z = true) (ws : List Jvm.Cond) (a1 : Addr) (d1 : UInt64) (d2 : UInt64) (d3 : UInt64)  (h0 : Heap) (n0 : Nat) (Z0 : n0 ≤ h0.size) (k0_ : Fld Z h0 a1 "com/example/quadratur/quadratur/method/GaussKronrod$FarEnd" "slope" "D" (.double (0 : UInt64))) (k1_ : Fld Z h0 a1 "com/example/quadratur/quadratur/method/GaussKronrod$FarEnd" "slopeAt" "D" (.double (0 : UInt64))) (k2_ : Fld Z h0 a1 "com/example/quadratur/quadratur/method/GaussKronrod$FarEnd" "curvature" "D" (.double (0 : UInt64))) (k3_ : Exa Z h0 a1 "com/example/quadratur/quadratur/method/GaussKronrod$FarEnd") (k4_ : n0 ≤ a1)   :
    MetFree l (⟨"com/example/quadratur/quadratur/method/GaussKronrod$FarEnd", "<init>", "(DDD)V"⟩ : MethodName) (head1 (Jvm.Cond.code (⟨"com/example/quadratur/quadratur/method/GaussKronrod$FarEnd", "<init>", "(DDD)V"⟩ : MethodName) prog_41_method_1_code 7 none :: ws) ({ frames := 1, cells := 0, slots := 0, locals := 12 } : Room)) (fun a U => a = #[(.ref a1), (.double d1), (.double d2), (.double d3)] ∧ Z.Warmed39 U.vm ∧ U.heap = h0) (fun _ _ _ _ _ => True) (fun _ U o U' => ∃ v L, o = .returned v ∧ Q_ini Z a1 d1 d2 d3  h0 n0 v U'.heap L ∧ FrameEnd U o U' L ({ frames := 1, cells := 0, slots := 0, locals := 12 } : Room).cells ({ frames := 1, cells := 0, slots := 0, locals := 12 } : Room).slots) := by
  refine MetFree.of_bodySF (plainFor_of_name pn_0) hisR ?_
  intro p e s m args below meth c s₁ Bd hml0 hP hK
  obtain ⟨rfl, hZ, hh⟩ := hP
  have hx := Bd.exec
  have hby := Bd.bytes
  have hml : c.maxLocals = 7 := hml0
  have hown : s.vm.findClass "com/example/quadratur/quadratur/method/GaussKronrod$FarEnd" = some m.cls := findClass_of_methodNamed Bd.named
  have hnm := (name_of_methodNamed Bd.named Bd.method).1
  have X0 : Stand p l e ({ frames := 1, cells := 0, slots := 0, locals := 12 } : Room) s m #[(.ref a1), (.double d1), (.double d2), (.double d3)] below meth c s₁ [] 0 0 := Stand.of_body Bd
  have e0 : s₁.heap = h0 := by rw [← hh, Bd.state]; rfl
  have N0 := Fr.nil n0
  have pre0 : ∀ t, Steps p.tables e below (s₁.setTop (mkF m 0 #[.val (.ref a1), .val (.double d1), .second, .val (.double d2), .second, .val (.double d3), .second] [])) t → Steps p.tables e below (s₁.setTop (entryFrame m #[(.ref a1), (.double d1), (.double d2), (.double d3)] 7)) t := fun t k => castTop (ef_ini m a1 d1 d2 d3) k
  have K0 := Keep.refl h0 [a1]
  obtain ⟨T1, X1, e1, st1⟩ := initO X0 hx hZ hown (hw _ (List.mem_of_getElem? (i := 6) rfl)) (hw _ (List.mem_of_getElem? (i := 7) rfl)) (hw _ (List.mem_of_getElem? (i := 8) rfl)) e0 (g := (mkF m 1 #[.val (.ref a1), .val (.double d1), .second, .val (.double d2), .second, .val (.double d3), .second] [(.ref a1)])) rfl (by rw [hml]; rfl) rfl (hb hby d1_1) (by decide) (W := 0) (by show 2 * 0 + _ ≤ _; exact Nat.le_of_eq rfl) (by decide)
  obtain ⟨T2, h2, X2, e2, W2, st2⟩ := putF X1 hx hZ hown (host := "") (Or.inl (hw _ (List.mem_of_getElem? (i := 9) rfl))) Via.refl e1 k0_ k3_ (Or.inr ⟨(hw _ (List.mem_of_getElem? (i := 10) rfl)), rfl, hnm⟩) (hw _ (List.mem_of_getElem? (i := 1) rfl)) (ty := .double) (by decide) rfl rfl (g := (mkF m 6 #[.val (.ref a1), .val (.double d1), .second, .val (.double d2), .second, .val (.double d3), .second] [(.double d1), (.ref a1)])) rfl rfl (hb hby d1_6)
  have Nn2 := Fr.snoc X2 N0 k4_
  have q3 : Fld Z h2 a1 "com/example/quadratur/quadratur/method/GaussKronrod$FarEnd" "slopeAt" "D" (.double (0 : UInt64)) := (k1_.other W2 (Or.inr (slot_ne (a0 := a0) (C := "com/example/quadratur/quadratur/method/GaussKronrod$FarEnd") (Or.inr (hw _ (List.mem_of_getElem? (i := 12) rfl))) (Or.inr (hw _ (List.mem_of_getElem? (i := 10) rfl))) (by decide) (t := .double) (t' := .double) (by decide) (by decide))))
  have q4 : Fld Z h2 a1 "com/example/quadratur/quadratur/method/GaussKronrod$FarEnd" "curvature" "D" (.double (0 : UInt64)) := (k2_.other W2 (Or.inr (slot_ne (a0 := a0) (C := "com/example/quadratur/quadratur/method/GaussKronrod$FarEnd") (Or.inr (hw _ (List.mem_of_getElem? (i := 14) rfl))) (Or.inr (hw _ (List.mem_of_getElem? (i := 10) rfl))) (by decide) (t := .double) (t' := .double) (by decide) (by decide))))
  have q5 : Exa Z h2 a1 "com/example/quadratur/quadratur/method/GaussKronrod$FarEnd" := (k3_.wr W2)
  have q2n : Fld Z h2 a1 "com/example/quadratur/quadratur/method/GaussKronrod$FarEnd" "slope" "D" (.double d1) := (k0_.same W2)
  have K2 := K0.wr W2 (Or.inl (List.mem_of_getElem? (i := 0) rfl))
  have Z2 : n0 ≤ h2.size := Nat.le_trans Z0 (Keep.of_wr W2).1
  obtain ⟨T6, h6, X6, e6, W6, st6⟩ := putF X2 hx hZ hown (host := "") (Or.inl (hw _ (List.mem_of_getElem? (i := 11) rfl))) Via.refl e2 q3 q5 (Or.inr ⟨(hw _ (List.mem_of_getElem? (i := 12) rfl)), rfl, hnm⟩) (hw _ (List.mem_of_getElem? (i := 1) rfl)) (ty := .double) (by decide) rfl rfl (g := (mkF m 11 #[.val (.ref a1), .val (.double d1), .second, .val (.double d2), .second, .val (.double d3), .second] [(.double d2), (.ref a1)])) rfl rfl (hb hby d1_11)
  have Nn6 := Fr.snoc X6 Nn2 k4_
  have q7 : Fld Z h6 a1 "com/example/quadratur/quadratur/method/GaussKronrod$FarEnd" "curvature" "D" (.double (0 : UInt64)) := (q4.other W6 (Or.inr (slot_ne (a0 := a0) (C := "com/example/quadratur/quadratur/method/GaussKronrod$FarEnd") (Or.inr (hw _ (List.mem_of_getElem? (i := 14) rfl))) (Or.inr (hw _ (List.mem_of_getElem? (i := 12) rfl))) (by decide) (t := .double) (t' := .double) (by decide) (by decide))))
  have q8 : Exa Z h6 a1 "com/example/quadratur/quadratur/method/GaussKronrod$FarEnd" := (q5.wr W6)
  have q9 : Fld Z h6 a1 "com/example/quadratur/quadratur/method/GaussKronrod$FarEnd" "slope" "D" (.double d1) := (q2n.other W6 (Or.inr (slot_ne (a0 := a0) (C := "com/example/quadratur/quadratur/method/GaussKronrod$FarEnd") (Or.inr (hw _ (List.mem_of_getElem? (i := 10) rfl))) (Or.inr (hw _ (List.mem_of_getElem? (i := 12) rfl))) (by decide) (t := .double) (t' := .double) (by decide) (by decide))))
  have q6n : Fld Z h6 a1 "com/example/quadratur/quadratur/method/GaussKronrod$FarEnd" "slopeAt" "D" (.double d2) := (q3.same W6)
  have K6 := K2.wr W6 (Or.inl (List.mem_of_getElem? (i := 0) rfl))
  have Z6 : n0 ≤ h6.size := Nat.le_trans Z2 (Keep.of_wr W6).1
  obtain ⟨T10, h10, X10, e10, W10, st10⟩ := putF X6 hx hZ hown (host := "") (Or.inl (hw _ (List.mem_of_getElem? (i := 13) rfl))) Via.refl e6 q7 q8 (Or.inr ⟨(hw _ (List.mem_of_getElem? (i := 14) rfl)), rfl, hnm⟩) (hw _ (List.mem_of_getElem? (i := 1) rfl)) (ty := .double) (by decide) rfl rfl (g := (mkF m 17 #[.val (.ref a1), .val (.double d1), .second, .val (.double d2), .second, .val (.double d3), .second] [(.double d3), (.ref a1)])) rfl rfl (hb hby d1_17)
  have Nn10 := Fr.snoc X10 Nn6 k4_
  have q11 : Exa Z h10 a1 "com/example/quadratur/quadratur/method/GaussKronrod$FarEnd" := (q8.wr W10)
  have q12 : Fld Z h10 a1 "com/example/quadratur/quadratur/method/GaussKronrod$FarEnd" "slope" "D" (.double d1) := (q9.other W10 (Or.inr (slot_ne (a0 := a0) (C := "com/example/quadratur/quadratur/method/GaussKronrod$FarEnd") (Or.inr (hw _ (List.mem_of_getElem? (i := 10) rfl))) (Or.inr (hw _ (List.mem_of_getElem? (i := 14) rfl))) (by decide) (t := .double) (t' := .double) (by decide) (by decide))))
  have q13 : Fld Z h10 a1 "com/example/quadratur/quadratur/method/GaussKronrod$FarEnd" "slopeAt" "D" (.double d2) := (q6n.other W10 (Or.inr (slot_ne (a0 := a0) (C := "com/example/quadratur/quadratur/method/GaussKronrod$FarEnd") (Or.inr (hw _ (List.mem_of_getElem? (i := 12) rfl))) (Or.inr (hw _ (List.mem_of_getElem? (i := 14) rfl))) (by decide) (t := .double) (t' := .double) (by decide) (by decide))))
  have q10n : Fld Z h10 a1 "com/example/quadratur/quadratur/method/GaussKronrod$FarEnd" "curvature" "D" (.double d3) := (q7.same W10)
  have K10 := K6.wr W10 (Or.inl (List.mem_of_getElem? (i := 0) rfl))
  have Z10 : n0 ≤ h10.size := Nat.le_trans Z6 (Keep.of_wr W10).1
  obtain ⟨fs, hr, hrun, hended, hW, hsame⟩ := X10.leave (v := none) (fun _ => rfl)
  refine ⟨_, _, pre0 _ ?_, hrun, hended, _, _, rfl, ?_, ⟨_, rfl⟩, hW, hsame.mono (Nat.le_of_ble_eq_true rfl) (Nat.le_of_ble_eq_true rfl)⟩
  · show Steps p.tables e below (s₁.setTop (mkF m 0 #[.val (.ref a1), .val (.double d1), .second, .val (.double d2), .second, .val (.double d3), .second] [])) _
    refine XS.aloadN X0.here hx rfl (hb hby d1_0) rfl rfl ?_
    show Steps p.tables e below (s₁.setTop (mkF m 1 #[.val (.ref a1), .val (.double d1), .second, .val (.double d2), .second, .val (.double d3), .second] [(.ref a1)])) _
    refine st1 _ ?_
    show Steps p.tables e below (T1.setTop (mkF m 4 #[.val (.ref a1), .val (.double d1), .second, .val (.double d2), .second, .val (.double d3), .second] [])) _
    refine XS.aloadN X1.here hx rfl (hb hby d1_4) rfl rfl ?_
    show Steps p.tables e below (T1.setTop (mkF m 5 #[.val (.ref a1), .val (.double d1), .second, .val (.double d2), .second, .val (.double d3), .second] [(.ref a1)])) _
    refine XS.dloadN X1.here hx rfl (hb hby d1_5) rfl ?_
    show Steps p.tables e below (T1.setTop (mkF m 6 #[.val (.ref a1), .val (.double d1), .second, .val (.double d2), .second, .val (.double d3), .second] [(.double d1), (.ref a1)])) _
    refine st2 _ ?_
    show Steps p.tables e below (T2.setTop (mkF m 9 #[.val (.ref a1), .val (.double d1), .second, .val (.double d2), .second, .val (.double d3), .second] [])) _
    refine XS.aloadN X2.here hx rfl (hb hby d1_9) rfl rfl ?_
    show Steps p.tables e below (T2.setTop (mkF m 10 #[.val (.ref a1), .val (.double d1), .second, .val (.double d2), .second, .val (.double d3), .second] [(.ref a1)])) _
    refine XS.dloadN X2.here hx rfl (hb hby d1_10) rfl ?_
    show Steps p.tables e below (T2.setTop (mkF m 11 #[.val (.ref a1), .val (.double d1), .second, .val (.double d2), .second, .val (.double d3), .second] [(.double d2), (.ref a1)])) _
    refine st6 _ ?_
    show Steps p.tables e below (T6.setTop (mkF m 14 #[.val (.ref a1), .val (.double d1), .second, .val (.double d2), .second, .val (.double d3), .second] [])) _
    refine XS.aloadN X6.here hx rfl (hb hby d1_14) rfl rfl ?_
    show Steps p.tables e below (T6.setTop (mkF m 15 #[.val (.ref a1), .val (.double d1), .second, .val (.double d2), .second, .val (.double d3), .second] [(.ref a1)])) _
    refine XS.dload X6.here hx rfl (hb hby d1_15) rfl ?_
    show Steps p.tables e below (T6.setTop (mkF m 17 #[.val (.ref a1), .val (.double d1), .second, .val (.double d2), .second, .val (.double d3), .second] [(.double d3), (.ref a1)])) _
    refine st10 _ ?_
    show Steps p.tables e below (T10.setTop (mkF m 20 #[.val (.ref a1), .val (.double d1), .second, .val (.double d2), .second, .val (.double d3), .second] [])) _
    exact X10.returnOut hx Bd.returns (hb hby d1_20) hr
  · show Q_ini Z a1 d1 d2 d3  h0 n0 _ T10.heap _
    rw [e10]
    exact ⟨rfl, Nn10, K10, q11, q12, q13, q10n⟩
theorem ef_pin (m : MethodId) (a1 : Addr) (d1 : UInt64) (d2 : UInt64) (y0 : UInt64) (y1 : UInt64) (y2 : UInt64) (y3 : UInt64) (y4 : UInt64) (y5 : UInt64) (y6 : UInt64) (y7 : UInt64) (a2 : Addr) (z0 : UInt64) (z1 : UInt64) (z2 : UInt64) (z3 : UInt64) (z4 : UInt64) (z5 : UInt64) (z6 : UInt64) (z7 : UInt64) (z8 : UInt64) (z9 : UInt64) (z10 : UInt64) (z11 : UInt64) (i1 : Int32) (i2 : Int32) (u1 : UInt64) (u2 : UInt64) (u3 : UInt64) : entryFrame m #[(.ref a1), (.double d1), (.double d2), (.double y0), (.double y1), (.double y2), (.double y3), (.double y4), (.double y5), (.double y6), (.double y7), (.ref a2), (.double z0), (.double z1), (.double z2), (.double z3), (.double z4), (.double z5), (.double z6), (.double z7), (.double z8), (.double z9), (.double z10), (.double z11), (.int i1), (.int i2), (.double u1), (.double u2), (.double u3)] 54 = (mkF m 0 #[.val (.ref a1), .val (.double d1), .second, .val (.double d2), .second, .val (.double y0), .second, .val (.double y1), .second, .val (.double y2), .second, .val (.double y3), .second, .val (.double y4), .second, .val (.double y5), .second, .val (.double y6), .second, .val (.double y7), .second, .val (.ref a2), .val (.double z0), .second, .val (.double z1), .second, .val (.double z2), .second, .val (.double z3), .second, .val (.double z4), .second, .val (.double z5), .second, .val (.double z6), .second, .val (.double z7), .second, .val (.double z8), .second, .val (.double z9), .second, .val (.double z10), .second, .val (.double z11), .second, .val (.int i1), .val (.int i2), .val (.double u1), .second, .val (.double u2), .second, .val (.double u3), .second] []) := by first | (simp [entryFrame, mkF, argsToLocals, Value.category]; done) | rfl
def Q_pin (Z : State) (a1 : Addr) (d1 : UInt64) (d2 : UInt64) (y0 : UInt64) (y1 : UInt64) (y2 : UInt64) (y3 : UInt64) (y4 : UInt64) (y5 : UInt64) (y6 : UInt64) (y7 : UInt64) (a2 : Addr) (z0 : UInt64) (z1 : UInt64) (z2 : UInt64) (z3 : UInt64) (z4 : UInt64) (z5 : UInt64) (z6 : UInt64) (z7 : UInt64) (z8 : UInt64) (z9 : UInt64) (z10 : UInt64) (z11 : UInt64) (i1 : Int32) (i2 : Int32) (u1 : UInt64) (u2 : UInt64) (u3 : UInt64)  (h0 : Heap) (n0 : Nat) (v : Option Value) (h : Heap) (L : List Loc) : Prop := v = none ∧ Fr n0 L ∧ Keep h0 h [a1] ∧ (Exa Z h a1 "com/example/quadratur/quadratur/method/GaussKronrod$Piece") ∧ (Fld Z h a1 "com/example/quadratur/quadratur/method/GaussKronrod$Piece" "lo" "D" (.double d1)) ∧ (Fld Z h a1 "com/example/quadratur/quadratur/method/GaussKronrod$Piece" "hi" "D" (.double d2))
set_option maxRecDepth 65536 in
set_option maxHeartbeats 40000000 in
theorem rm_pin (l : Launch) (Z : State) (a0 : Array Value) (hw : ∀ d ∈ tables_1, d.before a0 Z = true) (ws : List Jvm.Cond) (a1 : Addr) (d1 : UInt64) (d2 : UInt64) (y0 : UInt64) (y1 : UInt64) (y2 : UInt64) (y3 : UInt64) (y4 : UInt64) (y5 : UInt64) (y6 : UInt64) (y7 : UInt64) (a2 : Addr) (z0 : UInt64) (z1 : UInt64) (z2 : UInt64) (z3 : UInt64) (z4 : UInt64) (z5 : UInt64) (z6 : UInt64) (z7 : UInt64) (z8 : UInt64) (z9 : UInt64) (z10 : UInt64) (z11 : UInt64) (i1 : Int32) (i2 : Int32) (u1 : UInt64) (u2 : UInt64) (u3 : UInt64)  (h0 : Heap) (n0 : Nat) (Z0 : n0 ≤ h0.size) (k0_ : Fld Z h0 a1 "com/example/quadratur/quadratur/method/GaussKronrod$Piece" "lo" "D" (.double (0 : UInt64))) (k1_ : Exa Z h0 a1 "com/example/quadratur/quadratur/method/GaussKronrod$Piece") (k2_ : n0 ≤ a1)   :
    MetFree l (⟨"com/example/quadratur/quadratur/method/GaussKronrod$Piece", "<init>", "(DDDDDDDDDDLcom/example/quadratur/quadratur/method/GaussKronrod$FarEnd;DDDDDDDDDDDDIIDDD)V"⟩ : MethodName) (head1 (Jvm.Cond.code (⟨"com/example/quadratur/quadratur/method/GaussKronrod$Piece", "<init>", "(DDDDDDDDDDLcom/example/quadratur/quadratur/method/GaussKronrod$FarEnd;DDDDDDDDDDDDIIDDD)V"⟩ : MethodName) prog_42_method_1_code 54 none :: ws) ({ frames := 1, cells := 0, slots := 0, locals := 12 } : Room)) (fun a U => a = #[(.ref a1), (.double d1), (.double d2), (.double y0), (.double y1), (.double y2), (.double y3), (.double y4), (.double y5), (.double y6), (.double y7), (.ref a2), (.double z0), (.double z1), (.double z2), (.double z3), (.double z4), (.double z5), (.double z6), (.double z7), (.double z8), (.double z9), (.double z10), (.double z11), (.int i1), (.int i2), (.double u1), (.double u2), (.double u3)] ∧ Z.Warmed39 U.vm ∧ U.heap = h0) (fun _ _ _ _ _ => True) (fun _ U o U' => ∃ v L, o = .returned v ∧ Q_pin Z a1 d1 d2 y0 y1 y2 y3 y4 y5 y6 y7 a2 z0 z1 z2 z3 z4 z5 z6 z7 z8 z9 z10 z11 i1 i2 u1 u2 u3  h0 n0 v U'.heap L ∧ FrameEnd U o U' L ({ frames := 1, cells := 0, slots := 0, locals := 12 } : Room).cells ({ frames := 1, cells := 0, slots := 0, locals := 12 } : Room).slots) := by
  refine MetFree.of_bodySF (plainFor_of_name pn_1) hisR ?_
  intro p e s m args below meth c s₁ Bd hml0 hP hK
  obtain ⟨rfl, hZ, hh⟩ := hP
  have hx := Bd.exec
  have hby := Bd.bytes
  have hml : c.maxLocals = 54 := hml0
  have hown : s.vm.findClass "com/example/quadratur/quadratur/method/GaussKronrod$Piece" = some m.cls := findClass_of_methodNamed Bd.named
  have hnm := (name_of_methodNamed Bd.named Bd.method).1
  have X0 : Stand p l e ({ frames := 1, cells := 0, slots := 0, locals := 12 } : Room) s m #[(.ref a1), (.double d1), (.double d2), (.double y0), (.double y1), (.double y2), (.double y3), (.double y4), (.double y5), (.double y6), (.double y7), (.ref a2), (.double z0), (.double z1), (.double z2), (.double z3), (.double z4), (.double z5), (.double z6), (.double z7), (.double z8), (.double z9), (.double z10), (.double z11), (.int i1), (.int i2), (.double u1), (.double u2), (.double u3)] below meth c s₁ [] 0 0 := Stand.of_body Bd
  have e0 : s₁.heap = h0 := by rw [← hh, Bd.state]; rfl
  have N0 := Fr.nil n0
  have pre0 : ∀ t, Steps p.tables e below (s₁.setTop (mkF m 0 #[.val (.ref a1), .val (.double d1), .second, .val (.double d2), .second, .val (.double y0), .second, .val (.double y1), .second, .val (.double y2), .second, .val (.double y3), .second, .val (.double y4), .second, .val (.double y5), .second, .val (.double y6), .second, .val (.double y7), .second, .val (.ref a2), .val (.double z0), .second, .val (.double z1), .second, .val (.double z2), .second, .val (.double z3), .second, .val (.double z4), .second, .val (.double z5), .second, .val (.double z6), .second, .val (.double z7), .second, .val (.double z8), .second, .val (.double z9), .second, .val (.double z10), .second, .val (.double z11), .second, .val (.int i1), .val (.int i2), .val (.double u1), .second, .val (.double u2), .second, .val (.double u3), .second] [])) t → Steps p.tables e below (s₁.setTop (entryFrame m #[(.ref a1), (.double d1), (.double d2), (.double y0), (.double y1), (.double y2), (.double y3), (.double y4), (.double y5), (.double y6), (.double y7), (.ref a2), (.double z0), (.double z1), (.double z2), (.double z3), (.double z4), (.double z5), (.double z6), (.double z7), (.double z8), (.double z9), (.double z10), (.double z11), (.int i1), (.int i2), (.double u1), (.double u2), (.double u3)] 54)) t := fun t k => castTop (ef_pin m a1 d1 d2 y0 y1 y2 y3 y4 y5 y6 y7 a2 z0 z1 z2 z3 z4 z5 z6 z7 z8 z9 z10 z11 i1 i2 u1 u2 u3) k
  have K0 := Keep.refl h0 [a1]
  obtain ⟨T1, X1, e1, st1⟩ := initO X0 hx hZ hown (hw _ (List.mem_of_getElem? (i := 21) rfl)) (hw _ (List.mem_of_getElem? (i := 7) rfl)) (hw _ (List.mem_of_getElem? (i := 8) rfl)) e0 (g := (mkF m 1 #[.val (.ref a1), .val (.double d1), .second, .val (.double d2), .second, .val (.double y0), .second, .val (.double y1), .second, .val (.double y2), .second, .val (.double y3), .second, .val (.double y4), .second, .val (.double y5), .second, .val (.double y6), .second, .val (.double y7), .second, .val (.ref a2), .val (.double z0), .second, .val (.double z1), .second, .val (.double z2), .second, .val (.double z3), .second, .val (.double z4), .second, .val (.double z5), .second, .val (.double z6), .second, .val (.double z7), .second, .val (.double z8), .second, .val (.double z9), .second, .val (.double z10), .second, .val (.double z11), .second, .val (.int i1), .val (.int i2), .val (.double u1), .second, .val (.double u2), .second, .val (.double u3), .second] [(.ref a1)])) rfl (by rw [hml]; rfl) rfl (hb hby d3_1) (by decide) (W := 0) (by show 2 * 0 + _ ≤ _; exact Nat.le_of_eq rfl) (by decide)
  obtain ⟨T2, h2, X2, e2, W2, st2⟩ := putF X1 hx hZ hown (host := "") (Or.inl (hw _ (List.mem_of_getElem? (i := 22) rfl))) Via.refl e1 k0_ k1_ (Or.inr ⟨(hw _ (List.mem_of_getElem? (i := 23) rfl)), rfl, hnm⟩) (hw _ (List.mem_of_getElem? (i := 16) rfl)) (ty := .double) (by decide) rfl rfl (g := (mkF m 6 #[.val (.ref a1), .val (.double d1), .second, .val (.double d2), .second, .val (.double y0), .second, .val (.double y1), .second, .val (.double y2), .second, .val (.double y3), .second, .val (.double y4), .second, .val (.double y5), .second, .val (.double y6), .second, .val (.double y7), .second, .val (.ref a2), .val (.double z0), .second, .val (.double z1), .second, .val (.double z2), .second, .val (.double z3), .second, .val (.double z4), .second, .val (.double z5), .second, .val (.double z6), .second, .val (.double z7), .second, .val (.double z8), .second, .val (.double z9), .second, .val (.double z10), .second, .val (.double z11), .second, .val (.int i1), .val (.int i2), .val (.double u1), .second, .val (.double u2), .second, .val (.double u3), .second] [(.double d1), (.ref a1)])) rfl rfl (hb hby d3_6)
  have Nn2 := Fr.snoc X2 N0 k2_
  have q3 : Exa Z h2 a1 "com/example/quadratur/quadratur/method/GaussKronrod$Piece" := (k1_.wr W2)
  have q2n : Fld Z h2 a1 "com/example/quadratur/quadratur/method/GaussKronrod$Piece" "lo" "D" (.double d1) := (k0_.same W2)
  have K2 := K0.wr W2 (Or.inl (List.mem_of_getElem? (i := 0) rfl))
  have Z2 : n0 ≤ h2.size := Nat.le_trans Z0 (Keep.of_wr W2).1
  obtain ⟨w4, O4⟩ := own_fldx (a0 := a0) q3 q2n (O' := "com/example/quadratur/quadratur/method/GaussKronrod$Piece") (n' := "hi") (d' := "D") (Or.inr (hw _ (List.mem_of_getElem? (i := 25) rfl))) (hw _ (List.mem_of_getElem? (i := 16) rfl))
  obtain ⟨T4, h4, X4, e4, W4, st4⟩ := putF X2 hx hZ hown (host := "") (Or.inl (hw _ (List.mem_of_getElem? (i := 24) rfl))) Via.refl e2 O4 q3 (Or.inr ⟨(hw _ (List.mem_of_getElem? (i := 25) rfl)), rfl, hnm⟩) (hw _ (List.mem_of_getElem? (i := 16) rfl)) (ty := .double) (by decide) rfl rfl (g := (mkF m 11 #[.val (.ref a1), .val (.double d1), .second, .val (.double d2), .second, .val (.double y0), .second, .val (.double y1), .second, .val (.double y2), .second, .val (.double y3), .second, .val (.double y4), .second, .val (.double y5), .second, .val (.double y6), .second, .val (.double y7), .second, .val (.ref a2), .val (.double z0), .second, .val (.double z1), .second, .val (.double z2), .second, .val (.double z3), .second, .val (.double z4), .second, .val (.double z5), .second, .val (.double z6), .second, .val (.double z7), .second, .val (.double z8), .second, .val (.double z9), .second, .val (.double z10), .second, .val (.double z11), .second, .val (.int i1), .val (.int i2), .val (.double u1), .second, .val (.double u2), .second, .val (.double u3), .second] [(.double d2), (.ref a1)])) rfl rfl (hb hby d3_11)
  have Nn4 := Fr.snoc X4 Nn2 k2_
  have q5 : Exa Z h4 a1 "com/example/quadratur/quadratur/method/GaussKronrod$Piece" := (q3.wr W4)
  have q6 : Fld Z h4 a1 "com/example/quadratur/quadratur/method/GaussKronrod$Piece" "lo" "D" (.double d1) := (q2n.other W4 (Or.inr (slot_ne (a0 := a0) (C := "com/example/quadratur/quadratur/method/GaussKronrod$Piece") (Or.inr (hw _ (List.mem_of_getElem? (i := 23) rfl))) (Or.inr (hw _ (List.mem_of_getElem? (i := 25) rfl))) (by decide) (t := .double) (t' := .double) (by decide) (by decide))))
  have q4n : Fld Z h4 a1 "com/example/quadratur/quadratur/method/GaussKronrod$Piece" "hi" "D" (.double d2) := (O4.same W4)
  have K4 := K2.wr W4 (Or.inl (List.mem_of_getElem? (i := 0) rfl))
  have Z4 : n0 ≤ h4.size := Nat.le_trans Z2 (Keep.of_wr W4).1
  obtain ⟨w7, O7⟩ := own_fldx (a0 := a0) q5 q6 (O' := "com/example/quadratur/quadratur/method/GaussKronrod$Piece") (n' := "value") (d' := "D") (Or.inr (hw _ (List.mem_of_getElem? (i := 27) rfl))) (hw _ (List.mem_of_getElem? (i := 16) rfl))
  obtain ⟨T7, h7, X7, e7, W7, st7⟩ := putF X4 hx hZ hown (host := "") (Or.inl (hw _ (List.mem_of_getElem? (i := 26) rfl))) Via.refl e4 O7 q5 (Or.inr ⟨(hw _ (List.mem_of_getElem? (i := 27) rfl)), rfl, hnm⟩) (hw _ (List.mem_of_getElem? (i := 16) rfl)) (ty := .double) (by decide) rfl rfl (g := (mkF m 17 #[.val (.ref a1), .val (.double d1), .second, .val (.double d2), .second, .val (.double y0), .second, .val (.double y1), .second, .val (.double y2), .second, .val (.double y3), .second, .val (.double y4), .second, .val (.double y5), .second, .val (.double y6), .second, .val (.double y7), .second, .val (.ref a2), .val (.double z0), .second, .val (.double z1), .second, .val (.double z2), .second, .val (.double z3), .second, .val (.double z4), .second, .val (.double z5), .second, .val (.double z6), .second, .val (.double z7), .second, .val (.double z8), .second, .val (.double z9), .second, .val (.double z10), .second, .val (.double z11), .second, .val (.int i1), .val (.int i2), .val (.double u1), .second, .val (.double u2), .second, .val (.double u3), .second] [(.double y0), (.ref a1)])) rfl rfl (hb hby d3_17)
  have Nn7 := Fr.snoc X7 Nn4 k2_
  have q8 : Exa Z h7 a1 "com/example/quadratur/quadratur/method/GaussKronrod$Piece" := (q5.wr W7)
  have q9 : Fld Z h7 a1 "com/example/quadratur/quadratur/method/GaussKronrod$Piece" "lo" "D" (.double d1) := (q6.other W7 (Or.inr (slot_ne (a0 := a0) (C := "com/example/quadratur/quadratur/method/GaussKronrod$Piece") (Or.inr (hw _ (List.mem_of_getElem? (i := 23) rfl))) (Or.inr (hw _ (List.mem_of_getElem? (i := 27) rfl))) (by decide) (t := .double) (t' := .double) (by decide) (by decide))))
  have q10 : Fld Z h7 a1 "com/example/quadratur/quadratur/method/GaussKronrod$Piece" "hi" "D" (.double d2) := (q4n.other W7 (Or.inr (slot_ne (a0 := a0) (C := "com/example/quadratur/quadratur/method/GaussKronrod$Piece") (Or.inr (hw _ (List.mem_of_getElem? (i := 25) rfl))) (Or.inr (hw _ (List.mem_of_getElem? (i := 27) rfl))) (by decide) (t := .double) (t' := .double) (by decide) (by decide))))
  have K7 := K4.wr W7 (Or.inl (List.mem_of_getElem? (i := 0) rfl))
  have Z7 : n0 ≤ h7.size := Nat.le_trans Z4 (Keep.of_wr W7).1
  obtain ⟨w11, O11⟩ := own_fldx (a0 := a0) q8 q9 (O' := "com/example/quadratur/quadratur/method/GaussKronrod$Piece") (n' := "magnitude") (d' := "D") (Or.inr (hw _ (List.mem_of_getElem? (i := 29) rfl))) (hw _ (List.mem_of_getElem? (i := 16) rfl))
  obtain ⟨T11, h11, X11, e11, W11, st11⟩ := putF X7 hx hZ hown (host := "") (Or.inl (hw _ (List.mem_of_getElem? (i := 28) rfl))) Via.refl e7 O11 q8 (Or.inr ⟨(hw _ (List.mem_of_getElem? (i := 29) rfl)), rfl, hnm⟩) (hw _ (List.mem_of_getElem? (i := 16) rfl)) (ty := .double) (by decide) rfl rfl (g := (mkF m 23 #[.val (.ref a1), .val (.double d1), .second, .val (.double d2), .second, .val (.double y0), .second, .val (.double y1), .second, .val (.double y2), .second, .val (.double y3), .second, .val (.double y4), .second, .val (.double y5), .second, .val (.double y6), .second, .val (.double y7), .second, .val (.ref a2), .val (.double z0), .second, .val (.double z1), .second, .val (.double z2), .second, .val (.double z3), .second, .val (.double z4), .second, .val (.double z5), .second, .val (.double z6), .second, .val (.double z7), .second, .val (.double z8), .second, .val (.double z9), .second, .val (.double z10), .second, .val (.double z11), .second, .val (.int i1), .val (.int i2), .val (.double u1), .second, .val (.double u2), .second, .val (.double u3), .second] [(.double y1), (.ref a1)])) rfl rfl (hb hby d3_23)
  have Nn11 := Fr.snoc X11 Nn7 k2_
  have q12 : Exa Z h11 a1 "com/example/quadratur/quadratur/method/GaussKronrod$Piece" := (q8.wr W11)
  have q13 : Fld Z h11 a1 "com/example/quadratur/quadratur/method/GaussKronrod$Piece" "lo" "D" (.double d1) := (q9.other W11 (Or.inr (slot_ne (a0 := a0) (C := "com/example/quadratur/quadratur/method/GaussKronrod$Piece") (Or.inr (hw _ (List.mem_of_getElem? (i := 23) rfl))) (Or.inr (hw _ (List.mem_of_getElem? (i := 29) rfl))) (by decide) (t := .double) (t' := .double) (by decide) (by decide))))
  have q14 : Fld Z h11 a1 "com/example/quadratur/quadratur/method/GaussKronrod$Piece" "hi" "D" (.double d2) := (q10.other W11 (Or.inr (slot_ne (a0 := a0) (C := "com/example/quadratur/quadratur/method/GaussKronrod$Piece") (Or.inr (hw _ (List.mem_of_getElem? (i := 25) rfl))) (Or.inr (hw _ (List.mem_of_getElem? (i := 29) rfl))) (by decide) (t := .double) (t' := .double) (by decide) (by decide))))
  have K11 := K7.wr W11 (Or.inl (List.mem_of_getElem? (i := 0) rfl))
  have Z11 : n0 ≤ h11.size := Nat.le_trans Z7 (Keep.of_wr W11).1
  obtain ⟨w15, O15⟩ := own_fldx (a0 := a0) q12 q13 (O' := "com/example/quadratur/quadratur/method/GaussKronrod$Piece") (n' := "trimmed") (d' := "D") (Or.inr (hw _ (List.mem_of_getElem? (i := 31) rfl))) (hw _ (List.mem_of_getElem? (i := 16) rfl))
  obtain ⟨T15, h15, X15, e15, W15, st15⟩ := putF X11 hx hZ hown (host := "") (Or.inl (hw _ (List.mem_of_getElem? (i := 30) rfl))) Via.refl e11 O15 q12 (Or.inr ⟨(hw _ (List.mem_of_getElem? (i := 31) rfl)), rfl, hnm⟩) (hw _ (List.mem_of_getElem? (i := 16) rfl)) (ty := .double) (by decide) rfl rfl (g := (mkF m 29 #[.val (.ref a1), .val (.double d1), .second, .val (.double d2), .second, .val (.double y0), .second, .val (.double y1), .second, .val (.double y2), .second, .val (.double y3), .second, .val (.double y4), .second, .val (.double y5), .second, .val (.double y6), .second, .val (.double y7), .second, .val (.ref a2), .val (.double z0), .second, .val (.double z1), .second, .val (.double z2), .second, .val (.double z3), .second, .val (.double z4), .second, .val (.double z5), .second, .val (.double z6), .second, .val (.double z7), .second, .val (.double z8), .second, .val (.double z9), .second, .val (.double z10), .second, .val (.double z11), .second, .val (.int i1), .val (.int i2), .val (.double u1), .second, .val (.double u2), .second, .val (.double u3), .second] [(.double y2), (.ref a1)])) rfl rfl (hb hby d3_29)
  have Nn15 := Fr.snoc X15 Nn11 k2_
  have q16 : Exa Z h15 a1 "com/example/quadratur/quadratur/method/GaussKronrod$Piece" := (q12.wr W15)
  have q17 : Fld Z h15 a1 "com/example/quadratur/quadratur/method/GaussKronrod$Piece" "lo" "D" (.double d1) := (q13.other W15 (Or.inr (slot_ne (a0 := a0) (C := "com/example/quadratur/quadratur/method/GaussKronrod$Piece") (Or.inr (hw _ (List.mem_of_getElem? (i := 23) rfl))) (Or.inr (hw _ (List.mem_of_getElem? (i := 31) rfl))) (by decide) (t := .double) (t' := .double) (by decide) (by decide))))
  have q18 : Fld Z h15 a1 "com/example/quadratur/quadratur/method/GaussKronrod$Piece" "hi" "D" (.double d2) := (q14.other W15 (Or.inr (slot_ne (a0 := a0) (C := "com/example/quadratur/quadratur/method/GaussKronrod$Piece") (Or.inr (hw _ (List.mem_of_getElem? (i := 25) rfl))) (Or.inr (hw _ (List.mem_of_getElem? (i := 31) rfl))) (by decide) (t := .double) (t' := .double) (by decide) (by decide))))
  have K15 := K11.wr W15 (Or.inl (List.mem_of_getElem? (i := 0) rfl))
  have Z15 : n0 ≤ h15.size := Nat.le_trans Z11 (Keep.of_wr W15).1
  obtain ⟨w19, O19⟩ := own_fldx (a0 := a0) q16 q17 (O' := "com/example/quadratur/quadratur/method/GaussKronrod$Piece") (n' := "relief") (d' := "D") (Or.inr (hw _ (List.mem_of_getElem? (i := 33) rfl))) (hw _ (List.mem_of_getElem? (i := 16) rfl))
  obtain ⟨T19, h19, X19, e19, W19, st19⟩ := putF X15 hx hZ hown (host := "") (Or.inl (hw _ (List.mem_of_getElem? (i := 32) rfl))) Via.refl e15 O19 q16 (Or.inr ⟨(hw _ (List.mem_of_getElem? (i := 33) rfl)), rfl, hnm⟩) (hw _ (List.mem_of_getElem? (i := 16) rfl)) (ty := .double) (by decide) rfl rfl (g := (mkF m 35 #[.val (.ref a1), .val (.double d1), .second, .val (.double d2), .second, .val (.double y0), .second, .val (.double y1), .second, .val (.double y2), .second, .val (.double y3), .second, .val (.double y4), .second, .val (.double y5), .second, .val (.double y6), .second, .val (.double y7), .second, .val (.ref a2), .val (.double z0), .second, .val (.double z1), .second, .val (.double z2), .second, .val (.double z3), .second, .val (.double z4), .second, .val (.double z5), .second, .val (.double z6), .second, .val (.double z7), .second, .val (.double z8), .second, .val (.double z9), .second, .val (.double z10), .second, .val (.double z11), .second, .val (.int i1), .val (.int i2), .val (.double u1), .second, .val (.double u2), .second, .val (.double u3), .second] [(.double y3), (.ref a1)])) rfl rfl (hb hby d3_35)
  have Nn19 := Fr.snoc X19 Nn15 k2_
  have q20 : Exa Z h19 a1 "com/example/quadratur/quadratur/method/GaussKronrod$Piece" := (q16.wr W19)
  have q21 : Fld Z h19 a1 "com/example/quadratur/quadratur/method/GaussKronrod$Piece" "lo" "D" (.double d1) := (q17.other W19 (Or.inr (slot_ne (a0 := a0) (C := "com/example/quadratur/quadratur/method/GaussKronrod$Piece") (Or.inr (hw _ (List.mem_of_getElem? (i := 23) rfl))) (Or.inr (hw _ (List.mem_of_getElem? (i := 33) rfl))) (by decide) (t := .double) (t' := .double) (by decide) (by decide))))
  have q22 : Fld Z h19 a1 "com/example/quadratur/quadratur/method/GaussKronrod$Piece" "hi" "D" (.double d2) := (q18.other W19 (Or.inr (slot_ne (a0 := a0) (C := "com/example/quadratur/quadratur/method/GaussKronrod$Piece") (Or.inr (hw _ (List.mem_of_getElem? (i := 25) rfl))) (Or.inr (hw _ (List.mem_of_getElem? (i := 33) rfl))) (by decide) (t := .double) (t' := .double) (by decide) (by decide))))
  have K19 := K15.wr W19 (Or.inl (List.mem_of_getElem? (i := 0) rfl))
  have Z19 : n0 ≤ h19.size := Nat.le_trans Z15 (Keep.of_wr W19).1
  obtain ⟨w23, O23⟩ := own_fldx (a0 := a0) q20 q21 (O' := "com/example/quadratur/quadratur/method/GaussKronrod$Piece") (n' := "trimmedRelief") (d' := "D") (Or.inr (hw _ (List.mem_of_getElem? (i := 35) rfl))) (hw _ (List.mem_of_getElem? (i := 16) rfl))
  obtain ⟨T23, h23, X23, e23, W23, st23⟩ := putF X19 hx hZ hown (host := "") (Or.inl (hw _ (List.mem_of_getElem? (i := 34) rfl))) Via.refl e19 O23 q20 (Or.inr ⟨(hw _ (List.mem_of_getElem? (i := 35) rfl)), rfl, hnm⟩) (hw _ (List.mem_of_getElem? (i := 16) rfl)) (ty := .double) (by decide) rfl rfl (g := (mkF m 41 #[.val (.ref a1), .val (.double d1), .second, .val (.double d2), .second, .val (.double y0), .second, .val (.double y1), .second, .val (.double y2), .second, .val (.double y3), .second, .val (.double y4), .second, .val (.double y5), .second, .val (.double y6), .second, .val (.double y7), .second, .val (.ref a2), .val (.double z0), .second, .val (.double z1), .second, .val (.double z2), .second, .val (.double z3), .second, .val (.double z4), .second, .val (.double z5), .second, .val (.double z6), .second, .val (.double z7), .second, .val (.double z8), .second, .val (.double z9), .second, .val (.double z10), .second, .val (.double z11), .second, .val (.int i1), .val (.int i2), .val (.double u1), .second, .val (.double u2), .second, .val (.double u3), .second] [(.double y4), (.ref a1)])) rfl rfl (hb hby d3_41)
  have Nn23 := Fr.snoc X23 Nn19 k2_
  have q24 : Exa Z h23 a1 "com/example/quadratur/quadratur/method/GaussKronrod$Piece" := (q20.wr W23)
  have q25 : Fld Z h23 a1 "com/example/quadratur/quadratur/method/GaussKronrod$Piece" "lo" "D" (.double d1) := (q21.other W23 (Or.inr (slot_ne (a0 := a0) (C := "com/example/quadratur/quadratur/method/GaussKronrod$Piece") (Or.inr (hw _ (List.mem_of_getElem? (i := 23) rfl))) (Or.inr (hw _ (List.mem_of_getElem? (i := 35) rfl))) (by decide) (t := .double) (t' := .double) (by decide) (by decide))))
  have q26 : Fld Z h23 a1 "com/example/quadratur/quadratur/method/GaussKronrod$Piece" "hi" "D" (.double d2) := (q22.other W23 (Or.inr (slot_ne (a0 := a0) (C := "com/example/quadratur/quadratur/method/GaussKronrod$Piece") (Or.inr (hw _ (List.mem_of_getElem? (i := 25) rfl))) (Or.inr (hw _ (List.mem_of_getElem? (i := 35) rfl))) (by decide) (t := .double) (t' := .double) (by decide) (by decide))))
  have K23 := K19.wr W23 (Or.inl (List.mem_of_getElem? (i := 0) rfl))
  have Z23 : n0 ≤ h23.size := Nat.le_trans Z19 (Keep.of_wr W23).1
  obtain ⟨w27, O27⟩ := own_fldx (a0 := a0) q24 q25 (O' := "com/example/quadratur/quadratur/method/GaussKronrod$Piece") (n' := "parabolicRelief") (d' := "D") (Or.inr (hw _ (List.mem_of_getElem? (i := 37) rfl))) (hw _ (List.mem_of_getElem? (i := 16) rfl))
  obtain ⟨T27, h27, X27, e27, W27, st27⟩ := putF X23 hx hZ hown (host := "") (Or.inl (hw _ (List.mem_of_getElem? (i := 36) rfl))) Via.refl e23 O27 q24 (Or.inr ⟨(hw _ (List.mem_of_getElem? (i := 37) rfl)), rfl, hnm⟩) (hw _ (List.mem_of_getElem? (i := 16) rfl)) (ty := .double) (by decide) rfl rfl (g := (mkF m 47 #[.val (.ref a1), .val (.double d1), .second, .val (.double d2), .second, .val (.double y0), .second, .val (.double y1), .second, .val (.double y2), .second, .val (.double y3), .second, .val (.double y4), .second, .val (.double y5), .second, .val (.double y6), .second, .val (.double y7), .second, .val (.ref a2), .val (.double z0), .second, .val (.double z1), .second, .val (.double z2), .second, .val (.double z3), .second, .val (.double z4), .second, .val (.double z5), .second, .val (.double z6), .second, .val (.double z7), .second, .val (.double z8), .second, .val (.double z9), .second, .val (.double z10), .second, .val (.double z11), .second, .val (.int i1), .val (.int i2), .val (.double u1), .second, .val (.double u2), .second, .val (.double u3), .second] [(.double y5), (.ref a1)])) rfl rfl (hb hby d3_47)
  have Nn27 := Fr.snoc X27 Nn23 k2_
  have q28 : Exa Z h27 a1 "com/example/quadratur/quadratur/method/GaussKronrod$Piece" := (q24.wr W27)
  have q29 : Fld Z h27 a1 "com/example/quadratur/quadratur/method/GaussKronrod$Piece" "lo" "D" (.double d1) := (q25.other W27 (Or.inr (slot_ne (a0 := a0) (C := "com/example/quadratur/quadratur/method/GaussKronrod$Piece") (Or.inr (hw _ (List.mem_of_getElem? (i := 23) rfl))) (Or.inr (hw _ (List.mem_of_getElem? (i := 37) rfl))) (by decide) (t := .double) (t' := .double) (by decide) (by decide))))
  have q30 : Fld Z h27 a1 "com/example/quadratur/quadratur/method/GaussKronrod$Piece" "hi" "D" (.double d2) := (q26.other W27 (Or.inr (slot_ne (a0 := a0) (C := "com/example/quadratur/quadratur/method/GaussKronrod$Piece") (Or.inr (hw _ (List.mem_of_getElem? (i := 25) rfl))) (Or.inr (hw _ (List.mem_of_getElem? (i := 37) rfl))) (by decide) (t := .double) (t' := .double) (by decide) (by decide))))
  have K27 := K23.wr W27 (Or.inl (List.mem_of_getElem? (i := 0) rfl))
  have Z27 : n0 ≤ h27.size := Nat.le_trans Z23 (Keep.of_wr W27).1
  obtain ⟨w31, O31⟩ := own_fldx (a0 := a0) q28 q29 (O' := "com/example/quadratur/quadratur/method/GaussKronrod$Piece") (n' := "fittedRelief") (d' := "D") (Or.inr (hw _ (List.mem_of_getElem? (i := 39) rfl))) (hw _ (List.mem_of_getElem? (i := 16) rfl))
  obtain ⟨T31, h31, X31, e31, W31, st31⟩ := putF X27 hx hZ hown (host := "") (Or.inl (hw _ (List.mem_of_getElem? (i := 38) rfl))) Via.refl e27 O31 q28 (Or.inr ⟨(hw _ (List.mem_of_getElem? (i := 39) rfl)), rfl, hnm⟩) (hw _ (List.mem_of_getElem? (i := 16) rfl)) (ty := .double) (by decide) rfl rfl (g := (mkF m 53 #[.val (.ref a1), .val (.double d1), .second, .val (.double d2), .second, .val (.double y0), .second, .val (.double y1), .second, .val (.double y2), .second, .val (.double y3), .second, .val (.double y4), .second, .val (.double y5), .second, .val (.double y6), .second, .val (.double y7), .second, .val (.ref a2), .val (.double z0), .second, .val (.double z1), .second, .val (.double z2), .second, .val (.double z3), .second, .val (.double z4), .second, .val (.double z5), .second, .val (.double z6), .second, .val (.double z7), .second, .val (.double z8), .second, .val (.double z9), .second, .val (.double z10), .second, .val (.double z11), .second, .val (.int i1), .val (.int i2), .val (.double u1), .second, .val (.double u2), .second, .val (.double u3), .second] [(.double y6), (.ref a1)])) rfl rfl (hb hby d3_53)
  have Nn31 := Fr.snoc X31 Nn27 k2_
  have q32 : Exa Z h31 a1 "com/example/quadratur/quadratur/method/GaussKronrod$Piece" := (q28.wr W31)
  have q33 : Fld Z h31 a1 "com/example/quadratur/quadratur/method/GaussKronrod$Piece" "lo" "D" (.double d1) := (q29.other W31 (Or.inr (slot_ne (a0 := a0) (C := "com/example/quadratur/quadratur/method/GaussKronrod$Piece") (Or.inr (hw _ (List.mem_of_getElem? (i := 23) rfl))) (Or.inr (hw _ (List.mem_of_getElem? (i := 39) rfl))) (by decide) (t := .double) (t' := .double) (by decide) (by decide))))
  have q34 : Fld Z h31 a1 "com/example/quadratur/quadratur/method/GaussKronrod$Piece" "hi" "D" (.double d2) := (q30.other W31 (Or.inr (slot_ne (a0 := a0) (C := "com/example/quadratur/quadratur/method/GaussKronrod$Piece") (Or.inr (hw _ (List.mem_of_getElem? (i := 25) rfl))) (Or.inr (hw _ (List.mem_of_getElem? (i := 39) rfl))) (by decide) (t := .double) (t' := .double) (by decide) (by decide))))
  have K31 := K27.wr W31 (Or.inl (List.mem_of_getElem? (i := 0) rfl))
  have Z31 : n0 ≤ h31.size := Nat.le_trans Z27 (Keep.of_wr W31).1
  obtain ⟨w35, O35⟩ := own_fldx (a0 := a0) q32 q33 (O' := "com/example/quadratur/quadratur/method/GaussKronrod$Piece") (n' := "base") (d' := "D") (Or.inr (hw _ (List.mem_of_getElem? (i := 41) rfl))) (hw _ (List.mem_of_getElem? (i := 16) rfl))
  obtain ⟨T35, h35, X35, e35, W35, st35⟩ := putF X31 hx hZ hown (host := "") (Or.inl (hw _ (List.mem_of_getElem? (i := 40) rfl))) Via.refl e31 O35 q32 (Or.inr ⟨(hw _ (List.mem_of_getElem? (i := 41) rfl)), rfl, hnm⟩) (hw _ (List.mem_of_getElem? (i := 16) rfl)) (ty := .double) (by decide) rfl rfl (g := (mkF m 59 #[.val (.ref a1), .val (.double d1), .second, .val (.double d2), .second, .val (.double y0), .second, .val (.double y1), .second, .val (.double y2), .second, .val (.double y3), .second, .val (.double y4), .second, .val (.double y5), .second, .val (.double y6), .second, .val (.double y7), .second, .val (.ref a2), .val (.double z0), .second, .val (.double z1), .second, .val (.double z2), .second, .val (.double z3), .second, .val (.double z4), .second, .val (.double z5), .second, .val (.double z6), .second, .val (.double z7), .second, .val (.double z8), .second, .val (.double z9), .second, .val (.double z10), .second, .val (.double z11), .second, .val (.int i1), .val (.int i2), .val (.double u1), .second, .val (.double u2), .second, .val (.double u3), .second] [(.double y7), (.ref a1)])) rfl rfl (hb hby d3_59)
  have Nn35 := Fr.snoc X35 Nn31 k2_
  have q36 : Exa Z h35 a1 "com/example/quadratur/quadratur/method/GaussKronrod$Piece" := (q32.wr W35)
  have q37 : Fld Z h35 a1 "com/example/quadratur/quadratur/method/GaussKronrod$Piece" "lo" "D" (.double d1) := (q33.other W35 (Or.inr (slot_ne (a0 := a0) (C := "com/example/quadratur/quadratur/method/GaussKronrod$Piece") (Or.inr (hw _ (List.mem_of_getElem? (i := 23) rfl))) (Or.inr (hw _ (List.mem_of_getElem? (i := 41) rfl))) (by decide) (t := .double) (t' := .double) (by decide) (by decide))))
  have q38 : Fld Z h35 a1 "com/example/quadratur/quadratur/method/GaussKronrod$Piece" "hi" "D" (.double d2) := (q34.other W35 (Or.inr (slot_ne (a0 := a0) (C := "com/example/quadratur/quadratur/method/GaussKronrod$Piece") (Or.inr (hw _ (List.mem_of_getElem? (i := 25) rfl))) (Or.inr (hw _ (List.mem_of_getElem? (i := 41) rfl))) (by decide) (t := .double) (t' := .double) (by decide) (by decide))))
  have K35 := K31.wr W35 (Or.inl (List.mem_of_getElem? (i := 0) rfl))
  have Z35 : n0 ≤ h35.size := Nat.le_trans Z31 (Keep.of_wr W35).1
  obtain ⟨w39, O39⟩ := own_fldx (a0 := a0) q36 q37 (O' := "com/example/quadratur/quadratur/method/GaussKronrod$Piece") (n' := "farEnd") (d' := "Lcom/example/quadratur/quadratur/method/GaussKronrod$FarEnd;") (Or.inr (hw _ (List.mem_of_getElem? (i := 43) rfl))) (hw _ (List.mem_of_getElem? (i := 16) rfl))
  obtain ⟨T39, h39, X39, e39, W39, st39⟩ := putF X35 hx hZ hown (host := "") (Or.inl (hw _ (List.mem_of_getElem? (i := 42) rfl))) Via.refl e35 O39 q36 (Or.inr ⟨(hw _ (List.mem_of_getElem? (i := 43) rfl)), rfl, hnm⟩) (hw _ (List.mem_of_getElem? (i := 16) rfl)) (ty := (.object "com/example/quadratur/quadratur/method/GaussKronrod$FarEnd")) (by decide) rfl rfl (g := (mkF m 65 #[.val (.ref a1), .val (.double d1), .second, .val (.double d2), .second, .val (.double y0), .second, .val (.double y1), .second, .val (.double y2), .second, .val (.double y3), .second, .val (.double y4), .second, .val (.double y5), .second, .val (.double y6), .second, .val (.double y7), .second, .val (.ref a2), .val (.double z0), .second, .val (.double z1), .second, .val (.double z2), .second, .val (.double z3), .second, .val (.double z4), .second, .val (.double z5), .second, .val (.double z6), .second, .val (.double z7), .second, .val (.double z8), .second, .val (.double z9), .second, .val (.double z10), .second, .val (.double z11), .second, .val (.int i1), .val (.int i2), .val (.double u1), .second, .val (.double u2), .second, .val (.double u3), .second] [(.ref a2), (.ref a1)])) rfl rfl (hb hby d3_65)
  have Nn39 := Fr.snoc X39 Nn35 k2_
  have q40 : Exa Z h39 a1 "com/example/quadratur/quadratur/method/GaussKronrod$Piece" := (q36.wr W39)
  have q41 : Fld Z h39 a1 "com/example/quadratur/quadratur/method/GaussKronrod$Piece" "lo" "D" (.double d1) := (q37.other W39 (Or.inr (slot_ne (a0 := a0) (C := "com/example/quadratur/quadratur/method/GaussKronrod$Piece") (Or.inr (hw _ (List.mem_of_getElem? (i := 23) rfl))) (Or.inr (hw _ (List.mem_of_getElem? (i := 43) rfl))) (by decide) (t := .double) (t' := (.object "com/example/quadratur/quadratur/method/GaussKronrod$FarEnd")) (by decide) (by decide))))
  have q42 : Fld Z h39 a1 "com/example/quadratur/quadratur/method/GaussKronrod$Piece" "hi" "D" (.double d2) := (q38.other W39 (Or.inr (slot_ne (a0 := a0) (C := "com/example/quadratur/quadratur/method/GaussKronrod$Piece") (Or.inr (hw _ (List.mem_of_getElem? (i := 25) rfl))) (Or.inr (hw _ (List.mem_of_getElem? (i := 43) rfl))) (by decide) (t := .double) (t' := (.object "com/example/quadratur/quadratur/method/GaussKronrod$FarEnd")) (by decide) (by decide))))
  have K39 := K35.wr W39 (Or.inl (List.mem_of_getElem? (i := 0) rfl))
  have Z39 : n0 ≤ h39.size := Nat.le_trans Z35 (Keep.of_wr W39).1
  obtain ⟨w43, O43⟩ := own_fldx (a0 := a0) q40 q41 (O' := "com/example/quadratur/quadratur/method/GaussKronrod$Piece") (n' := "towardsLo") (d' := "D") (Or.inr (hw _ (List.mem_of_getElem? (i := 45) rfl))) (hw _ (List.mem_of_getElem? (i := 16) rfl))
  obtain ⟨T43, h43, X43, e43, W43, st43⟩ := putF X39 hx hZ hown (host := "") (Or.inl (hw _ (List.mem_of_getElem? (i := 44) rfl))) Via.refl e39 O43 q40 (Or.inr ⟨(hw _ (List.mem_of_getElem? (i := 45) rfl)), rfl, hnm⟩) (hw _ (List.mem_of_getElem? (i := 16) rfl)) (ty := .double) (by decide) rfl rfl (g := (mkF m 71 #[.val (.ref a1), .val (.double d1), .second, .val (.double d2), .second, .val (.double y0), .second, .val (.double y1), .second, .val (.double y2), .second, .val (.double y3), .second, .val (.double y4), .second, .val (.double y5), .second, .val (.double y6), .second, .val (.double y7), .second, .val (.ref a2), .val (.double z0), .second, .val (.double z1), .second, .val (.double z2), .second, .val (.double z3), .second, .val (.double z4), .second, .val (.double z5), .second, .val (.double z6), .second, .val (.double z7), .second, .val (.double z8), .second, .val (.double z9), .second, .val (.double z10), .second, .val (.double z11), .second, .val (.int i1), .val (.int i2), .val (.double u1), .second, .val (.double u2), .second, .val (.double u3), .second] [(.double z0), (.ref a1)])) rfl rfl (hb hby d3_71)
  have Nn43 := Fr.snoc X43 Nn39 k2_
  have q44 : Exa Z h43 a1 "com/example/quadratur/quadratur/method/GaussKronrod$Piece" := (q40.wr W43)
  have q45 : Fld Z h43 a1 "com/example/quadratur/quadratur/method/GaussKronrod$Piece" "lo" "D" (.double d1) := (q41.other W43 (Or.inr (slot_ne (a0 := a0) (C := "com/example/quadratur/quadratur/method/GaussKronrod$Piece") (Or.inr (hw _ (List.mem_of_getElem? (i := 23) rfl))) (Or.inr (hw _ (List.mem_of_getElem? (i := 45) rfl))) (by decide) (t := .double) (t' := .double) (by decide) (by decide))))
  have q46 : Fld Z h43 a1 "com/example/quadratur/quadratur/method/GaussKronrod$Piece" "hi" "D" (.double d2) := (q42.other W43 (Or.inr (slot_ne (a0 := a0) (C := "com/example/quadratur/quadratur/method/GaussKronrod$Piece") (Or.inr (hw _ (List.mem_of_getElem? (i := 25) rfl))) (Or.inr (hw _ (List.mem_of_getElem? (i := 45) rfl))) (by decide) (t := .double) (t' := .double) (by decide) (by decide))))
  have K43 := K39.wr W43 (Or.inl (List.mem_of_getElem? (i := 0) rfl))
  have Z43 : n0 ≤ h43.size := Nat.le_trans Z39 (Keep.of_wr W43).1
  obtain ⟨w47, O47⟩ := own_fldx (a0 := a0) q44 q45 (O' := "com/example/quadratur/quadratur/method/GaussKronrod$Piece") (n' := "towardsHi") (d' := "D") (Or.inr (hw _ (List.mem_of_getElem? (i := 47) rfl))) (hw _ (List.mem_of_getElem? (i := 16) rfl))
  obtain ⟨T47, h47, X47, e47, W47, st47⟩ := putF X43 hx hZ hown (host := "") (Or.inl (hw _ (List.mem_of_getElem? (i := 46) rfl))) Via.refl e43 O47 q44 (Or.inr ⟨(hw _ (List.mem_of_getElem? (i := 47) rfl)), rfl, hnm⟩) (hw _ (List.mem_of_getElem? (i := 16) rfl)) (ty := .double) (by decide) rfl rfl (g := (mkF m 77 #[.val (.ref a1), .val (.double d1), .second, .val (.double d2), .second, .val (.double y0), .second, .val (.double y1), .second, .val (.double y2), .second, .val (.double y3), .second, .val (.double y4), .second, .val (.double y5), .second, .val (.double y6), .second, .val (.double y7), .second, .val (.ref a2), .val (.double z0), .second, .val (.double z1), .second, .val (.double z2), .second, .val (.double z3), .second, .val (.double z4), .second, .val (.double z5), .second, .val (.double z6), .second, .val (.double z7), .second, .val (.double z8), .second, .val (.double z9), .second, .val (.double z10), .second, .val (.double z11), .second, .val (.int i1), .val (.int i2), .val (.double u1), .second, .val (.double u2), .second, .val (.double u3), .second] [(.double z1), (.ref a1)])) rfl rfl (hb hby d3_77)
  have Nn47 := Fr.snoc X47 Nn43 k2_
  have q48 : Exa Z h47 a1 "com/example/quadratur/quadratur/method/GaussKronrod$Piece" := (q44.wr W47)
  have q49 : Fld Z h47 a1 "com/example/quadratur/quadratur/method/GaussKronrod$Piece" "lo" "D" (.double d1) := (q45.other W47 (Or.inr (slot_ne (a0 := a0) (C := "com/example/quadratur/quadratur/method/GaussKronrod$Piece") (Or.inr (hw _ (List.mem_of_getElem? (i := 23) rfl))) (Or.inr (hw _ (List.mem_of_getElem? (i := 47) rfl))) (by decide) (t := .double) (t' := .double) (by decide) (by decide))))
  have q50 : Fld Z h47 a1 "com/example/quadratur/quadratur/method/GaussKronrod$Piece" "hi" "D" (.double d2) := (q46.other W47 (Or.inr (slot_ne (a0 := a0) (C := "com/example/quadratur/quadratur/method/GaussKronrod$Piece") (Or.inr (hw _ (List.mem_of_getElem? (i := 25) rfl))) (Or.inr (hw _ (List.mem_of_getElem? (i := 47) rfl))) (by decide) (t := .double) (t' := .double) (by decide) (by decide))))
  have K47 := K43.wr W47 (Or.inl (List.mem_of_getElem? (i := 0) rfl))
  have Z47 : n0 ≤ h47.size := Nat.le_trans Z43 (Keep.of_wr W47).1
  obtain ⟨w51, O51⟩ := own_fldx (a0 := a0) q48 q49 (O' := "com/example/quadratur/quadratur/method/GaussKronrod$Piece") (n' := "roughnessTowardsLo") (d' := "D") (Or.inr (hw _ (List.mem_of_getElem? (i := 49) rfl))) (hw _ (List.mem_of_getElem? (i := 16) rfl))
  obtain ⟨T51, h51, X51, e51, W51, st51⟩ := putF X47 hx hZ hown (host := "") (Or.inl (hw _ (List.mem_of_getElem? (i := 48) rfl))) Via.refl e47 O51 q48 (Or.inr ⟨(hw _ (List.mem_of_getElem? (i := 49) rfl)), rfl, hnm⟩) (hw _ (List.mem_of_getElem? (i := 16) rfl)) (ty := .double) (by decide) rfl rfl (g := (mkF m 83 #[.val (.ref a1), .val (.double d1), .second, .val (.double d2), .second, .val (.double y0), .second, .val (.double y1), .second, .val (.double y2), .second, .val (.double y3), .second, .val (.double y4), .second, .val (.double y5), .second, .val (.double y6), .second, .val (.double y7), .second, .val (.ref a2), .val (.double z0), .second, .val (.double z1), .second, .val (.double z2), .second, .val (.double z3), .second, .val (.double z4), .second, .val (.double z5), .second, .val (.double z6), .second, .val (.double z7), .second, .val (.double z8), .second, .val (.double z9), .second, .val (.double z10), .second, .val (.double z11), .second, .val (.int i1), .val (.int i2), .val (.double u1), .second, .val (.double u2), .second, .val (.double u3), .second] [(.double z2), (.ref a1)])) rfl rfl (hb hby d3_83)
  have Nn51 := Fr.snoc X51 Nn47 k2_
  have q52 : Exa Z h51 a1 "com/example/quadratur/quadratur/method/GaussKronrod$Piece" := (q48.wr W51)
  have q53 : Fld Z h51 a1 "com/example/quadratur/quadratur/method/GaussKronrod$Piece" "lo" "D" (.double d1) := (q49.other W51 (Or.inr (slot_ne (a0 := a0) (C := "com/example/quadratur/quadratur/method/GaussKronrod$Piece") (Or.inr (hw _ (List.mem_of_getElem? (i := 23) rfl))) (Or.inr (hw _ (List.mem_of_getElem? (i := 49) rfl))) (by decide) (t := .double) (t' := .double) (by decide) (by decide))))
  have q54 : Fld Z h51 a1 "com/example/quadratur/quadratur/method/GaussKronrod$Piece" "hi" "D" (.double d2) := (q50.other W51 (Or.inr (slot_ne (a0 := a0) (C := "com/example/quadratur/quadratur/method/GaussKronrod$Piece") (Or.inr (hw _ (List.mem_of_getElem? (i := 25) rfl))) (Or.inr (hw _ (List.mem_of_getElem? (i := 49) rfl))) (by decide) (t := .double) (t' := .double) (by decide) (by decide))))
  have K51 := K47.wr W51 (Or.inl (List.mem_of_getElem? (i := 0) rfl))
  have Z51 : n0 ≤ h51.size := Nat.le_trans Z47 (Keep.of_wr W51).1
  obtain ⟨w55, O55⟩ := own_fldx (a0 := a0) q52 q53 (O' := "com/example/quadratur/quadratur/method/GaussKronrod$Piece") (n' := "roughnessTowardsHi") (d' := "D") (Or.inr (hw _ (List.mem_of_getElem? (i := 51) rfl))) (hw _ (List.mem_of_getElem? (i := 16) rfl))
  obtain ⟨T55, h55, X55, e55, W55, st55⟩ := putF X51 hx hZ hown (host := "") (Or.inl (hw _ (List.mem_of_getElem? (i := 50) rfl))) Via.refl e51 O55 q52 (Or.inr ⟨(hw _ (List.mem_of_getElem? (i := 51) rfl)), rfl, hnm⟩) (hw _ (List.mem_of_getElem? (i := 16) rfl)) (ty := .double) (by decide) rfl rfl (g := (mkF m 89 #[.val (.ref a1), .val (.double d1), .second, .val (.double d2), .second, .val (.double y0), .second, .val (.double y1), .second, .val (.double y2), .second, .val (.double y3), .second, .val (.double y4), .second, .val (.double y5), .second, .val (.double y6), .second, .val (.double y7), .second, .val (.ref a2), .val (.double z0), .second, .val (.double z1), .second, .val (.double z2), .second, .val (.double z3), .second, .val (.double z4), .second, .val (.double z5), .second, .val (.double z6), .second, .val (.double z7), .second, .val (.double z8), .second, .val (.double z9), .second, .val (.double z10), .second, .val (.double z11), .second, .val (.int i1), .val (.int i2), .val (.double u1), .second, .val (.double u2), .second, .val (.double u3), .second] [(.double z3), (.ref a1)])) rfl rfl (hb hby d3_89)
  have Nn55 := Fr.snoc X55 Nn51 k2_
  have q56 : Exa Z h55 a1 "com/example/quadratur/quadratur/method/GaussKronrod$Piece" := (q52.wr W55)
  have q57 : Fld Z h55 a1 "com/example/quadratur/quadratur/method/GaussKronrod$Piece" "lo" "D" (.double d1) := (q53.other W55 (Or.inr (slot_ne (a0 := a0) (C := "com/example/quadratur/quadratur/method/GaussKronrod$Piece") (Or.inr (hw _ (List.mem_of_getElem? (i := 23) rfl))) (Or.inr (hw _ (List.mem_of_getElem? (i := 51) rfl))) (by decide) (t := .double) (t' := .double) (by decide) (by decide))))
  have q58 : Fld Z h55 a1 "com/example/quadratur/quadratur/method/GaussKronrod$Piece" "hi" "D" (.double d2) := (q54.other W55 (Or.inr (slot_ne (a0 := a0) (C := "com/example/quadratur/quadratur/method/GaussKronrod$Piece") (Or.inr (hw _ (List.mem_of_getElem? (i := 25) rfl))) (Or.inr (hw _ (List.mem_of_getElem? (i := 51) rfl))) (by decide) (t := .double) (t' := .double) (by decide) (by decide))))
  have K55 := K51.wr W55 (Or.inl (List.mem_of_getElem? (i := 0) rfl))
  have Z55 : n0 ≤ h55.size := Nat.le_trans Z51 (Keep.of_wr W55).1
  obtain ⟨w59, O59⟩ := own_fldx (a0 := a0) q56 q57 (O' := "com/example/quadratur/quadratur/method/GaussKronrod$Piece") (n' := "peak") (d' := "D") (Or.inr (hw _ (List.mem_of_getElem? (i := 53) rfl))) (hw _ (List.mem_of_getElem? (i := 16) rfl))
  obtain ⟨T59, h59, X59, e59, W59, st59⟩ := putF X55 hx hZ hown (host := "") (Or.inl (hw _ (List.mem_of_getElem? (i := 52) rfl))) Via.refl e55 O59 q56 (Or.inr ⟨(hw _ (List.mem_of_getElem? (i := 53) rfl)), rfl, hnm⟩) (hw _ (List.mem_of_getElem? (i := 16) rfl)) (ty := .double) (by decide) rfl rfl (g := (mkF m 95 #[.val (.ref a1), .val (.double d1), .second, .val (.double d2), .second, .val (.double y0), .second, .val (.double y1), .second, .val (.double y2), .second, .val (.double y3), .second, .val (.double y4), .second, .val (.double y5), .second, .val (.double y6), .second, .val (.double y7), .second, .val (.ref a2), .val (.double z0), .second, .val (.double z1), .second, .val (.double z2), .second, .val (.double z3), .second, .val (.double z4), .second, .val (.double z5), .second, .val (.double z6), .second, .val (.double z7), .second, .val (.double z8), .second, .val (.double z9), .second, .val (.double z10), .second, .val (.double z11), .second, .val (.int i1), .val (.int i2), .val (.double u1), .second, .val (.double u2), .second, .val (.double u3), .second] [(.double z4), (.ref a1)])) rfl rfl (hb hby d3_95)
  have Nn59 := Fr.snoc X59 Nn55 k2_
  have q60 : Exa Z h59 a1 "com/example/quadratur/quadratur/method/GaussKronrod$Piece" := (q56.wr W59)
  have q61 : Fld Z h59 a1 "com/example/quadratur/quadratur/method/GaussKronrod$Piece" "lo" "D" (.double d1) := (q57.other W59 (Or.inr (slot_ne (a0 := a0) (C := "com/example/quadratur/quadratur/method/GaussKronrod$Piece") (Or.inr (hw _ (List.mem_of_getElem? (i := 23) rfl))) (Or.inr (hw _ (List.mem_of_getElem? (i := 53) rfl))) (by decide) (t := .double) (t' := .double) (by decide) (by decide))))
  have q62 : Fld Z h59 a1 "com/example/quadratur/quadratur/method/GaussKronrod$Piece" "hi" "D" (.double d2) := (q58.other W59 (Or.inr (slot_ne (a0 := a0) (C := "com/example/quadratur/quadratur/method/GaussKronrod$Piece") (Or.inr (hw _ (List.mem_of_getElem? (i := 25) rfl))) (Or.inr (hw _ (List.mem_of_getElem? (i := 53) rfl))) (by decide) (t := .double) (t' := .double) (by decide) (by decide))))
  have K59 := K55.wr W59 (Or.inl (List.mem_of_getElem? (i := 0) rfl))
  have Z59 : n0 ≤ h59.size := Nat.le_trans Z55 (Keep.of_wr W59).1
  obtain ⟨w63, O63⟩ := own_fldx (a0 := a0) q60 q61 (O' := "com/example/quadratur/quadratur/method/GaussKronrod$Piece") (n' := "peakAt") (d' := "D") (Or.inr (hw _ (List.mem_of_getElem? (i := 55) rfl))) (hw _ (List.mem_of_getElem? (i := 16) rfl))
  obtain ⟨T63, h63, X63, e63, W63, st63⟩ := putF X59 hx hZ hown (host := "") (Or.inl (hw _ (List.mem_of_getElem? (i := 54) rfl))) Via.refl e59 O63 q60 (Or.inr ⟨(hw _ (List.mem_of_getElem? (i := 55) rfl)), rfl, hnm⟩) (hw _ (List.mem_of_getElem? (i := 16) rfl)) (ty := .double) (by decide) rfl rfl (g := (mkF m 101 #[.val (.ref a1), .val (.double d1), .second, .val (.double d2), .second, .val (.double y0), .second, .val (.double y1), .second, .val (.double y2), .second, .val (.double y3), .second, .val (.double y4), .second, .val (.double y5), .second, .val (.double y6), .second, .val (.double y7), .second, .val (.ref a2), .val (.double z0), .second, .val (.double z1), .second, .val (.double z2), .second, .val (.double z3), .second, .val (.double z4), .second, .val (.double z5), .second, .val (.double z6), .second, .val (.double z7), .second, .val (.double z8), .second, .val (.double z9), .second, .val (.double z10), .second, .val (.double z11), .second, .val (.int i1), .val (.int i2), .val (.double u1), .second, .val (.double u2), .second, .val (.double u3), .second] [(.double z5), (.ref a1)])) rfl rfl (hb hby d3_101)
  have Nn63 := Fr.snoc X63 Nn59 k2_
  have q64 : Exa Z h63 a1 "com/example/quadratur/quadratur/method/GaussKronrod$Piece" := (q60.wr W63)
  have q65 : Fld Z h63 a1 "com/example/quadratur/quadratur/method/GaussKronrod$Piece" "lo" "D" (.double d1) := (q61.other W63 (Or.inr (slot_ne (a0 := a0) (C := "com/example/quadratur/quadratur/method/GaussKronrod$Piece") (Or.inr (hw _ (List.mem_of_getElem? (i := 23) rfl))) (Or.inr (hw _ (List.mem_of_getElem? (i := 55) rfl))) (by decide) (t := .double) (t' := .double) (by decide) (by decide))))
  have q66 : Fld Z h63 a1 "com/example/quadratur/quadratur/method/GaussKronrod$Piece" "hi" "D" (.double d2) := (q62.other W63 (Or.inr (slot_ne (a0 := a0) (C := "com/example/quadratur/quadratur/method/GaussKronrod$Piece") (Or.inr (hw _ (List.mem_of_getElem? (i := 25) rfl))) (Or.inr (hw _ (List.mem_of_getElem? (i := 55) rfl))) (by decide) (t := .double) (t' := .double) (by decide) (by decide))))
  have K63 := K59.wr W63 (Or.inl (List.mem_of_getElem? (i := 0) rfl))
  have Z63 : n0 ≤ h63.size := Nat.le_trans Z59 (Keep.of_wr W63).1
  obtain ⟨w67, O67⟩ := own_fldx (a0 := a0) q64 q65 (O' := "com/example/quadratur/quadratur/method/GaussKronrod$Piece") (n' := "roughness") (d' := "D") (Or.inr (hw _ (List.mem_of_getElem? (i := 57) rfl))) (hw _ (List.mem_of_getElem? (i := 16) rfl))
  obtain ⟨T67, h67, X67, e67, W67, st67⟩ := putF X63 hx hZ hown (host := "") (Or.inl (hw _ (List.mem_of_getElem? (i := 56) rfl))) Via.refl e63 O67 q64 (Or.inr ⟨(hw _ (List.mem_of_getElem? (i := 57) rfl)), rfl, hnm⟩) (hw _ (List.mem_of_getElem? (i := 16) rfl)) (ty := .double) (by decide) rfl rfl (g := (mkF m 107 #[.val (.ref a1), .val (.double d1), .second, .val (.double d2), .second, .val (.double y0), .second, .val (.double y1), .second, .val (.double y2), .second, .val (.double y3), .second, .val (.double y4), .second, .val (.double y5), .second, .val (.double y6), .second, .val (.double y7), .second, .val (.ref a2), .val (.double z0), .second, .val (.double z1), .second, .val (.double z2), .second, .val (.double z3), .second, .val (.double z4), .second, .val (.double z5), .second, .val (.double z6), .second, .val (.double z7), .second, .val (.double z8), .second, .val (.double z9), .second, .val (.double z10), .second, .val (.double z11), .second, .val (.int i1), .val (.int i2), .val (.double u1), .second, .val (.double u2), .second, .val (.double u3), .second] [(.double z6), (.ref a1)])) rfl rfl (hb hby d3_107)
  have Nn67 := Fr.snoc X67 Nn63 k2_
  have q68 : Exa Z h67 a1 "com/example/quadratur/quadratur/method/GaussKronrod$Piece" := (q64.wr W67)
  have q69 : Fld Z h67 a1 "com/example/quadratur/quadratur/method/GaussKronrod$Piece" "lo" "D" (.double d1) := (q65.other W67 (Or.inr (slot_ne (a0 := a0) (C := "com/example/quadratur/quadratur/method/GaussKronrod$Piece") (Or.inr (hw _ (List.mem_of_getElem? (i := 23) rfl))) (Or.inr (hw _ (List.mem_of_getElem? (i := 57) rfl))) (by decide) (t := .double) (t' := .double) (by decide) (by decide))))
  have q70 : Fld Z h67 a1 "com/example/quadratur/quadratur/method/GaussKronrod$Piece" "hi" "D" (.double d2) := (q66.other W67 (Or.inr (slot_ne (a0 := a0) (C := "com/example/quadratur/quadratur/method/GaussKronrod$Piece") (Or.inr (hw _ (List.mem_of_getElem? (i := 25) rfl))) (Or.inr (hw _ (List.mem_of_getElem? (i := 57) rfl))) (by decide) (t := .double) (t' := .double) (by decide) (by decide))))
  have K67 := K63.wr W67 (Or.inl (List.mem_of_getElem? (i := 0) rfl))
  have Z67 : n0 ≤ h67.size := Nat.le_trans Z63 (Keep.of_wr W67).1
  obtain ⟨w71, O71⟩ := own_fldx (a0 := a0) q68 q69 (O' := "com/example/quadratur/quadratur/method/GaussKronrod$Piece") (n' := "spread") (d' := "D") (Or.inr (hw _ (List.mem_of_getElem? (i := 59) rfl))) (hw _ (List.mem_of_getElem? (i := 16) rfl))
  obtain ⟨T71, h71, X71, e71, W71, st71⟩ := putF X67 hx hZ hown (host := "") (Or.inl (hw _ (List.mem_of_getElem? (i := 58) rfl))) Via.refl e67 O71 q68 (Or.inr ⟨(hw _ (List.mem_of_getElem? (i := 59) rfl)), rfl, hnm⟩) (hw _ (List.mem_of_getElem? (i := 16) rfl)) (ty := .double) (by decide) rfl rfl (g := (mkF m 113 #[.val (.ref a1), .val (.double d1), .second, .val (.double d2), .second, .val (.double y0), .second, .val (.double y1), .second, .val (.double y2), .second, .val (.double y3), .second, .val (.double y4), .second, .val (.double y5), .second, .val (.double y6), .second, .val (.double y7), .second, .val (.ref a2), .val (.double z0), .second, .val (.double z1), .second, .val (.double z2), .second, .val (.double z3), .second, .val (.double z4), .second, .val (.double z5), .second, .val (.double z6), .second, .val (.double z7), .second, .val (.double z8), .second, .val (.double z9), .second, .val (.double z10), .second, .val (.double z11), .second, .val (.int i1), .val (.int i2), .val (.double u1), .second, .val (.double u2), .second, .val (.double u3), .second] [(.double z7), (.ref a1)])) rfl rfl (hb hby d3_113)
  have Nn71 := Fr.snoc X71 Nn67 k2_
  have q72 : Exa Z h71 a1 "com/example/quadratur/quadratur/method/GaussKronrod$Piece" := (q68.wr W71)
  have q73 : Fld Z h71 a1 "com/example/quadratur/quadratur/method/GaussKronrod$Piece" "lo" "D" (.double d1) := (q69.other W71 (Or.inr (slot_ne (a0 := a0) (C := "com/example/quadratur/quadratur/method/GaussKronrod$Piece") (Or.inr (hw _ (List.mem_of_getElem? (i := 23) rfl))) (Or.inr (hw _ (List.mem_of_getElem? (i := 59) rfl))) (by decide) (t := .double) (t' := .double) (by decide) (by decide))))
  have q74 : Fld Z h71 a1 "com/example/quadratur/quadratur/method/GaussKronrod$Piece" "hi" "D" (.double d2) := (q70.other W71 (Or.inr (slot_ne (a0 := a0) (C := "com/example/quadratur/quadratur/method/GaussKronrod$Piece") (Or.inr (hw _ (List.mem_of_getElem? (i := 25) rfl))) (Or.inr (hw _ (List.mem_of_getElem? (i := 59) rfl))) (by decide) (t := .double) (t' := .double) (by decide) (by decide))))
  have K71 := K67.wr W71 (Or.inl (List.mem_of_getElem? (i := 0) rfl))
  have Z71 : n0 ≤ h71.size := Nat.le_trans Z67 (Keep.of_wr W71).1
  obtain ⟨w75, O75⟩ := own_fldx (a0 := a0) q72 q73 (O' := "com/example/quadratur/quadratur/method/GaussKronrod$Piece") (n' := "residual") (d' := "D") (Or.inr (hw _ (List.mem_of_getElem? (i := 61) rfl))) (hw _ (List.mem_of_getElem? (i := 16) rfl))
  obtain ⟨T75, h75, X75, e75, W75, st75⟩ := putF X71 hx hZ hown (host := "") (Or.inl (hw _ (List.mem_of_getElem? (i := 60) rfl))) Via.refl e71 O75 q72 (Or.inr ⟨(hw _ (List.mem_of_getElem? (i := 61) rfl)), rfl, hnm⟩) (hw _ (List.mem_of_getElem? (i := 16) rfl)) (ty := .double) (by decide) rfl rfl (g := (mkF m 119 #[.val (.ref a1), .val (.double d1), .second, .val (.double d2), .second, .val (.double y0), .second, .val (.double y1), .second, .val (.double y2), .second, .val (.double y3), .second, .val (.double y4), .second, .val (.double y5), .second, .val (.double y6), .second, .val (.double y7), .second, .val (.ref a2), .val (.double z0), .second, .val (.double z1), .second, .val (.double z2), .second, .val (.double z3), .second, .val (.double z4), .second, .val (.double z5), .second, .val (.double z6), .second, .val (.double z7), .second, .val (.double z8), .second, .val (.double z9), .second, .val (.double z10), .second, .val (.double z11), .second, .val (.int i1), .val (.int i2), .val (.double u1), .second, .val (.double u2), .second, .val (.double u3), .second] [(.double z8), (.ref a1)])) rfl rfl (hb hby d3_119)
  have Nn75 := Fr.snoc X75 Nn71 k2_
  have q76 : Exa Z h75 a1 "com/example/quadratur/quadratur/method/GaussKronrod$Piece" := (q72.wr W75)
  have q77 : Fld Z h75 a1 "com/example/quadratur/quadratur/method/GaussKronrod$Piece" "lo" "D" (.double d1) := (q73.other W75 (Or.inr (slot_ne (a0 := a0) (C := "com/example/quadratur/quadratur/method/GaussKronrod$Piece") (Or.inr (hw _ (List.mem_of_getElem? (i := 23) rfl))) (Or.inr (hw _ (List.mem_of_getElem? (i := 61) rfl))) (by decide) (t := .double) (t' := .double) (by decide) (by decide))))
  have q78 : Fld Z h75 a1 "com/example/quadratur/quadratur/method/GaussKronrod$Piece" "hi" "D" (.double d2) := (q74.other W75 (Or.inr (slot_ne (a0 := a0) (C := "com/example/quadratur/quadratur/method/GaussKronrod$Piece") (Or.inr (hw _ (List.mem_of_getElem? (i := 25) rfl))) (Or.inr (hw _ (List.mem_of_getElem? (i := 61) rfl))) (by decide) (t := .double) (t' := .double) (by decide) (by decide))))
  have K75 := K71.wr W75 (Or.inl (List.mem_of_getElem? (i := 0) rfl))
  have Z75 : n0 ≤ h75.size := Nat.le_trans Z71 (Keep.of_wr W75).1
  obtain ⟨w79, O79⟩ := own_fldx (a0 := a0) q76 q77 (O' := "com/example/quadratur/quadratur/method/GaussKronrod$Piece") (n' := "unresolved") (d' := "D") (Or.inr (hw _ (List.mem_of_getElem? (i := 63) rfl))) (hw _ (List.mem_of_getElem? (i := 16) rfl))
  obtain ⟨T79, h79, X79, e79, W79, st79⟩ := putF X75 hx hZ hown (host := "") (Or.inl (hw _ (List.mem_of_getElem? (i := 62) rfl))) Via.refl e75 O79 q76 (Or.inr ⟨(hw _ (List.mem_of_getElem? (i := 63) rfl)), rfl, hnm⟩) (hw _ (List.mem_of_getElem? (i := 16) rfl)) (ty := .double) (by decide) rfl rfl (g := (mkF m 125 #[.val (.ref a1), .val (.double d1), .second, .val (.double d2), .second, .val (.double y0), .second, .val (.double y1), .second, .val (.double y2), .second, .val (.double y3), .second, .val (.double y4), .second, .val (.double y5), .second, .val (.double y6), .second, .val (.double y7), .second, .val (.ref a2), .val (.double z0), .second, .val (.double z1), .second, .val (.double z2), .second, .val (.double z3), .second, .val (.double z4), .second, .val (.double z5), .second, .val (.double z6), .second, .val (.double z7), .second, .val (.double z8), .second, .val (.double z9), .second, .val (.double z10), .second, .val (.double z11), .second, .val (.int i1), .val (.int i2), .val (.double u1), .second, .val (.double u2), .second, .val (.double u3), .second] [(.double z9), (.ref a1)])) rfl rfl (hb hby d3_125)
  have Nn79 := Fr.snoc X79 Nn75 k2_
  have q80 : Exa Z h79 a1 "com/example/quadratur/quadratur/method/GaussKronrod$Piece" := (q76.wr W79)
  have q81 : Fld Z h79 a1 "com/example/quadratur/quadratur/method/GaussKronrod$Piece" "lo" "D" (.double d1) := (q77.other W79 (Or.inr (slot_ne (a0 := a0) (C := "com/example/quadratur/quadratur/method/GaussKronrod$Piece") (Or.inr (hw _ (List.mem_of_getElem? (i := 23) rfl))) (Or.inr (hw _ (List.mem_of_getElem? (i := 63) rfl))) (by decide) (t := .double) (t' := .double) (by decide) (by decide))))
  have q82 : Fld Z h79 a1 "com/example/quadratur/quadratur/method/GaussKronrod$Piece" "hi" "D" (.double d2) := (q78.other W79 (Or.inr (slot_ne (a0 := a0) (C := "com/example/quadratur/quadratur/method/GaussKronrod$Piece") (Or.inr (hw _ (List.mem_of_getElem? (i := 25) rfl))) (Or.inr (hw _ (List.mem_of_getElem? (i := 63) rfl))) (by decide) (t := .double) (t' := .double) (by decide) (by decide))))
  have K79 := K75.wr W79 (Or.inl (List.mem_of_getElem? (i := 0) rfl))
  have Z79 : n0 ≤ h79.size := Nat.le_trans Z75 (Keep.of_wr W79).1
  obtain ⟨w83, O83⟩ := own_fldx (a0 := a0) q80 q81 (O' := "com/example/quadratur/quadratur/method/GaussKronrod$Piece") (n' := "hidden") (d' := "D") (Or.inr (hw _ (List.mem_of_getElem? (i := 65) rfl))) (hw _ (List.mem_of_getElem? (i := 16) rfl))
  obtain ⟨T83, h83, X83, e83, W83, st83⟩ := putF X79 hx hZ hown (host := "") (Or.inl (hw _ (List.mem_of_getElem? (i := 64) rfl))) Via.refl e79 O83 q80 (Or.inr ⟨(hw _ (List.mem_of_getElem? (i := 65) rfl)), rfl, hnm⟩) (hw _ (List.mem_of_getElem? (i := 16) rfl)) (ty := .double) (by decide) rfl rfl (g := (mkF m 131 #[.val (.ref a1), .val (.double d1), .second, .val (.double d2), .second, .val (.double y0), .second, .val (.double y1), .second, .val (.double y2), .second, .val (.double y3), .second, .val (.double y4), .second, .val (.double y5), .second, .val (.double y6), .second, .val (.double y7), .second, .val (.ref a2), .val (.double z0), .second, .val (.double z1), .second, .val (.double z2), .second, .val (.double z3), .second, .val (.double z4), .second, .val (.double z5), .second, .val (.double z6), .second, .val (.double z7), .second, .val (.double z8), .second, .val (.double z9), .second, .val (.double z10), .second, .val (.double z11), .second, .val (.int i1), .val (.int i2), .val (.double u1), .second, .val (.double u2), .second, .val (.double u3), .second] [(.double z10), (.ref a1)])) rfl rfl (hb hby d3_131)
  have Nn83 := Fr.snoc X83 Nn79 k2_
  have q84 : Exa Z h83 a1 "com/example/quadratur/quadratur/method/GaussKronrod$Piece" := (q80.wr W83)
  have q85 : Fld Z h83 a1 "com/example/quadratur/quadratur/method/GaussKronrod$Piece" "lo" "D" (.double d1) := (q81.other W83 (Or.inr (slot_ne (a0 := a0) (C := "com/example/quadratur/quadratur/method/GaussKronrod$Piece") (Or.inr (hw _ (List.mem_of_getElem? (i := 23) rfl))) (Or.inr (hw _ (List.mem_of_getElem? (i := 65) rfl))) (by decide) (t := .double) (t' := .double) (by decide) (by decide))))
  have q86 : Fld Z h83 a1 "com/example/quadratur/quadratur/method/GaussKronrod$Piece" "hi" "D" (.double d2) := (q82.other W83 (Or.inr (slot_ne (a0 := a0) (C := "com/example/quadratur/quadratur/method/GaussKronrod$Piece") (Or.inr (hw _ (List.mem_of_getElem? (i := 25) rfl))) (Or.inr (hw _ (List.mem_of_getElem? (i := 65) rfl))) (by decide) (t := .double) (t' := .double) (by decide) (by decide))))
  have K83 := K79.wr W83 (Or.inl (List.mem_of_getElem? (i := 0) rfl))
  have Z83 : n0 ≤ h83.size := Nat.le_trans Z79 (Keep.of_wr W83).1
  obtain ⟨w87, O87⟩ := own_fldx (a0 := a0) q84 q85 (O' := "com/example/quadratur/quadratur/method/GaussKronrod$Piece") (n' := "departingEnd") (d' := "D") (Or.inr (hw _ (List.mem_of_getElem? (i := 67) rfl))) (hw _ (List.mem_of_getElem? (i := 16) rfl))
  obtain ⟨T87, h87, X87, e87, W87, st87⟩ := putF X83 hx hZ hown (host := "") (Or.inl (hw _ (List.mem_of_getElem? (i := 66) rfl))) Via.refl e83 O87 q84 (Or.inr ⟨(hw _ (List.mem_of_getElem? (i := 67) rfl)), rfl, hnm⟩) (hw _ (List.mem_of_getElem? (i := 16) rfl)) (ty := .double) (by decide) rfl rfl (g := (mkF m 137 #[.val (.ref a1), .val (.double d1), .second, .val (.double d2), .second, .val (.double y0), .second, .val (.double y1), .second, .val (.double y2), .second, .val (.double y3), .second, .val (.double y4), .second, .val (.double y5), .second, .val (.double y6), .second, .val (.double y7), .second, .val (.ref a2), .val (.double z0), .second, .val (.double z1), .second, .val (.double z2), .second, .val (.double z3), .second, .val (.double z4), .second, .val (.double z5), .second, .val (.double z6), .second, .val (.double z7), .second, .val (.double z8), .second, .val (.double z9), .second, .val (.double z10), .second, .val (.double z11), .second, .val (.int i1), .val (.int i2), .val (.double u1), .second, .val (.double u2), .second, .val (.double u3), .second] [(.double z11), (.ref a1)])) rfl rfl (hb hby d3_137)
  have Nn87 := Fr.snoc X87 Nn83 k2_
  have q88 : Exa Z h87 a1 "com/example/quadratur/quadratur/method/GaussKronrod$Piece" := (q84.wr W87)
  have q89 : Fld Z h87 a1 "com/example/quadratur/quadratur/method/GaussKronrod$Piece" "lo" "D" (.double d1) := (q85.other W87 (Or.inr (slot_ne (a0 := a0) (C := "com/example/quadratur/quadratur/method/GaussKronrod$Piece") (Or.inr (hw _ (List.mem_of_getElem? (i := 23) rfl))) (Or.inr (hw _ (List.mem_of_getElem? (i := 67) rfl))) (by decide) (t := .double) (t' := .double) (by decide) (by decide))))
  have q90 : Fld Z h87 a1 "com/example/quadratur/quadratur/method/GaussKronrod$Piece" "hi" "D" (.double d2) := (q86.other W87 (Or.inr (slot_ne (a0 := a0) (C := "com/example/quadratur/quadratur/method/GaussKronrod$Piece") (Or.inr (hw _ (List.mem_of_getElem? (i := 25) rfl))) (Or.inr (hw _ (List.mem_of_getElem? (i := 67) rfl))) (by decide) (t := .double) (t' := .double) (by decide) (by decide))))
  have K87 := K83.wr W87 (Or.inl (List.mem_of_getElem? (i := 0) rfl))
  have Z87 : n0 ≤ h87.size := Nat.le_trans Z83 (Keep.of_wr W87).1
  obtain ⟨w91, O91⟩ := own_fldx (a0 := a0) q88 q89 (O' := "com/example/quadratur/quadratur/method/GaussKronrod$Piece") (n' := "departingFromLo") (d' := "I") (Or.inr (hw _ (List.mem_of_getElem? (i := 69) rfl))) (hw _ (List.mem_of_getElem? (i := 16) rfl))
  obtain ⟨T91, h91, X91, e91, W91, st91⟩ := putF X87 hx hZ hown (host := "") (Or.inl (hw _ (List.mem_of_getElem? (i := 68) rfl))) Via.refl e87 O91 q88 (Or.inr ⟨(hw _ (List.mem_of_getElem? (i := 69) rfl)), rfl, hnm⟩) (hw _ (List.mem_of_getElem? (i := 16) rfl)) (ty := .int) (by decide) rfl rfl (g := (mkF m 143 #[.val (.ref a1), .val (.double d1), .second, .val (.double d2), .second, .val (.double y0), .second, .val (.double y1), .second, .val (.double y2), .second, .val (.double y3), .second, .val (.double y4), .second, .val (.double y5), .second, .val (.double y6), .second, .val (.double y7), .second, .val (.ref a2), .val (.double z0), .second, .val (.double z1), .second, .val (.double z2), .second, .val (.double z3), .second, .val (.double z4), .second, .val (.double z5), .second, .val (.double z6), .second, .val (.double z7), .second, .val (.double z8), .second, .val (.double z9), .second, .val (.double z10), .second, .val (.double z11), .second, .val (.int i1), .val (.int i2), .val (.double u1), .second, .val (.double u2), .second, .val (.double u3), .second] [(.int i1), (.ref a1)])) rfl rfl (hb hby d3_143)
  have Nn91 := Fr.snoc X91 Nn87 k2_
  have q92 : Exa Z h91 a1 "com/example/quadratur/quadratur/method/GaussKronrod$Piece" := (q88.wr W91)
  have q93 : Fld Z h91 a1 "com/example/quadratur/quadratur/method/GaussKronrod$Piece" "lo" "D" (.double d1) := (q89.other W91 (Or.inr (slot_ne (a0 := a0) (C := "com/example/quadratur/quadratur/method/GaussKronrod$Piece") (Or.inr (hw _ (List.mem_of_getElem? (i := 23) rfl))) (Or.inr (hw _ (List.mem_of_getElem? (i := 69) rfl))) (by decide) (t := .double) (t' := .int) (by decide) (by decide))))
  have q94 : Fld Z h91 a1 "com/example/quadratur/quadratur/method/GaussKronrod$Piece" "hi" "D" (.double d2) := (q90.other W91 (Or.inr (slot_ne (a0 := a0) (C := "com/example/quadratur/quadratur/method/GaussKronrod$Piece") (Or.inr (hw _ (List.mem_of_getElem? (i := 25) rfl))) (Or.inr (hw _ (List.mem_of_getElem? (i := 69) rfl))) (by decide) (t := .double) (t' := .int) (by decide) (by decide))))
  have K91 := K87.wr W91 (Or.inl (List.mem_of_getElem? (i := 0) rfl))
  have Z91 : n0 ≤ h91.size := Nat.le_trans Z87 (Keep.of_wr W91).1
  obtain ⟨w95, O95⟩ := own_fldx (a0 := a0) q92 q93 (O' := "com/example/quadratur/quadratur/method/GaussKronrod$Piece") (n' := "departingFromHi") (d' := "I") (Or.inr (hw _ (List.mem_of_getElem? (i := 71) rfl))) (hw _ (List.mem_of_getElem? (i := 16) rfl))
  obtain ⟨T95, h95, X95, e95, W95, st95⟩ := putF X91 hx hZ hown (host := "") (Or.inl (hw _ (List.mem_of_getElem? (i := 70) rfl))) Via.refl e91 O95 q92 (Or.inr ⟨(hw _ (List.mem_of_getElem? (i := 71) rfl)), rfl, hnm⟩) (hw _ (List.mem_of_getElem? (i := 16) rfl)) (ty := .int) (by decide) rfl rfl (g := (mkF m 149 #[.val (.ref a1), .val (.double d1), .second, .val (.double d2), .second, .val (.double y0), .second, .val (.double y1), .second, .val (.double y2), .second, .val (.double y3), .second, .val (.double y4), .second, .val (.double y5), .second, .val (.double y6), .second, .val (.double y7), .second, .val (.ref a2), .val (.double z0), .second, .val (.double z1), .second, .val (.double z2), .second, .val (.double z3), .second, .val (.double z4), .second, .val (.double z5), .second, .val (.double z6), .second, .val (.double z7), .second, .val (.double z8), .second, .val (.double z9), .second, .val (.double z10), .second, .val (.double z11), .second, .val (.int i1), .val (.int i2), .val (.double u1), .second, .val (.double u2), .second, .val (.double u3), .second] [(.int i2), (.ref a1)])) rfl rfl (hb hby d3_149)
  have Nn95 := Fr.snoc X95 Nn91 k2_
  have q96 : Exa Z h95 a1 "com/example/quadratur/quadratur/method/GaussKronrod$Piece" := (q92.wr W95)
  have q97 : Fld Z h95 a1 "com/example/quadratur/quadratur/method/GaussKronrod$Piece" "lo" "D" (.double d1) := (q93.other W95 (Or.inr (slot_ne (a0 := a0) (C := "com/example/quadratur/quadratur/method/GaussKronrod$Piece") (Or.inr (hw _ (List.mem_of_getElem? (i := 23) rfl))) (Or.inr (hw _ (List.mem_of_getElem? (i := 71) rfl))) (by decide) (t := .double) (t' := .int) (by decide) (by decide))))
  have q98 : Fld Z h95 a1 "com/example/quadratur/quadratur/method/GaussKronrod$Piece" "hi" "D" (.double d2) := (q94.other W95 (Or.inr (slot_ne (a0 := a0) (C := "com/example/quadratur/quadratur/method/GaussKronrod$Piece") (Or.inr (hw _ (List.mem_of_getElem? (i := 25) rfl))) (Or.inr (hw _ (List.mem_of_getElem? (i := 71) rfl))) (by decide) (t := .double) (t' := .int) (by decide) (by decide))))
  have K95 := K91.wr W95 (Or.inl (List.mem_of_getElem? (i := 0) rfl))
  have Z95 : n0 ≤ h95.size := Nat.le_trans Z91 (Keep.of_wr W95).1
  obtain ⟨w99, O99⟩ := own_fldx (a0 := a0) q96 q97 (O' := "com/example/quadratur/quadratur/method/GaussKronrod$Piece") (n' := "error") (d' := "D") (Or.inr (hw _ (List.mem_of_getElem? (i := 73) rfl))) (hw _ (List.mem_of_getElem? (i := 16) rfl))
  obtain ⟨T99, h99, X99, e99, W99, st99⟩ := putF X95 hx hZ hown (host := "") (Or.inl (hw _ (List.mem_of_getElem? (i := 72) rfl))) Via.refl e95 O99 q96 (Or.inr ⟨(hw _ (List.mem_of_getElem? (i := 73) rfl)), rfl, hnm⟩) (hw _ (List.mem_of_getElem? (i := 16) rfl)) (ty := .double) (by decide) rfl rfl (g := (mkF m 155 #[.val (.ref a1), .val (.double d1), .second, .val (.double d2), .second, .val (.double y0), .second, .val (.double y1), .second, .val (.double y2), .second, .val (.double y3), .second, .val (.double y4), .second, .val (.double y5), .second, .val (.double y6), .second, .val (.double y7), .second, .val (.ref a2), .val (.double z0), .second, .val (.double z1), .second, .val (.double z2), .second, .val (.double z3), .second, .val (.double z4), .second, .val (.double z5), .second, .val (.double z6), .second, .val (.double z7), .second, .val (.double z8), .second, .val (.double z9), .second, .val (.double z10), .second, .val (.double z11), .second, .val (.int i1), .val (.int i2), .val (.double u1), .second, .val (.double u2), .second, .val (.double u3), .second] [(.double u1), (.ref a1)])) rfl rfl (hb hby d3_155)
  have Nn99 := Fr.snoc X99 Nn95 k2_
  have q100 : Exa Z h99 a1 "com/example/quadratur/quadratur/method/GaussKronrod$Piece" := (q96.wr W99)
  have q101 : Fld Z h99 a1 "com/example/quadratur/quadratur/method/GaussKronrod$Piece" "lo" "D" (.double d1) := (q97.other W99 (Or.inr (slot_ne (a0 := a0) (C := "com/example/quadratur/quadratur/method/GaussKronrod$Piece") (Or.inr (hw _ (List.mem_of_getElem? (i := 23) rfl))) (Or.inr (hw _ (List.mem_of_getElem? (i := 73) rfl))) (by decide) (t := .double) (t' := .double) (by decide) (by decide))))
  have q102 : Fld Z h99 a1 "com/example/quadratur/quadratur/method/GaussKronrod$Piece" "hi" "D" (.double d2) := (q98.other W99 (Or.inr (slot_ne (a0 := a0) (C := "com/example/quadratur/quadratur/method/GaussKronrod$Piece") (Or.inr (hw _ (List.mem_of_getElem? (i := 25) rfl))) (Or.inr (hw _ (List.mem_of_getElem? (i := 73) rfl))) (by decide) (t := .double) (t' := .double) (by decide) (by decide))))
  have K99 := K95.wr W99 (Or.inl (List.mem_of_getElem? (i := 0) rfl))
  have Z99 : n0 ≤ h99.size := Nat.le_trans Z95 (Keep.of_wr W99).1
  obtain ⟨w103, O103⟩ := own_fldx (a0 := a0) q100 q101 (O' := "com/example/quadratur/quadratur/method/GaussKronrod$Piece") (n' := "floor") (d' := "D") (Or.inr (hw _ (List.mem_of_getElem? (i := 75) rfl))) (hw _ (List.mem_of_getElem? (i := 16) rfl))
  obtain ⟨T103, h103, X103, e103, W103, st103⟩ := putF X99 hx hZ hown (host := "") (Or.inl (hw _ (List.mem_of_getElem? (i := 74) rfl))) Via.refl e99 O103 q100 (Or.inr ⟨(hw _ (List.mem_of_getElem? (i := 75) rfl)), rfl, hnm⟩) (hw _ (List.mem_of_getElem? (i := 16) rfl)) (ty := .double) (by decide) rfl rfl (g := (mkF m 161 #[.val (.ref a1), .val (.double d1), .second, .val (.double d2), .second, .val (.double y0), .second, .val (.double y1), .second, .val (.double y2), .second, .val (.double y3), .second, .val (.double y4), .second, .val (.double y5), .second, .val (.double y6), .second, .val (.double y7), .second, .val (.ref a2), .val (.double z0), .second, .val (.double z1), .second, .val (.double z2), .second, .val (.double z3), .second, .val (.double z4), .second, .val (.double z5), .second, .val (.double z6), .second, .val (.double z7), .second, .val (.double z8), .second, .val (.double z9), .second, .val (.double z10), .second, .val (.double z11), .second, .val (.int i1), .val (.int i2), .val (.double u1), .second, .val (.double u2), .second, .val (.double u3), .second] [(.double u2), (.ref a1)])) rfl rfl (hb hby d3_161)
  have Nn103 := Fr.snoc X103 Nn99 k2_
  have q104 : Exa Z h103 a1 "com/example/quadratur/quadratur/method/GaussKronrod$Piece" := (q100.wr W103)
  have q105 : Fld Z h103 a1 "com/example/quadratur/quadratur/method/GaussKronrod$Piece" "lo" "D" (.double d1) := (q101.other W103 (Or.inr (slot_ne (a0 := a0) (C := "com/example/quadratur/quadratur/method/GaussKronrod$Piece") (Or.inr (hw _ (List.mem_of_getElem? (i := 23) rfl))) (Or.inr (hw _ (List.mem_of_getElem? (i := 75) rfl))) (by decide) (t := .double) (t' := .double) (by decide) (by decide))))
  have q106 : Fld Z h103 a1 "com/example/quadratur/quadratur/method/GaussKronrod$Piece" "hi" "D" (.double d2) := (q102.other W103 (Or.inr (slot_ne (a0 := a0) (C := "com/example/quadratur/quadratur/method/GaussKronrod$Piece") (Or.inr (hw _ (List.mem_of_getElem? (i := 25) rfl))) (Or.inr (hw _ (List.mem_of_getElem? (i := 75) rfl))) (by decide) (t := .double) (t' := .double) (by decide) (by decide))))
  have K103 := K99.wr W103 (Or.inl (List.mem_of_getElem? (i := 0) rfl))
  have Z103 : n0 ≤ h103.size := Nat.le_trans Z99 (Keep.of_wr W103).1
  obtain ⟨w107, O107⟩ := own_fldx (a0 := a0) q104 q105 (O' := "com/example/quadratur/quadratur/method/GaussKronrod$Piece") (n' := "placement") (d' := "D") (Or.inr (hw _ (List.mem_of_getElem? (i := 77) rfl))) (hw _ (List.mem_of_getElem? (i := 16) rfl))
  obtain ⟨T107, h107, X107, e107, W107, st107⟩ := putF X103 hx hZ hown (host := "") (Or.inl (hw _ (List.mem_of_getElem? (i := 76) rfl))) Via.refl e103 O107 q104 (Or.inr ⟨(hw _ (List.mem_of_getElem? (i := 77) rfl)), rfl, hnm⟩) (hw _ (List.mem_of_getElem? (i := 16) rfl)) (ty := .double) (by decide) rfl rfl (g := (mkF m 167 #[.val (.ref a1), .val (.double d1), .second, .val (.double d2), .second, .val (.double y0), .second, .val (.double y1), .second, .val (.double y2), .second, .val (.double y3), .second, .val (.double y4), .second, .val (.double y5), .second, .val (.double y6), .second, .val (.double y7), .second, .val (.ref a2), .val (.double z0), .second, .val (.double z1), .second, .val (.double z2), .second, .val (.double z3), .second, .val (.double z4), .second, .val (.double z5), .second, .val (.double z6), .second, .val (.double z7), .second, .val (.double z8), .second, .val (.double z9), .second, .val (.double z10), .second, .val (.double z11), .second, .val (.int i1), .val (.int i2), .val (.double u1), .second, .val (.double u2), .second, .val (.double u3), .second] [(.double u3), (.ref a1)])) rfl rfl (hb hby d3_167)
  have Nn107 := Fr.snoc X107 Nn103 k2_
  have q108 : Exa Z h107 a1 "com/example/quadratur/quadratur/method/GaussKronrod$Piece" := (q104.wr W107)
  have q109 : Fld Z h107 a1 "com/example/quadratur/quadratur/method/GaussKronrod$Piece" "lo" "D" (.double d1) := (q105.other W107 (Or.inr (slot_ne (a0 := a0) (C := "com/example/quadratur/quadratur/method/GaussKronrod$Piece") (Or.inr (hw _ (List.mem_of_getElem? (i := 23) rfl))) (Or.inr (hw _ (List.mem_of_getElem? (i := 77) rfl))) (by decide) (t := .double) (t' := .double) (by decide) (by decide))))
  have q110 : Fld Z h107 a1 "com/example/quadratur/quadratur/method/GaussKronrod$Piece" "hi" "D" (.double d2) := (q106.other W107 (Or.inr (slot_ne (a0 := a0) (C := "com/example/quadratur/quadratur/method/GaussKronrod$Piece") (Or.inr (hw _ (List.mem_of_getElem? (i := 25) rfl))) (Or.inr (hw _ (List.mem_of_getElem? (i := 77) rfl))) (by decide) (t := .double) (t' := .double) (by decide) (by decide))))
  have K107 := K103.wr W107 (Or.inl (List.mem_of_getElem? (i := 0) rfl))
  have Z107 : n0 ≤ h107.size := Nat.le_trans Z103 (Keep.of_wr W107).1
  obtain ⟨fs, hr, hrun, hended, hW, hsame⟩ := X107.leave (v := none) (fun _ => rfl)
  refine ⟨_, _, pre0 _ ?_, hrun, hended, _, _, rfl, ?_, ⟨_, rfl⟩, hW, hsame.mono (Nat.le_of_ble_eq_true rfl) (Nat.le_of_ble_eq_true rfl)⟩
  · show Steps p.tables e below (s₁.setTop (mkF m 0 #[.val (.ref a1), .val (.double d1), .second, .val (.double d2), .second, .val (.double y0), .second, .val (.double y1), .second, .val (.double y2), .second, .val (.double y3), .second, .val (.double y4), .second, .val (.double y5), .second, .val (.double y6), .second, .val (.double y7), .second, .val (.ref a2), .val (.double z0), .second, .val (.double z1), .second, .val (.double z2), .second, .val (.double z3), .second, .val (.double z4), .second, .val (.double z5), .second, .val (.double z6), .second, .val (.double z7), .second, .val (.double z8), .second, .val (.double z9), .second, .val (.double z10), .second, .val (.double z11), .second, .val (.int i1), .val (.int i2), .val (.double u1), .second, .val (.double u2), .second, .val (.double u3), .second] [])) _
    refine XS.aloadN X0.here hx rfl (hb hby d3_0) rfl rfl ?_
    show Steps p.tables e below (s₁.setTop (mkF m 1 #[.val (.ref a1), .val (.double d1), .second, .val (.double d2), .second, .val (.double y0), .second, .val (.double y1), .second, .val (.double y2), .second, .val (.double y3), .second, .val (.double y4), .second, .val (.double y5), .second, .val (.double y6), .second, .val (.double y7), .second, .val (.ref a2), .val (.double z0), .second, .val (.double z1), .second, .val (.double z2), .second, .val (.double z3), .second, .val (.double z4), .second, .val (.double z5), .second, .val (.double z6), .second, .val (.double z7), .second, .val (.double z8), .second, .val (.double z9), .second, .val (.double z10), .second, .val (.double z11), .second, .val (.int i1), .val (.int i2), .val (.double u1), .second, .val (.double u2), .second, .val (.double u3), .second] [(.ref a1)])) _
    refine st1 _ ?_
    show Steps p.tables e below (T1.setTop (mkF m 4 #[.val (.ref a1), .val (.double d1), .second, .val (.double d2), .second, .val (.double y0), .second, .val (.double y1), .second, .val (.double y2), .second, .val (.double y3), .second, .val (.double y4), .second, .val (.double y5), .second, .val (.double y6), .second, .val (.double y7), .second, .val (.ref a2), .val (.double z0), .second, .val (.double z1), .second, .val (.double z2), .second, .val (.double z3), .second, .val (.double z4), .second, .val (.double z5), .second, .val (.double z6), .second, .val (.double z7), .second, .val (.double z8), .second, .val (.double z9), .second, .val (.double z10), .second, .val (.double z11), .second, .val (.int i1), .val (.int i2), .val (.double u1), .second, .val (.double u2), .second, .val (.double u3), .second] [])) _
    refine XS.aloadN X1.here hx rfl (hb hby d3_4) rfl rfl ?_
    show Steps p.tables e below (T1.setTop (mkF m 5 #[.val (.ref a1), .val (.double d1), .second, .val (.double d2), .second, .val (.double y0), .second, .val (.double y1), .second, .val (.double y2), .second, .val (.double y3), .second, .val (.double y4), .second, .val (.double y5), .second, .val (.double y6), .second, .val (.double y7), .second, .val (.ref a2), .val (.double z0), .second, .val (.double z1), .second, .val (.double z2), .second, .val (.double z3), .second, .val (.double z4), .second, .val (.double z5), .second, .val (.double z6), .second, .val (.double z7), .second, .val (.double z8), .second, .val (.double z9), .second, .val (.double z10), .second, .val (.double z11), .second, .val (.int i1), .val (.int i2), .val (.double u1), .second, .val (.double u2), .second, .val (.double u3), .second] [(.ref a1)])) _
    refine XS.dloadN X1.here hx rfl (hb hby d3_5) rfl ?_
    show Steps p.tables e below (T1.setTop (mkF m 6 #[.val (.ref a1), .val (.double d1), .second, .val (.double d2), .second, .val (.double y0), .second, .val (.double y1), .second, .val (.double y2), .second, .val (.double y3), .second, .val (.double y4), .second, .val (.double y5), .second, .val (.double y6), .second, .val (.double y7), .second, .val (.ref a2), .val (.double z0), .second, .val (.double z1), .second, .val (.double z2), .second, .val (.double z3), .second, .val (.double z4), .second, .val (.double z5), .second, .val (.double z6), .second, .val (.double z7), .second, .val (.double z8), .second, .val (.double z9), .second, .val (.double z10), .second, .val (.double z11), .second, .val (.int i1), .val (.int i2), .val (.double u1), .second, .val (.double u2), .second, .val (.double u3), .second] [(.double d1), (.ref a1)])) _
    refine st2 _ ?_
    show Steps p.tables e below (T2.setTop (mkF m 9 #[.val (.ref a1), .val (.double d1), .second, .val (.double d2), .second, .val (.double y0), .second, .val (.double y1), .second, .val (.double y2), .second, .val (.double y3), .second, .val (.double y4), .second, .val (.double y5), .second, .val (.double y6), .second, .val (.double y7), .second, .val (.ref a2), .val (.double z0), .second, .val (.double z1), .second, .val (.double z2), .second, .val (.double z3), .second, .val (.double z4), .second, .val (.double z5), .second, .val (.double z6), .second, .val (.double z7), .second, .val (.double z8), .second, .val (.double z9), .second, .val (.double z10), .second, .val (.double z11), .second, .val (.int i1), .val (.int i2), .val (.double u1), .second, .val (.double u2), .second, .val (.double u3), .second] [])) _
    refine XS.aloadN X2.here hx rfl (hb hby d3_9) rfl rfl ?_
    show Steps p.tables e below (T2.setTop (mkF m 10 #[.val (.ref a1), .val (.double d1), .second, .val (.double d2), .second, .val (.double y0), .second, .val (.double y1), .second, .val (.double y2), .second, .val (.double y3), .second, .val (.double y4), .second, .val (.double y5), .second, .val (.double y6), .second, .val (.double y7), .second, .val (.ref a2), .val (.double z0), .second, .val (.double z1), .second, .val (.double z2), .second, .val (.double z3), .second, .val (.double z4), .second, .val (.double z5), .second, .val (.double z6), .second, .val (.double z7), .second, .val (.double z8), .second, .val (.double z9), .second, .val (.double z10), .second, .val (.double z11), .second, .val (.int i1), .val (.int i2), .val (.double u1), .second, .val (.double u2), .second, .val (.double u3), .second] [(.ref a1)])) _
    refine XS.dloadN X2.here hx rfl (hb hby d3_10) rfl ?_
    show Steps p.tables e below (T2.setTop (mkF m 11 #[.val (.ref a1), .val (.double d1), .second, .val (.double d2), .second, .val (.double y0), .second, .val (.double y1), .second, .val (.double y2), .second, .val (.double y3), .second, .val (.double y4), .second, .val (.double y5), .second, .val (.double y6), .second, .val (.double y7), .second, .val (.ref a2), .val (.double z0), .second, .val (.double z1), .second, .val (.double z2), .second, .val (.double z3), .second, .val (.double z4), .second, .val (.double z5), .second, .val (.double z6), .second, .val (.double z7), .second, .val (.double z8), .second, .val (.double z9), .second, .val (.double z10), .second, .val (.double z11), .second, .val (.int i1), .val (.int i2), .val (.double u1), .second, .val (.double u2), .second, .val (.double u3), .second] [(.double d2), (.ref a1)])) _
    refine st4 _ ?_
    show Steps p.tables e below (T4.setTop (mkF m 14 #[.val (.ref a1), .val (.double d1), .second, .val (.double d2), .second, .val (.double y0), .second, .val (.double y1), .second, .val (.double y2), .second, .val (.double y3), .second, .val (.double y4), .second, .val (.double y5), .second, .val (.double y6), .second, .val (.double y7), .second, .val (.ref a2), .val (.double z0), .second, .val (.double z1), .second, .val (.double z2), .second, .val (.double z3), .second, .val (.double z4), .second, .val (.double z5), .second, .val (.double z6), .second, .val (.double z7), .second, .val (.double z8), .second, .val (.double z9), .second, .val (.double z10), .second, .val (.double z11), .second, .val (.int i1), .val (.int i2), .val (.double u1), .second, .val (.double u2), .second, .val (.double u3), .second] [])) _
    refine XS.aloadN X4.here hx rfl (hb hby d3_14) rfl rfl ?_
    show Steps p.tables e below (T4.setTop (mkF m 15 #[.val (.ref a1), .val (.double d1), .second, .val (.double d2), .second, .val (.double y0), .second, .val (.double y1), .second, .val (.double y2), .second, .val (.double y3), .second, .val (.double y4), .second, .val (.double y5), .second, .val (.double y6), .second, .val (.double y7), .second, .val (.ref a2), .val (.double z0), .second, .val (.double z1), .second, .val (.double z2), .second, .val (.double z3), .second, .val (.double z4), .second, .val (.double z5), .second, .val (.double z6), .second, .val (.double z7), .second, .val (.double z8), .second, .val (.double z9), .second, .val (.double z10), .second, .val (.double z11), .second, .val (.int i1), .val (.int i2), .val (.double u1), .second, .val (.double u2), .second, .val (.double u3), .second] [(.ref a1)])) _
    refine XS.dload X4.here hx rfl (hb hby d3_15) rfl ?_
    show Steps p.tables e below (T4.setTop (mkF m 17 #[.val (.ref a1), .val (.double d1), .second, .val (.double d2), .second, .val (.double y0), .second, .val (.double y1), .second, .val (.double y2), .second, .val (.double y3), .second, .val (.double y4), .second, .val (.double y5), .second, .val (.double y6), .second, .val (.double y7), .second, .val (.ref a2), .val (.double z0), .second, .val (.double z1), .second, .val (.double z2), .second, .val (.double z3), .second, .val (.double z4), .second, .val (.double z5), .second, .val (.double z6), .second, .val (.double z7), .second, .val (.double z8), .second, .val (.double z9), .second, .val (.double z10), .second, .val (.double z11), .second, .val (.int i1), .val (.int i2), .val (.double u1), .second, .val (.double u2), .second, .val (.double u3), .second] [(.double y0), (.ref a1)])) _
    refine st7 _ ?_
    show Steps p.tables e below (T7.setTop (mkF m 20 #[.val (.ref a1), .val (.double d1), .second, .val (.double d2), .second, .val (.double y0), .second, .val (.double y1), .second, .val (.double y2), .second, .val (.double y3), .second, .val (.double y4), .second, .val (.double y5), .second, .val (.double y6), .second, .val (.double y7), .second, .val (.ref a2), .val (.double z0), .second, .val (.double z1), .second, .val (.double z2), .second, .val (.double z3), .second, .val (.double z4), .second, .val (.double z5), .second, .val (.double z6), .second, .val (.double z7), .second, .val (.double z8), .second, .val (.double z9), .second, .val (.double z10), .second, .val (.double z11), .second, .val (.int i1), .val (.int i2), .val (.double u1), .second, .val (.double u2), .second, .val (.double u3), .second] [])) _
    refine XS.aloadN X7.here hx rfl (hb hby d3_20) rfl rfl ?_
    show Steps p.tables e below (T7.setTop (mkF m 21 #[.val (.ref a1), .val (.double d1), .second, .val (.double d2), .second, .val (.double y0), .second, .val (.double y1), .second, .val (.double y2), .second, .val (.double y3), .second, .val (.double y4), .second, .val (.double y5), .second, .val (.double y6), .second, .val (.double y7), .second, .val (.ref a2), .val (.double z0), .second, .val (.double z1), .second, .val (.double z2), .second, .val (.double z3), .second, .val (.double z4), .second, .val (.double z5), .second, .val (.double z6), .second, .val (.double z7), .second, .val (.double z8), .second, .val (.double z9), .second, .val (.double z10), .second, .val (.double z11), .second, .val (.int i1), .val (.int i2), .val (.double u1), .second, .val (.double u2), .second, .val (.double u3), .second] [(.ref a1)])) _
    refine XS.dload X7.here hx rfl (hb hby d3_21) rfl ?_
    show Steps p.tables e below (T7.setTop (mkF m 23 #[.val (.ref a1), .val (.double d1), .second, .val (.double d2), .second, .val (.double y0), .second, .val (.double y1), .second, .val (.double y2), .second, .val (.double y3), .second, .val (.double y4), .second, .val (.double y5), .second, .val (.double y6), .second, .val (.double y7), .second, .val (.ref a2), .val (.double z0), .second, .val (.double z1), .second, .val (.double z2), .second, .val (.double z3), .second, .val (.double z4), .second, .val (.double z5), .second, .val (.double z6), .second, .val (.double z7), .second, .val (.double z8), .second, .val (.double z9), .second, .val (.double z10), .second, .val (.double z11), .second, .val (.int i1), .val (.int i2), .val (.double u1), .second, .val (.double u2), .second, .val (.double u3), .second] [(.double y1), (.ref a1)])) _
    refine st11 _ ?_
    show Steps p.tables e below (T11.setTop (mkF m 26 #[.val (.ref a1), .val (.double d1), .second, .val (.double d2), .second, .val (.double y0), .second, .val (.double y1), .second, .val (.double y2), .second, .val (.double y3), .second, .val (.double y4), .second, .val (.double y5), .second, .val (.double y6), .second, .val (.double y7), .second, .val (.ref a2), .val (.double z0), .second, .val (.double z1), .second, .val (.double z2), .second, .val (.double z3), .second, .val (.double z4), .second, .val (.double z5), .second, .val (.double z6), .second, .val (.double z7), .second, .val (.double z8), .second, .val (.double z9), .second, .val (.double z10), .second, .val (.double z11), .second, .val (.int i1), .val (.int i2), .val (.double u1), .second, .val (.double u2), .second, .val (.double u3), .second] [])) _
    refine XS.aloadN X11.here hx rfl (hb hby d3_26) rfl rfl ?_
    show Steps p.tables e below (T11.setTop (mkF m 27 #[.val (.ref a1), .val (.double d1), .second, .val (.double d2), .second, .val (.double y0), .second, .val (.double y1), .second, .val (.double y2), .second, .val (.double y3), .second, .val (.double y4), .second, .val (.double y5), .second, .val (.double y6), .second, .val (.double y7), .second, .val (.ref a2), .val (.double z0), .second, .val (.double z1), .second, .val (.double z2), .second, .val (.double z3), .second, .val (.double z4), .second, .val (.double z5), .second, .val (.double z6), .second, .val (.double z7), .second, .val (.double z8), .second, .val (.double z9), .second, .val (.double z10), .second, .val (.double z11), .second, .val (.int i1), .val (.int i2), .val (.double u1), .second, .val (.double u2), .second, .val (.double u3), .second] [(.ref a1)])) _
    refine XS.dload X11.here hx rfl (hb hby d3_27) rfl ?_
    show Steps p.tables e below (T11.setTop (mkF m 29 #[.val (.ref a1), .val (.double d1), .second, .val (.double d2), .second, .val (.double y0), .second, .val (.double y1), .second, .val (.double y2), .second, .val (.double y3), .second, .val (.double y4), .second, .val (.double y5), .second, .val (.double y6), .second, .val (.double y7), .second, .val (.ref a2), .val (.double z0), .second, .val (.double z1), .second, .val (.double z2), .second, .val (.double z3), .second, .val (.double z4), .second, .val (.double z5), .second, .val (.double z6), .second, .val (.double z7), .second, .val (.double z8), .second, .val (.double z9), .second, .val (.double z10), .second, .val (.double z11), .second, .val (.int i1), .val (.int i2), .val (.double u1), .second, .val (.double u2), .second, .val (.double u3), .second] [(.double y2), (.ref a1)])) _
    refine st15 _ ?_
    show Steps p.tables e below (T15.setTop (mkF m 32 #[.val (.ref a1), .val (.double d1), .second, .val (.double d2), .second, .val (.double y0), .second, .val (.double y1), .second, .val (.double y2), .second, .val (.double y3), .second, .val (.double y4), .second, .val (.double y5), .second, .val (.double y6), .second, .val (.double y7), .second, .val (.ref a2), .val (.double z0), .second, .val (.double z1), .second, .val (.double z2), .second, .val (.double z3), .second, .val (.double z4), .second, .val (.double z5), .second, .val (.double z6), .second, .val (.double z7), .second, .val (.double z8), .second, .val (.double z9), .second, .val (.double z10), .second, .val (.double z11), .second, .val (.int i1), .val (.int i2), .val (.double u1), .second, .val (.double u2), .second, .val (.double u3), .second] [])) _
    refine XS.aloadN X15.here hx rfl (hb hby d3_32) rfl rfl ?_
    show Steps p.tables e below (T15.setTop (mkF m 33 #[.val (.ref a1), .val (.double d1), .second, .val (.double d2), .second, .val (.double y0), .second, .val (.double y1), .second, .val (.double y2), .second, .val (.double y3), .second, .val (.double y4), .second, .val (.double y5), .second, .val (.double y6), .second, .val (.double y7), .second, .val (.ref a2), .val (.double z0), .second, .val (.double z1), .second, .val (.double z2), .second, .val (.double z3), .second, .val (.double z4), .second, .val (.double z5), .second, .val (.double z6), .second, .val (.double z7), .second, .val (.double z8), .second, .val (.double z9), .second, .val (.double z10), .second, .val (.double z11), .second, .val (.int i1), .val (.int i2), .val (.double u1), .second, .val (.double u2), .second, .val (.double u3), .second] [(.ref a1)])) _
    refine XS.dload X15.here hx rfl (hb hby d3_33) rfl ?_
    show Steps p.tables e below (T15.setTop (mkF m 35 #[.val (.ref a1), .val (.double d1), .second, .val (.double d2), .second, .val (.double y0), .second, .val (.double y1), .second, .val (.double y2), .second, .val (.double y3), .second, .val (.double y4), .second, .val (.double y5), .second, .val (.double y6), .second, .val (.double y7), .second, .val (.ref a2), .val (.double z0), .second, .val (.double z1), .second, .val (.double z2), .second, .val (.double z3), .second, .val (.double z4), .second, .val (.double z5), .second, .val (.double z6), .second, .val (.double z7), .second, .val (.double z8), .second, .val (.double z9), .second, .val (.double z10), .second, .val (.double z11), .second, .val (.int i1), .val (.int i2), .val (.double u1), .second, .val (.double u2), .second, .val (.double u3), .second] [(.double y3), (.ref a1)])) _
    refine st19 _ ?_
    show Steps p.tables e below (T19.setTop (mkF m 38 #[.val (.ref a1), .val (.double d1), .second, .val (.double d2), .second, .val (.double y0), .second, .val (.double y1), .second, .val (.double y2), .second, .val (.double y3), .second, .val (.double y4), .second, .val (.double y5), .second, .val (.double y6), .second, .val (.double y7), .second, .val (.ref a2), .val (.double z0), .second, .val (.double z1), .second, .val (.double z2), .second, .val (.double z3), .second, .val (.double z4), .second, .val (.double z5), .second, .val (.double z6), .second, .val (.double z7), .second, .val (.double z8), .second, .val (.double z9), .second, .val (.double z10), .second, .val (.double z11), .second, .val (.int i1), .val (.int i2), .val (.double u1), .second, .val (.double u2), .second, .val (.double u3), .second] [])) _
    refine XS.aloadN X19.here hx rfl (hb hby d3_38) rfl rfl ?_
    show Steps p.tables e below (T19.setTop (mkF m 39 #[.val (.ref a1), .val (.double d1), .second, .val (.double d2), .second, .val (.double y0), .second, .val (.double y1), .second, .val (.double y2), .second, .val (.double y3), .second, .val (.double y4), .second, .val (.double y5), .second, .val (.double y6), .second, .val (.double y7), .second, .val (.ref a2), .val (.double z0), .second, .val (.double z1), .second, .val (.double z2), .second, .val (.double z3), .second, .val (.double z4), .second, .val (.double z5), .second, .val (.double z6), .second, .val (.double z7), .second, .val (.double z8), .second, .val (.double z9), .second, .val (.double z10), .second, .val (.double z11), .second, .val (.int i1), .val (.int i2), .val (.double u1), .second, .val (.double u2), .second, .val (.double u3), .second] [(.ref a1)])) _
    refine XS.dload X19.here hx rfl (hb hby d3_39) rfl ?_
    show Steps p.tables e below (T19.setTop (mkF m 41 #[.val (.ref a1), .val (.double d1), .second, .val (.double d2), .second, .val (.double y0), .second, .val (.double y1), .second, .val (.double y2), .second, .val (.double y3), .second, .val (.double y4), .second, .val (.double y5), .second, .val (.double y6), .second, .val (.double y7), .second, .val (.ref a2), .val (.double z0), .second, .val (.double z1), .second, .val (.double z2), .second, .val (.double z3), .second, .val (.double z4), .second, .val (.double z5), .second, .val (.double z6), .second, .val (.double z7), .second, .val (.double z8), .second, .val (.double z9), .second, .val (.double z10), .second, .val (.double z11), .second, .val (.int i1), .val (.int i2), .val (.double u1), .second, .val (.double u2), .second, .val (.double u3), .second] [(.double y4), (.ref a1)])) _
    refine st23 _ ?_
    show Steps p.tables e below (T23.setTop (mkF m 44 #[.val (.ref a1), .val (.double d1), .second, .val (.double d2), .second, .val (.double y0), .second, .val (.double y1), .second, .val (.double y2), .second, .val (.double y3), .second, .val (.double y4), .second, .val (.double y5), .second, .val (.double y6), .second, .val (.double y7), .second, .val (.ref a2), .val (.double z0), .second, .val (.double z1), .second, .val (.double z2), .second, .val (.double z3), .second, .val (.double z4), .second, .val (.double z5), .second, .val (.double z6), .second, .val (.double z7), .second, .val (.double z8), .second, .val (.double z9), .second, .val (.double z10), .second, .val (.double z11), .second, .val (.int i1), .val (.int i2), .val (.double u1), .second, .val (.double u2), .second, .val (.double u3), .second] [])) _
    refine XS.aloadN X23.here hx rfl (hb hby d3_44) rfl rfl ?_
    show Steps p.tables e below (T23.setTop (mkF m 45 #[.val (.ref a1), .val (.double d1), .second, .val (.double d2), .second, .val (.double y0), .second, .val (.double y1), .second, .val (.double y2), .second, .val (.double y3), .second, .val (.double y4), .second, .val (.double y5), .second, .val (.double y6), .second, .val (.double y7), .second, .val (.ref a2), .val (.double z0), .second, .val (.double z1), .second, .val (.double z2), .second, .val (.double z3), .second, .val (.double z4), .second, .val (.double z5), .second, .val (.double z6), .second, .val (.double z7), .second, .val (.double z8), .second, .val (.double z9), .second, .val (.double z10), .second, .val (.double z11), .second, .val (.int i1), .val (.int i2), .val (.double u1), .second, .val (.double u2), .second, .val (.double u3), .second] [(.ref a1)])) _
    refine XS.dload X23.here hx rfl (hb hby d3_45) rfl ?_
    show Steps p.tables e below (T23.setTop (mkF m 47 #[.val (.ref a1), .val (.double d1), .second, .val (.double d2), .second, .val (.double y0), .second, .val (.double y1), .second, .val (.double y2), .second, .val (.double y3), .second, .val (.double y4), .second, .val (.double y5), .second, .val (.double y6), .second, .val (.double y7), .second, .val (.ref a2), .val (.double z0), .second, .val (.double z1), .second, .val (.double z2), .second, .val (.double z3), .second, .val (.double z4), .second, .val (.double z5), .second, .val (.double z6), .second, .val (.double z7), .second, .val (.double z8), .second, .val (.double z9), .second, .val (.double z10), .second, .val (.double z11), .second, .val (.int i1), .val (.int i2), .val (.double u1), .second, .val (.double u2), .second, .val (.double u3), .second] [(.double y5), (.ref a1)])) _
    refine st27 _ ?_
    show Steps p.tables e below (T27.setTop (mkF m 50 #[.val (.ref a1), .val (.double d1), .second, .val (.double d2), .second, .val (.double y0), .second, .val (.double y1), .second, .val (.double y2), .second, .val (.double y3), .second, .val (.double y4), .second, .val (.double y5), .second, .val (.double y6), .second, .val (.double y7), .second, .val (.ref a2), .val (.double z0), .second, .val (.double z1), .second, .val (.double z2), .second, .val (.double z3), .second, .val (.double z4), .second, .val (.double z5), .second, .val (.double z6), .second, .val (.double z7), .second, .val (.double z8), .second, .val (.double z9), .second, .val (.double z10), .second, .val (.double z11), .second, .val (.int i1), .val (.int i2), .val (.double u1), .second, .val (.double u2), .second, .val (.double u3), .second] [])) _
    refine XS.aloadN X27.here hx rfl (hb hby d3_50) rfl rfl ?_
    show Steps p.tables e below (T27.setTop (mkF m 51 #[.val (.ref a1), .val (.double d1), .second, .val (.double d2), .second, .val (.double y0), .second, .val (.double y1), .second, .val (.double y2), .second, .val (.double y3), .second, .val (.double y4), .second, .val (.double y5), .second, .val (.double y6), .second, .val (.double y7), .second, .val (.ref a2), .val (.double z0), .second, .val (.double z1), .second, .val (.double z2), .second, .val (.double z3), .second, .val (.double z4), .second, .val (.double z5), .second, .val (.double z6), .second, .val (.double z7), .second, .val (.double z8), .second, .val (.double z9), .second, .val (.double z10), .second, .val (.double z11), .second, .val (.int i1), .val (.int i2), .val (.double u1), .second, .val (.double u2), .second, .val (.double u3), .second] [(.ref a1)])) _
    refine XS.dload X27.here hx rfl (hb hby d3_51) rfl ?_
    show Steps p.tables e below (T27.setTop (mkF m 53 #[.val (.ref a1), .val (.double d1), .second, .val (.double d2), .second, .val (.double y0), .second, .val (.double y1), .second, .val (.double y2), .second, .val (.double y3), .second, .val (.double y4), .second, .val (.double y5), .second, .val (.double y6), .second, .val (.double y7), .second, .val (.ref a2), .val (.double z0), .second, .val (.double z1), .second, .val (.double z2), .second, .val (.double z3), .second, .val (.double z4), .second, .val (.double z5), .second, .val (.double z6), .second, .val (.double z7), .second, .val (.double z8), .second, .val (.double z9), .second, .val (.double z10), .second, .val (.double z11), .second, .val (.int i1), .val (.int i2), .val (.double u1), .second, .val (.double u2), .second, .val (.double u3), .second] [(.double y6), (.ref a1)])) _
    refine st31 _ ?_
    show Steps p.tables e below (T31.setTop (mkF m 56 #[.val (.ref a1), .val (.double d1), .second, .val (.double d2), .second, .val (.double y0), .second, .val (.double y1), .second, .val (.double y2), .second, .val (.double y3), .second, .val (.double y4), .second, .val (.double y5), .second, .val (.double y6), .second, .val (.double y7), .second, .val (.ref a2), .val (.double z0), .second, .val (.double z1), .second, .val (.double z2), .second, .val (.double z3), .second, .val (.double z4), .second, .val (.double z5), .second, .val (.double z6), .second, .val (.double z7), .second, .val (.double z8), .second, .val (.double z9), .second, .val (.double z10), .second, .val (.double z11), .second, .val (.int i1), .val (.int i2), .val (.double u1), .second, .val (.double u2), .second, .val (.double u3), .second] [])) _
    refine XS.aloadN X31.here hx rfl (hb hby d3_56) rfl rfl ?_
    show Steps p.tables e below (T31.setTop (mkF m 57 #[.val (.ref a1), .val (.double d1), .second, .val (.double d2), .second, .val (.double y0), .second, .val (.double y1), .second, .val (.double y2), .second, .val (.double y3), .second, .val (.double y4), .second, .val (.double y5), .second, .val (.double y6), .second, .val (.double y7), .second, .val (.ref a2), .val (.double z0), .second, .val (.double z1), .second, .val (.double z2), .second, .val (.double z3), .second, .val (.double z4), .second, .val (.double z5), .second, .val (.double z6), .second, .val (.double z7), .second, .val (.double z8), .second, .val (.double z9), .second, .val (.double z10), .second, .val (.double z11), .second, .val (.int i1), .val (.int i2), .val (.double u1), .second, .val (.double u2), .second, .val (.double u3), .second] [(.ref a1)])) _
    refine XS.dload X31.here hx rfl (hb hby d3_57) rfl ?_
    show Steps p.tables e below (T31.setTop (mkF m 59 #[.val (.ref a1), .val (.double d1), .second, .val (.double d2), .second, .val (.double y0), .second, .val (.double y1), .second, .val (.double y2), .second, .val (.double y3), .second, .val (.double y4), .second, .val (.double y5), .second, .val (.double y6), .second, .val (.double y7), .second, .val (.ref a2), .val (.double z0), .second, .val (.double z1), .second, .val (.double z2), .second, .val (.double z3), .second, .val (.double z4), .second, .val (.double z5), .second, .val (.double z6), .second, .val (.double z7), .second, .val (.double z8), .second, .val (.double z9), .second, .val (.double z10), .second, .val (.double z11), .second, .val (.int i1), .val (.int i2), .val (.double u1), .second, .val (.double u2), .second, .val (.double u3), .second] [(.double y7), (.ref a1)])) _
    refine st35 _ ?_
    show Steps p.tables e below (T35.setTop (mkF m 62 #[.val (.ref a1), .val (.double d1), .second, .val (.double d2), .second, .val (.double y0), .second, .val (.double y1), .second, .val (.double y2), .second, .val (.double y3), .second, .val (.double y4), .second, .val (.double y5), .second, .val (.double y6), .second, .val (.double y7), .second, .val (.ref a2), .val (.double z0), .second, .val (.double z1), .second, .val (.double z2), .second, .val (.double z3), .second, .val (.double z4), .second, .val (.double z5), .second, .val (.double z6), .second, .val (.double z7), .second, .val (.double z8), .second, .val (.double z9), .second, .val (.double z10), .second, .val (.double z11), .second, .val (.int i1), .val (.int i2), .val (.double u1), .second, .val (.double u2), .second, .val (.double u3), .second] [])) _
    refine XS.aloadN X35.here hx rfl (hb hby d3_62) rfl rfl ?_
    show Steps p.tables e below (T35.setTop (mkF m 63 #[.val (.ref a1), .val (.double d1), .second, .val (.double d2), .second, .val (.double y0), .second, .val (.double y1), .second, .val (.double y2), .second, .val (.double y3), .second, .val (.double y4), .second, .val (.double y5), .second, .val (.double y6), .second, .val (.double y7), .second, .val (.ref a2), .val (.double z0), .second, .val (.double z1), .second, .val (.double z2), .second, .val (.double z3), .second, .val (.double z4), .second, .val (.double z5), .second, .val (.double z6), .second, .val (.double z7), .second, .val (.double z8), .second, .val (.double z9), .second, .val (.double z10), .second, .val (.double z11), .second, .val (.int i1), .val (.int i2), .val (.double u1), .second, .val (.double u2), .second, .val (.double u3), .second] [(.ref a1)])) _
    refine XS.aload X35.here hx rfl (hb hby d3_63) rfl rfl ?_
    show Steps p.tables e below (T35.setTop (mkF m 65 #[.val (.ref a1), .val (.double d1), .second, .val (.double d2), .second, .val (.double y0), .second, .val (.double y1), .second, .val (.double y2), .second, .val (.double y3), .second, .val (.double y4), .second, .val (.double y5), .second, .val (.double y6), .second, .val (.double y7), .second, .val (.ref a2), .val (.double z0), .second, .val (.double z1), .second, .val (.double z2), .second, .val (.double z3), .second, .val (.double z4), .second, .val (.double z5), .second, .val (.double z6), .second, .val (.double z7), .second, .val (.double z8), .second, .val (.double z9), .second, .val (.double z10), .second, .val (.double z11), .second, .val (.int i1), .val (.int i2), .val (.double u1), .second, .val (.double u2), .second, .val (.double u3), .second] [(.ref a2), (.ref a1)])) _
    refine st39 _ ?_
    show Steps p.tables e below (T39.setTop (mkF m 68 #[.val (.ref a1), .val (.double d1), .second, .val (.double d2), .second, .val (.double y0), .second, .val (.double y1), .second, .val (.double y2), .second, .val (.double y3), .second, .val (.double y4), .second, .val (.double y5), .second, .val (.double y6), .second, .val (.double y7), .second, .val (.ref a2), .val (.double z0), .second, .val (.double z1), .second, .val (.double z2), .second, .val (.double z3), .second, .val (.double z4), .second, .val (.double z5), .second, .val (.double z6), .second, .val (.double z7), .second, .val (.double z8), .second, .val (.double z9), .second, .val (.double z10), .second, .val (.double z11), .second, .val (.int i1), .val (.int i2), .val (.double u1), .second, .val (.double u2), .second, .val (.double u3), .second] [])) _
    refine XS.aloadN X39.here hx rfl (hb hby d3_68) rfl rfl ?_
    show Steps p.tables e below (T39.setTop (mkF m 69 #[.val (.ref a1), .val (.double d1), .second, .val (.double d2), .second, .val (.double y0), .second, .val (.double y1), .second, .val (.double y2), .second, .val (.double y3), .second, .val (.double y4), .second, .val (.double y5), .second, .val (.double y6), .second, .val (.double y7), .second, .val (.ref a2), .val (.double z0), .second, .val (.double z1), .second, .val (.double z2), .second, .val (.double z3), .second, .val (.double z4), .second, .val (.double z5), .second, .val (.double z6), .second, .val (.double z7), .second, .val (.double z8), .second, .val (.double z9), .second, .val (.double z10), .second, .val (.double z11), .second, .val (.int i1), .val (.int i2), .val (.double u1), .second, .val (.double u2), .second, .val (.double u3), .second] [(.ref a1)])) _
    refine XS.dload X39.here hx rfl (hb hby d3_69) rfl ?_
    show Steps p.tables e below (T39.setTop (mkF m 71 #[.val (.ref a1), .val (.double d1), .second, .val (.double d2), .second, .val (.double y0), .second, .val (.double y1), .second, .val (.double y2), .second, .val (.double y3), .second, .val (.double y4), .second, .val (.double y5), .second, .val (.double y6), .second, .val (.double y7), .second, .val (.ref a2), .val (.double z0), .second, .val (.double z1), .second, .val (.double z2), .second, .val (.double z3), .second, .val (.double z4), .second, .val (.double z5), .second, .val (.double z6), .second, .val (.double z7), .second, .val (.double z8), .second, .val (.double z9), .second, .val (.double z10), .second, .val (.double z11), .second, .val (.int i1), .val (.int i2), .val (.double u1), .second, .val (.double u2), .second, .val (.double u3), .second] [(.double z0), (.ref a1)])) _
    refine st43 _ ?_
    show Steps p.tables e below (T43.setTop (mkF m 74 #[.val (.ref a1), .val (.double d1), .second, .val (.double d2), .second, .val (.double y0), .second, .val (.double y1), .second, .val (.double y2), .second, .val (.double y3), .second, .val (.double y4), .second, .val (.double y5), .second, .val (.double y6), .second, .val (.double y7), .second, .val (.ref a2), .val (.double z0), .second, .val (.double z1), .second, .val (.double z2), .second, .val (.double z3), .second, .val (.double z4), .second, .val (.double z5), .second, .val (.double z6), .second, .val (.double z7), .second, .val (.double z8), .second, .val (.double z9), .second, .val (.double z10), .second, .val (.double z11), .second, .val (.int i1), .val (.int i2), .val (.double u1), .second, .val (.double u2), .second, .val (.double u3), .second] [])) _
    refine XS.aloadN X43.here hx rfl (hb hby d3_74) rfl rfl ?_
    show Steps p.tables e below (T43.setTop (mkF m 75 #[.val (.ref a1), .val (.double d1), .second, .val (.double d2), .second, .val (.double y0), .second, .val (.double y1), .second, .val (.double y2), .second, .val (.double y3), .second, .val (.double y4), .second, .val (.double y5), .second, .val (.double y6), .second, .val (.double y7), .second, .val (.ref a2), .val (.double z0), .second, .val (.double z1), .second, .val (.double z2), .second, .val (.double z3), .second, .val (.double z4), .second, .val (.double z5), .second, .val (.double z6), .second, .val (.double z7), .second, .val (.double z8), .second, .val (.double z9), .second, .val (.double z10), .second, .val (.double z11), .second, .val (.int i1), .val (.int i2), .val (.double u1), .second, .val (.double u2), .second, .val (.double u3), .second] [(.ref a1)])) _
    refine XS.dload X43.here hx rfl (hb hby d3_75) rfl ?_
    show Steps p.tables e below (T43.setTop (mkF m 77 #[.val (.ref a1), .val (.double d1), .second, .val (.double d2), .second, .val (.double y0), .second, .val (.double y1), .second, .val (.double y2), .second, .val (.double y3), .second, .val (.double y4), .second, .val (.double y5), .second, .val (.double y6), .second, .val (.double y7), .second, .val (.ref a2), .val (.double z0), .second, .val (.double z1), .second, .val (.double z2), .second, .val (.double z3), .second, .val (.double z4), .second, .val (.double z5), .second, .val (.double z6), .second, .val (.double z7), .second, .val (.double z8), .second, .val (.double z9), .second, .val (.double z10), .second, .val (.double z11), .second, .val (.int i1), .val (.int i2), .val (.double u1), .second, .val (.double u2), .second, .val (.double u3), .second] [(.double z1), (.ref a1)])) _
    refine st47 _ ?_
    show Steps p.tables e below (T47.setTop (mkF m 80 #[.val (.ref a1), .val (.double d1), .second, .val (.double d2), .second, .val (.double y0), .second, .val (.double y1), .second, .val (.double y2), .second, .val (.double y3), .second, .val (.double y4), .second, .val (.double y5), .second, .val (.double y6), .second, .val (.double y7), .second, .val (.ref a2), .val (.double z0), .second, .val (.double z1), .second, .val (.double z2), .second, .val (.double z3), .second, .val (.double z4), .second, .val (.double z5), .second, .val (.double z6), .second, .val (.double z7), .second, .val (.double z8), .second, .val (.double z9), .second, .val (.double z10), .second, .val (.double z11), .second, .val (.int i1), .val (.int i2), .val (.double u1), .second, .val (.double u2), .second, .val (.double u3), .second] [])) _
    refine XS.aloadN X47.here hx rfl (hb hby d3_80) rfl rfl ?_
    show Steps p.tables e below (T47.setTop (mkF m 81 #[.val (.ref a1), .val (.double d1), .second, .val (.double d2), .second, .val (.double y0), .second, .val (.double y1), .second, .val (.double y2), .second, .val (.double y3), .second, .val (.double y4), .second, .val (.double y5), .second, .val (.double y6), .second, .val (.double y7), .second, .val (.ref a2), .val (.double z0), .second, .val (.double z1), .second, .val (.double z2), .second, .val (.double z3), .second, .val (.double z4), .second, .val (.double z5), .second, .val (.double z6), .second, .val (.double z7), .second, .val (.double z8), .second, .val (.double z9), .second, .val (.double z10), .second, .val (.double z11), .second, .val (.int i1), .val (.int i2), .val (.double u1), .second, .val (.double u2), .second, .val (.double u3), .second] [(.ref a1)])) _
    refine XS.dload X47.here hx rfl (hb hby d3_81) rfl ?_
    show Steps p.tables e below (T47.setTop (mkF m 83 #[.val (.ref a1), .val (.double d1), .second, .val (.double d2), .second, .val (.double y0), .second, .val (.double y1), .second, .val (.double y2), .second, .val (.double y3), .second, .val (.double y4), .second, .val (.double y5), .second, .val (.double y6), .second, .val (.double y7), .second, .val (.ref a2), .val (.double z0), .second, .val (.double z1), .second, .val (.double z2), .second, .val (.double z3), .second, .val (.double z4), .second, .val (.double z5), .second, .val (.double z6), .second, .val (.double z7), .second, .val (.double z8), .second, .val (.double z9), .second, .val (.double z10), .second, .val (.double z11), .second, .val (.int i1), .val (.int i2), .val (.double u1), .second, .val (.double u2), .second, .val (.double u3), .second] [(.double z2), (.ref a1)])) _
    refine st51 _ ?_
    show Steps p.tables e below (T51.setTop (mkF m 86 #[.val (.ref a1), .val (.double d1), .second, .val (.double d2), .second, .val (.double y0), .second, .val (.double y1), .second, .val (.double y2), .second, .val (.double y3), .second, .val (.double y4), .second, .val (.double y5), .second, .val (.double y6), .second, .val (.double y7), .second, .val (.ref a2), .val (.double z0), .second, .val (.double z1), .second, .val (.double z2), .second, .val (.double z3), .second, .val (.double z4), .second, .val (.double z5), .second, .val (.double z6), .second, .val (.double z7), .second, .val (.double z8), .second, .val (.double z9), .second, .val (.double z10), .second, .val (.double z11), .second, .val (.int i1), .val (.int i2), .val (.double u1), .second, .val (.double u2), .second, .val (.double u3), .second] [])) _
    refine XS.aloadN X51.here hx rfl (hb hby d3_86) rfl rfl ?_
    show Steps p.tables e below (T51.setTop (mkF m 87 #[.val (.ref a1), .val (.double d1), .second, .val (.double d2), .second, .val (.double y0), .second, .val (.double y1), .second, .val (.double y2), .second, .val (.double y3), .second, .val (.double y4), .second, .val (.double y5), .second, .val (.double y6), .second, .val (.double y7), .second, .val (.ref a2), .val (.double z0), .second, .val (.double z1), .second, .val (.double z2), .second, .val (.double z3), .second, .val (.double z4), .second, .val (.double z5), .second, .val (.double z6), .second, .val (.double z7), .second, .val (.double z8), .second, .val (.double z9), .second, .val (.double z10), .second, .val (.double z11), .second, .val (.int i1), .val (.int i2), .val (.double u1), .second, .val (.double u2), .second, .val (.double u3), .second] [(.ref a1)])) _
    refine XS.dload X51.here hx rfl (hb hby d3_87) rfl ?_
    show Steps p.tables e below (T51.setTop (mkF m 89 #[.val (.ref a1), .val (.double d1), .second, .val (.double d2), .second, .val (.double y0), .second, .val (.double y1), .second, .val (.double y2), .second, .val (.double y3), .second, .val (.double y4), .second, .val (.double y5), .second, .val (.double y6), .second, .val (.double y7), .second, .val (.ref a2), .val (.double z0), .second, .val (.double z1), .second, .val (.double z2), .second, .val (.double z3), .second, .val (.double z4), .second, .val (.double z5), .second, .val (.double z6), .second, .val (.double z7), .second, .val (.double z8), .second, .val (.double z9), .second, .val (.double z10), .second, .val (.double z11), .second, .val (.int i1), .val (.int i2), .val (.double u1), .second, .val (.double u2), .second, .val (.double u3), .second] [(.double z3), (.ref a1)])) _
    refine st55 _ ?_
    show Steps p.tables e below (T55.setTop (mkF m 92 #[.val (.ref a1), .val (.double d1), .second, .val (.double d2), .second, .val (.double y0), .second, .val (.double y1), .second, .val (.double y2), .second, .val (.double y3), .second, .val (.double y4), .second, .val (.double y5), .second, .val (.double y6), .second, .val (.double y7), .second, .val (.ref a2), .val (.double z0), .second, .val (.double z1), .second, .val (.double z2), .second, .val (.double z3), .second, .val (.double z4), .second, .val (.double z5), .second, .val (.double z6), .second, .val (.double z7), .second, .val (.double z8), .second, .val (.double z9), .second, .val (.double z10), .second, .val (.double z11), .second, .val (.int i1), .val (.int i2), .val (.double u1), .second, .val (.double u2), .second, .val (.double u3), .second] [])) _
    refine XS.aloadN X55.here hx rfl (hb hby d3_92) rfl rfl ?_
    show Steps p.tables e below (T55.setTop (mkF m 93 #[.val (.ref a1), .val (.double d1), .second, .val (.double d2), .second, .val (.double y0), .second, .val (.double y1), .second, .val (.double y2), .second, .val (.double y3), .second, .val (.double y4), .second, .val (.double y5), .second, .val (.double y6), .second, .val (.double y7), .second, .val (.ref a2), .val (.double z0), .second, .val (.double z1), .second, .val (.double z2), .second, .val (.double z3), .second, .val (.double z4), .second, .val (.double z5), .second, .val (.double z6), .second, .val (.double z7), .second, .val (.double z8), .second, .val (.double z9), .second, .val (.double z10), .second, .val (.double z11), .second, .val (.int i1), .val (.int i2), .val (.double u1), .second, .val (.double u2), .second, .val (.double u3), .second] [(.ref a1)])) _
    refine XS.dload X55.here hx rfl (hb hby d3_93) rfl ?_
    show Steps p.tables e below (T55.setTop (mkF m 95 #[.val (.ref a1), .val (.double d1), .second, .val (.double d2), .second, .val (.double y0), .second, .val (.double y1), .second, .val (.double y2), .second, .val (.double y3), .second, .val (.double y4), .second, .val (.double y5), .second, .val (.double y6), .second, .val (.double y7), .second, .val (.ref a2), .val (.double z0), .second, .val (.double z1), .second, .val (.double z2), .second, .val (.double z3), .second, .val (.double z4), .second, .val (.double z5), .second, .val (.double z6), .second, .val (.double z7), .second, .val (.double z8), .second, .val (.double z9), .second, .val (.double z10), .second, .val (.double z11), .second, .val (.int i1), .val (.int i2), .val (.double u1), .second, .val (.double u2), .second, .val (.double u3), .second] [(.double z4), (.ref a1)])) _
    refine st59 _ ?_
    show Steps p.tables e below (T59.setTop (mkF m 98 #[.val (.ref a1), .val (.double d1), .second, .val (.double d2), .second, .val (.double y0), .second, .val (.double y1), .second, .val (.double y2), .second, .val (.double y3), .second, .val (.double y4), .second, .val (.double y5), .second, .val (.double y6), .second, .val (.double y7), .second, .val (.ref a2), .val (.double z0), .second, .val (.double z1), .second, .val (.double z2), .second, .val (.double z3), .second, .val (.double z4), .second, .val (.double z5), .second, .val (.double z6), .second, .val (.double z7), .second, .val (.double z8), .second, .val (.double z9), .second, .val (.double z10), .second, .val (.double z11), .second, .val (.int i1), .val (.int i2), .val (.double u1), .second, .val (.double u2), .second, .val (.double u3), .second] [])) _
    refine XS.aloadN X59.here hx rfl (hb hby d3_98) rfl rfl ?_
    show Steps p.tables e below (T59.setTop (mkF m 99 #[.val (.ref a1), .val (.double d1), .second, .val (.double d2), .second, .val (.double y0), .second, .val (.double y1), .second, .val (.double y2), .second, .val (.double y3), .second, .val (.double y4), .second, .val (.double y5), .second, .val (.double y6), .second, .val (.double y7), .second, .val (.ref a2), .val (.double z0), .second, .val (.double z1), .second, .val (.double z2), .second, .val (.double z3), .second, .val (.double z4), .second, .val (.double z5), .second, .val (.double z6), .second, .val (.double z7), .second, .val (.double z8), .second, .val (.double z9), .second, .val (.double z10), .second, .val (.double z11), .second, .val (.int i1), .val (.int i2), .val (.double u1), .second, .val (.double u2), .second, .val (.double u3), .second] [(.ref a1)])) _
    refine XS.dload X59.here hx rfl (hb hby d3_99) rfl ?_
    show Steps p.tables e below (T59.setTop (mkF m 101 #[.val (.ref a1), .val (.double d1), .second, .val (.double d2), .second, .val (.double y0), .second, .val (.double y1), .second, .val (.double y2), .second, .val (.double y3), .second, .val (.double y4), .second, .val (.double y5), .second, .val (.double y6), .second, .val (.double y7), .second, .val (.ref a2), .val (.double z0), .second, .val (.double z1), .second, .val (.double z2), .second, .val (.double z3), .second, .val (.double z4), .second, .val (.double z5), .second, .val (.double z6), .second, .val (.double z7), .second, .val (.double z8), .second, .val (.double z9), .second, .val (.double z10), .second, .val (.double z11), .second, .val (.int i1), .val (.int i2), .val (.double u1), .second, .val (.double u2), .second, .val (.double u3), .second] [(.double z5), (.ref a1)])) _
    refine st63 _ ?_
    show Steps p.tables e below (T63.setTop (mkF m 104 #[.val (.ref a1), .val (.double d1), .second, .val (.double d2), .second, .val (.double y0), .second, .val (.double y1), .second, .val (.double y2), .second, .val (.double y3), .second, .val (.double y4), .second, .val (.double y5), .second, .val (.double y6), .second, .val (.double y7), .second, .val (.ref a2), .val (.double z0), .second, .val (.double z1), .second, .val (.double z2), .second, .val (.double z3), .second, .val (.double z4), .second, .val (.double z5), .second, .val (.double z6), .second, .val (.double z7), .second, .val (.double z8), .second, .val (.double z9), .second, .val (.double z10), .second, .val (.double z11), .second, .val (.int i1), .val (.int i2), .val (.double u1), .second, .val (.double u2), .second, .val (.double u3), .second] [])) _
    refine XS.aloadN X63.here hx rfl (hb hby d3_104) rfl rfl ?_
    show Steps p.tables e below (T63.setTop (mkF m 105 #[.val (.ref a1), .val (.double d1), .second, .val (.double d2), .second, .val (.double y0), .second, .val (.double y1), .second, .val (.double y2), .second, .val (.double y3), .second, .val (.double y4), .second, .val (.double y5), .second, .val (.double y6), .second, .val (.double y7), .second, .val (.ref a2), .val (.double z0), .second, .val (.double z1), .second, .val (.double z2), .second, .val (.double z3), .second, .val (.double z4), .second, .val (.double z5), .second, .val (.double z6), .second, .val (.double z7), .second, .val (.double z8), .second, .val (.double z9), .second, .val (.double z10), .second, .val (.double z11), .second, .val (.int i1), .val (.int i2), .val (.double u1), .second, .val (.double u2), .second, .val (.double u3), .second] [(.ref a1)])) _
    refine XS.dload X63.here hx rfl (hb hby d3_105) rfl ?_
    show Steps p.tables e below (T63.setTop (mkF m 107 #[.val (.ref a1), .val (.double d1), .second, .val (.double d2), .second, .val (.double y0), .second, .val (.double y1), .second, .val (.double y2), .second, .val (.double y3), .second, .val (.double y4), .second, .val (.double y5), .second, .val (.double y6), .second, .val (.double y7), .second, .val (.ref a2), .val (.double z0), .second, .val (.double z1), .second, .val (.double z2), .second, .val (.double z3), .second, .val (.double z4), .second, .val (.double z5), .second, .val (.double z6), .second, .val (.double z7), .second, .val (.double z8), .second, .val (.double z9), .second, .val (.double z10), .second, .val (.double z11), .second, .val (.int i1), .val (.int i2), .val (.double u1), .second, .val (.double u2), .second, .val (.double u3), .second] [(.double z6), (.ref a1)])) _
    refine st67 _ ?_
    show Steps p.tables e below (T67.setTop (mkF m 110 #[.val (.ref a1), .val (.double d1), .second, .val (.double d2), .second, .val (.double y0), .second, .val (.double y1), .second, .val (.double y2), .second, .val (.double y3), .second, .val (.double y4), .second, .val (.double y5), .second, .val (.double y6), .second, .val (.double y7), .second, .val (.ref a2), .val (.double z0), .second, .val (.double z1), .second, .val (.double z2), .second, .val (.double z3), .second, .val (.double z4), .second, .val (.double z5), .second, .val (.double z6), .second, .val (.double z7), .second, .val (.double z8), .second, .val (.double z9), .second, .val (.double z10), .second, .val (.double z11), .second, .val (.int i1), .val (.int i2), .val (.double u1), .second, .val (.double u2), .second, .val (.double u3), .second] [])) _
    refine XS.aloadN X67.here hx rfl (hb hby d3_110) rfl rfl ?_
    show Steps p.tables e below (T67.setTop (mkF m 111 #[.val (.ref a1), .val (.double d1), .second, .val (.double d2), .second, .val (.double y0), .second, .val (.double y1), .second, .val (.double y2), .second, .val (.double y3), .second, .val (.double y4), .second, .val (.double y5), .second, .val (.double y6), .second, .val (.double y7), .second, .val (.ref a2), .val (.double z0), .second, .val (.double z1), .second, .val (.double z2), .second, .val (.double z3), .second, .val (.double z4), .second, .val (.double z5), .second, .val (.double z6), .second, .val (.double z7), .second, .val (.double z8), .second, .val (.double z9), .second, .val (.double z10), .second, .val (.double z11), .second, .val (.int i1), .val (.int i2), .val (.double u1), .second, .val (.double u2), .second, .val (.double u3), .second] [(.ref a1)])) _
    refine XS.dload X67.here hx rfl (hb hby d3_111) rfl ?_
    show Steps p.tables e below (T67.setTop (mkF m 113 #[.val (.ref a1), .val (.double d1), .second, .val (.double d2), .second, .val (.double y0), .second, .val (.double y1), .second, .val (.double y2), .second, .val (.double y3), .second, .val (.double y4), .second, .val (.double y5), .second, .val (.double y6), .second, .val (.double y7), .second, .val (.ref a2), .val (.double z0), .second, .val (.double z1), .second, .val (.double z2), .second, .val (.double z3), .second, .val (.double z4), .second, .val (.double z5), .second, .val (.double z6), .second, .val (.double z7), .second, .val (.double z8), .second, .val (.double z9), .second, .val (.double z10), .second, .val (.double z11), .second, .val (.int i1), .val (.int i2), .val (.double u1), .second, .val (.double u2), .second, .val (.double u3), .second] [(.double z7), (.ref a1)])) _
    refine st71 _ ?_
    show Steps p.tables e below (T71.setTop (mkF m 116 #[.val (.ref a1), .val (.double d1), .second, .val (.double d2), .second, .val (.double y0), .second, .val (.double y1), .second, .val (.double y2), .second, .val (.double y3), .second, .val (.double y4), .second, .val (.double y5), .second, .val (.double y6), .second, .val (.double y7), .second, .val (.ref a2), .val (.double z0), .second, .val (.double z1), .second, .val (.double z2), .second, .val (.double z3), .second, .val (.double z4), .second, .val (.double z5), .second, .val (.double z6), .second, .val (.double z7), .second, .val (.double z8), .second, .val (.double z9), .second, .val (.double z10), .second, .val (.double z11), .second, .val (.int i1), .val (.int i2), .val (.double u1), .second, .val (.double u2), .second, .val (.double u3), .second] [])) _
    refine XS.aloadN X71.here hx rfl (hb hby d3_116) rfl rfl ?_
    show Steps p.tables e below (T71.setTop (mkF m 117 #[.val (.ref a1), .val (.double d1), .second, .val (.double d2), .second, .val (.double y0), .second, .val (.double y1), .second, .val (.double y2), .second, .val (.double y3), .second, .val (.double y4), .second, .val (.double y5), .second, .val (.double y6), .second, .val (.double y7), .second, .val (.ref a2), .val (.double z0), .second, .val (.double z1), .second, .val (.double z2), .second, .val (.double z3), .second, .val (.double z4), .second, .val (.double z5), .second, .val (.double z6), .second, .val (.double z7), .second, .val (.double z8), .second, .val (.double z9), .second, .val (.double z10), .second, .val (.double z11), .second, .val (.int i1), .val (.int i2), .val (.double u1), .second, .val (.double u2), .second, .val (.double u3), .second] [(.ref a1)])) _
    refine XS.dload X71.here hx rfl (hb hby d3_117) rfl ?_
    show Steps p.tables e below (T71.setTop (mkF m 119 #[.val (.ref a1), .val (.double d1), .second, .val (.double d2), .second, .val (.double y0), .second, .val (.double y1), .second, .val (.double y2), .second, .val (.double y3), .second, .val (.double y4), .second, .val (.double y5), .second, .val (.double y6), .second, .val (.double y7), .second, .val (.ref a2), .val (.double z0), .second, .val (.double z1), .second, .val (.double z2), .second, .val (.double z3), .second, .val (.double z4), .second, .val (.double z5), .second, .val (.double z6), .second, .val (.double z7), .second, .val (.double z8), .second, .val (.double z9), .second, .val (.double z10), .second, .val (.double z11), .second, .val (.int i1), .val (.int i2), .val (.double u1), .second, .val (.double u2), .second, .val (.double u3), .second] [(.double z8), (.ref a1)])) _
    refine st75 _ ?_
    show Steps p.tables e below (T75.setTop (mkF m 122 #[.val (.ref a1), .val (.double d1), .second, .val (.double d2), .second, .val (.double y0), .second, .val (.double y1), .second, .val (.double y2), .second, .val (.double y3), .second, .val (.double y4), .second, .val (.double y5), .second, .val (.double y6), .second, .val (.double y7), .second, .val (.ref a2), .val (.double z0), .second, .val (.double z1), .second, .val (.double z2), .second, .val (.double z3), .second, .val (.double z4), .second, .val (.double z5), .second, .val (.double z6), .second, .val (.double z7), .second, .val (.double z8), .second, .val (.double z9), .second, .val (.double z10), .second, .val (.double z11), .second, .val (.int i1), .val (.int i2), .val (.double u1), .second, .val (.double u2), .second, .val (.double u3), .second] [])) _
    refine XS.aloadN X75.here hx rfl (hb hby d3_122) rfl rfl ?_
    show Steps p.tables e below (T75.setTop (mkF m 123 #[.val (.ref a1), .val (.double d1), .second, .val (.double d2), .second, .val (.double y0), .second, .val (.double y1), .second, .val (.double y2), .second, .val (.double y3), .second, .val (.double y4), .second, .val (.double y5), .second, .val (.double y6), .second, .val (.double y7), .second, .val (.ref a2), .val (.double z0), .second, .val (.double z1), .second, .val (.double z2), .second, .val (.double z3), .second, .val (.double z4), .second, .val (.double z5), .second, .val (.double z6), .second, .val (.double z7), .second, .val (.double z8), .second, .val (.double z9), .second, .val (.double z10), .second, .val (.double z11), .second, .val (.int i1), .val (.int i2), .val (.double u1), .second, .val (.double u2), .second, .val (.double u3), .second] [(.ref a1)])) _
    refine XS.dload X75.here hx rfl (hb hby d3_123) rfl ?_
    show Steps p.tables e below (T75.setTop (mkF m 125 #[.val (.ref a1), .val (.double d1), .second, .val (.double d2), .second, .val (.double y0), .second, .val (.double y1), .second, .val (.double y2), .second, .val (.double y3), .second, .val (.double y4), .second, .val (.double y5), .second, .val (.double y6), .second, .val (.double y7), .second, .val (.ref a2), .val (.double z0), .second, .val (.double z1), .second, .val (.double z2), .second, .val (.double z3), .second, .val (.double z4), .second, .val (.double z5), .second, .val (.double z6), .second, .val (.double z7), .second, .val (.double z8), .second, .val (.double z9), .second, .val (.double z10), .second, .val (.double z11), .second, .val (.int i1), .val (.int i2), .val (.double u1), .second, .val (.double u2), .second, .val (.double u3), .second] [(.double z9), (.ref a1)])) _
    refine st79 _ ?_
    show Steps p.tables e below (T79.setTop (mkF m 128 #[.val (.ref a1), .val (.double d1), .second, .val (.double d2), .second, .val (.double y0), .second, .val (.double y1), .second, .val (.double y2), .second, .val (.double y3), .second, .val (.double y4), .second, .val (.double y5), .second, .val (.double y6), .second, .val (.double y7), .second, .val (.ref a2), .val (.double z0), .second, .val (.double z1), .second, .val (.double z2), .second, .val (.double z3), .second, .val (.double z4), .second, .val (.double z5), .second, .val (.double z6), .second, .val (.double z7), .second, .val (.double z8), .second, .val (.double z9), .second, .val (.double z10), .second, .val (.double z11), .second, .val (.int i1), .val (.int i2), .val (.double u1), .second, .val (.double u2), .second, .val (.double u3), .second] [])) _
    refine XS.aloadN X79.here hx rfl (hb hby d3_128) rfl rfl ?_
    show Steps p.tables e below (T79.setTop (mkF m 129 #[.val (.ref a1), .val (.double d1), .second, .val (.double d2), .second, .val (.double y0), .second, .val (.double y1), .second, .val (.double y2), .second, .val (.double y3), .second, .val (.double y4), .second, .val (.double y5), .second, .val (.double y6), .second, .val (.double y7), .second, .val (.ref a2), .val (.double z0), .second, .val (.double z1), .second, .val (.double z2), .second, .val (.double z3), .second, .val (.double z4), .second, .val (.double z5), .second, .val (.double z6), .second, .val (.double z7), .second, .val (.double z8), .second, .val (.double z9), .second, .val (.double z10), .second, .val (.double z11), .second, .val (.int i1), .val (.int i2), .val (.double u1), .second, .val (.double u2), .second, .val (.double u3), .second] [(.ref a1)])) _
    refine XS.dload X79.here hx rfl (hb hby d3_129) rfl ?_
    show Steps p.tables e below (T79.setTop (mkF m 131 #[.val (.ref a1), .val (.double d1), .second, .val (.double d2), .second, .val (.double y0), .second, .val (.double y1), .second, .val (.double y2), .second, .val (.double y3), .second, .val (.double y4), .second, .val (.double y5), .second, .val (.double y6), .second, .val (.double y7), .second, .val (.ref a2), .val (.double z0), .second, .val (.double z1), .second, .val (.double z2), .second, .val (.double z3), .second, .val (.double z4), .second, .val (.double z5), .second, .val (.double z6), .second, .val (.double z7), .second, .val (.double z8), .second, .val (.double z9), .second, .val (.double z10), .second, .val (.double z11), .second, .val (.int i1), .val (.int i2), .val (.double u1), .second, .val (.double u2), .second, .val (.double u3), .second] [(.double z10), (.ref a1)])) _
    refine st83 _ ?_
    show Steps p.tables e below (T83.setTop (mkF m 134 #[.val (.ref a1), .val (.double d1), .second, .val (.double d2), .second, .val (.double y0), .second, .val (.double y1), .second, .val (.double y2), .second, .val (.double y3), .second, .val (.double y4), .second, .val (.double y5), .second, .val (.double y6), .second, .val (.double y7), .second, .val (.ref a2), .val (.double z0), .second, .val (.double z1), .second, .val (.double z2), .second, .val (.double z3), .second, .val (.double z4), .second, .val (.double z5), .second, .val (.double z6), .second, .val (.double z7), .second, .val (.double z8), .second, .val (.double z9), .second, .val (.double z10), .second, .val (.double z11), .second, .val (.int i1), .val (.int i2), .val (.double u1), .second, .val (.double u2), .second, .val (.double u3), .second] [])) _
    refine XS.aloadN X83.here hx rfl (hb hby d3_134) rfl rfl ?_
    show Steps p.tables e below (T83.setTop (mkF m 135 #[.val (.ref a1), .val (.double d1), .second, .val (.double d2), .second, .val (.double y0), .second, .val (.double y1), .second, .val (.double y2), .second, .val (.double y3), .second, .val (.double y4), .second, .val (.double y5), .second, .val (.double y6), .second, .val (.double y7), .second, .val (.ref a2), .val (.double z0), .second, .val (.double z1), .second, .val (.double z2), .second, .val (.double z3), .second, .val (.double z4), .second, .val (.double z5), .second, .val (.double z6), .second, .val (.double z7), .second, .val (.double z8), .second, .val (.double z9), .second, .val (.double z10), .second, .val (.double z11), .second, .val (.int i1), .val (.int i2), .val (.double u1), .second, .val (.double u2), .second, .val (.double u3), .second] [(.ref a1)])) _
    refine XS.dload X83.here hx rfl (hb hby d3_135) rfl ?_
    show Steps p.tables e below (T83.setTop (mkF m 137 #[.val (.ref a1), .val (.double d1), .second, .val (.double d2), .second, .val (.double y0), .second, .val (.double y1), .second, .val (.double y2), .second, .val (.double y3), .second, .val (.double y4), .second, .val (.double y5), .second, .val (.double y6), .second, .val (.double y7), .second, .val (.ref a2), .val (.double z0), .second, .val (.double z1), .second, .val (.double z2), .second, .val (.double z3), .second, .val (.double z4), .second, .val (.double z5), .second, .val (.double z6), .second, .val (.double z7), .second, .val (.double z8), .second, .val (.double z9), .second, .val (.double z10), .second, .val (.double z11), .second, .val (.int i1), .val (.int i2), .val (.double u1), .second, .val (.double u2), .second, .val (.double u3), .second] [(.double z11), (.ref a1)])) _
    refine st87 _ ?_
    show Steps p.tables e below (T87.setTop (mkF m 140 #[.val (.ref a1), .val (.double d1), .second, .val (.double d2), .second, .val (.double y0), .second, .val (.double y1), .second, .val (.double y2), .second, .val (.double y3), .second, .val (.double y4), .second, .val (.double y5), .second, .val (.double y6), .second, .val (.double y7), .second, .val (.ref a2), .val (.double z0), .second, .val (.double z1), .second, .val (.double z2), .second, .val (.double z3), .second, .val (.double z4), .second, .val (.double z5), .second, .val (.double z6), .second, .val (.double z7), .second, .val (.double z8), .second, .val (.double z9), .second, .val (.double z10), .second, .val (.double z11), .second, .val (.int i1), .val (.int i2), .val (.double u1), .second, .val (.double u2), .second, .val (.double u3), .second] [])) _
    refine XS.aloadN X87.here hx rfl (hb hby d3_140) rfl rfl ?_
    show Steps p.tables e below (T87.setTop (mkF m 141 #[.val (.ref a1), .val (.double d1), .second, .val (.double d2), .second, .val (.double y0), .second, .val (.double y1), .second, .val (.double y2), .second, .val (.double y3), .second, .val (.double y4), .second, .val (.double y5), .second, .val (.double y6), .second, .val (.double y7), .second, .val (.ref a2), .val (.double z0), .second, .val (.double z1), .second, .val (.double z2), .second, .val (.double z3), .second, .val (.double z4), .second, .val (.double z5), .second, .val (.double z6), .second, .val (.double z7), .second, .val (.double z8), .second, .val (.double z9), .second, .val (.double z10), .second, .val (.double z11), .second, .val (.int i1), .val (.int i2), .val (.double u1), .second, .val (.double u2), .second, .val (.double u3), .second] [(.ref a1)])) _
    refine XS.iload X87.here hx rfl (hb hby d3_141) rfl ?_
    show Steps p.tables e below (T87.setTop (mkF m 143 #[.val (.ref a1), .val (.double d1), .second, .val (.double d2), .second, .val (.double y0), .second, .val (.double y1), .second, .val (.double y2), .second, .val (.double y3), .second, .val (.double y4), .second, .val (.double y5), .second, .val (.double y6), .second, .val (.double y7), .second, .val (.ref a2), .val (.double z0), .second, .val (.double z1), .second, .val (.double z2), .second, .val (.double z3), .second, .val (.double z4), .second, .val (.double z5), .second, .val (.double z6), .second, .val (.double z7), .second, .val (.double z8), .second, .val (.double z9), .second, .val (.double z10), .second, .val (.double z11), .second, .val (.int i1), .val (.int i2), .val (.double u1), .second, .val (.double u2), .second, .val (.double u3), .second] [(.int i1), (.ref a1)])) _
    refine st91 _ ?_
    show Steps p.tables e below (T91.setTop (mkF m 146 #[.val (.ref a1), .val (.double d1), .second, .val (.double d2), .second, .val (.double y0), .second, .val (.double y1), .second, .val (.double y2), .second, .val (.double y3), .second, .val (.double y4), .second, .val (.double y5), .second, .val (.double y6), .second, .val (.double y7), .second, .val (.ref a2), .val (.double z0), .second, .val (.double z1), .second, .val (.double z2), .second, .val (.double z3), .second, .val (.double z4), .second, .val (.double z5), .second, .val (.double z6), .second, .val (.double z7), .second, .val (.double z8), .second, .val (.double z9), .second, .val (.double z10), .second, .val (.double z11), .second, .val (.int i1), .val (.int i2), .val (.double u1), .second, .val (.double u2), .second, .val (.double u3), .second] [])) _
    refine XS.aloadN X91.here hx rfl (hb hby d3_146) rfl rfl ?_
    show Steps p.tables e below (T91.setTop (mkF m 147 #[.val (.ref a1), .val (.double d1), .second, .val (.double d2), .second, .val (.double y0), .second, .val (.double y1), .second, .val (.double y2), .second, .val (.double y3), .second, .val (.double y4), .second, .val (.double y5), .second, .val (.double y6), .second, .val (.double y7), .second, .val (.ref a2), .val (.double z0), .second, .val (.double z1), .second, .val (.double z2), .second, .val (.double z3), .second, .val (.double z4), .second, .val (.double z5), .second, .val (.double z6), .second, .val (.double z7), .second, .val (.double z8), .second, .val (.double z9), .second, .val (.double z10), .second, .val (.double z11), .second, .val (.int i1), .val (.int i2), .val (.double u1), .second, .val (.double u2), .second, .val (.double u3), .second] [(.ref a1)])) _
    refine XS.iload X91.here hx rfl (hb hby d3_147) rfl ?_
    show Steps p.tables e below (T91.setTop (mkF m 149 #[.val (.ref a1), .val (.double d1), .second, .val (.double d2), .second, .val (.double y0), .second, .val (.double y1), .second, .val (.double y2), .second, .val (.double y3), .second, .val (.double y4), .second, .val (.double y5), .second, .val (.double y6), .second, .val (.double y7), .second, .val (.ref a2), .val (.double z0), .second, .val (.double z1), .second, .val (.double z2), .second, .val (.double z3), .second, .val (.double z4), .second, .val (.double z5), .second, .val (.double z6), .second, .val (.double z7), .second, .val (.double z8), .second, .val (.double z9), .second, .val (.double z10), .second, .val (.double z11), .second, .val (.int i1), .val (.int i2), .val (.double u1), .second, .val (.double u2), .second, .val (.double u3), .second] [(.int i2), (.ref a1)])) _
    refine st95 _ ?_
    show Steps p.tables e below (T95.setTop (mkF m 152 #[.val (.ref a1), .val (.double d1), .second, .val (.double d2), .second, .val (.double y0), .second, .val (.double y1), .second, .val (.double y2), .second, .val (.double y3), .second, .val (.double y4), .second, .val (.double y5), .second, .val (.double y6), .second, .val (.double y7), .second, .val (.ref a2), .val (.double z0), .second, .val (.double z1), .second, .val (.double z2), .second, .val (.double z3), .second, .val (.double z4), .second, .val (.double z5), .second, .val (.double z6), .second, .val (.double z7), .second, .val (.double z8), .second, .val (.double z9), .second, .val (.double z10), .second, .val (.double z11), .second, .val (.int i1), .val (.int i2), .val (.double u1), .second, .val (.double u2), .second, .val (.double u3), .second] [])) _
    refine XS.aloadN X95.here hx rfl (hb hby d3_152) rfl rfl ?_
    show Steps p.tables e below (T95.setTop (mkF m 153 #[.val (.ref a1), .val (.double d1), .second, .val (.double d2), .second, .val (.double y0), .second, .val (.double y1), .second, .val (.double y2), .second, .val (.double y3), .second, .val (.double y4), .second, .val (.double y5), .second, .val (.double y6), .second, .val (.double y7), .second, .val (.ref a2), .val (.double z0), .second, .val (.double z1), .second, .val (.double z2), .second, .val (.double z3), .second, .val (.double z4), .second, .val (.double z5), .second, .val (.double z6), .second, .val (.double z7), .second, .val (.double z8), .second, .val (.double z9), .second, .val (.double z10), .second, .val (.double z11), .second, .val (.int i1), .val (.int i2), .val (.double u1), .second, .val (.double u2), .second, .val (.double u3), .second] [(.ref a1)])) _
    refine XS.dload X95.here hx rfl (hb hby d3_153) rfl ?_
    show Steps p.tables e below (T95.setTop (mkF m 155 #[.val (.ref a1), .val (.double d1), .second, .val (.double d2), .second, .val (.double y0), .second, .val (.double y1), .second, .val (.double y2), .second, .val (.double y3), .second, .val (.double y4), .second, .val (.double y5), .second, .val (.double y6), .second, .val (.double y7), .second, .val (.ref a2), .val (.double z0), .second, .val (.double z1), .second, .val (.double z2), .second, .val (.double z3), .second, .val (.double z4), .second, .val (.double z5), .second, .val (.double z6), .second, .val (.double z7), .second, .val (.double z8), .second, .val (.double z9), .second, .val (.double z10), .second, .val (.double z11), .second, .val (.int i1), .val (.int i2), .val (.double u1), .second, .val (.double u2), .second, .val (.double u3), .second] [(.double u1), (.ref a1)])) _
    refine st99 _ ?_
    show Steps p.tables e below (T99.setTop (mkF m 158 #[.val (.ref a1), .val (.double d1), .second, .val (.double d2), .second, .val (.double y0), .second, .val (.double y1), .second, .val (.double y2), .second, .val (.double y3), .second, .val (.double y4), .second, .val (.double y5), .second, .val (.double y6), .second, .val (.double y7), .second, .val (.ref a2), .val (.double z0), .second, .val (.double z1), .second, .val (.double z2), .second, .val (.double z3), .second, .val (.double z4), .second, .val (.double z5), .second, .val (.double z6), .second, .val (.double z7), .second, .val (.double z8), .second, .val (.double z9), .second, .val (.double z10), .second, .val (.double z11), .second, .val (.int i1), .val (.int i2), .val (.double u1), .second, .val (.double u2), .second, .val (.double u3), .second] [])) _
    refine XS.aloadN X99.here hx rfl (hb hby d3_158) rfl rfl ?_
    show Steps p.tables e below (T99.setTop (mkF m 159 #[.val (.ref a1), .val (.double d1), .second, .val (.double d2), .second, .val (.double y0), .second, .val (.double y1), .second, .val (.double y2), .second, .val (.double y3), .second, .val (.double y4), .second, .val (.double y5), .second, .val (.double y6), .second, .val (.double y7), .second, .val (.ref a2), .val (.double z0), .second, .val (.double z1), .second, .val (.double z2), .second, .val (.double z3), .second, .val (.double z4), .second, .val (.double z5), .second, .val (.double z6), .second, .val (.double z7), .second, .val (.double z8), .second, .val (.double z9), .second, .val (.double z10), .second, .val (.double z11), .second, .val (.int i1), .val (.int i2), .val (.double u1), .second, .val (.double u2), .second, .val (.double u3), .second] [(.ref a1)])) _
    refine XS.dload X99.here hx rfl (hb hby d3_159) rfl ?_
    show Steps p.tables e below (T99.setTop (mkF m 161 #[.val (.ref a1), .val (.double d1), .second, .val (.double d2), .second, .val (.double y0), .second, .val (.double y1), .second, .val (.double y2), .second, .val (.double y3), .second, .val (.double y4), .second, .val (.double y5), .second, .val (.double y6), .second, .val (.double y7), .second, .val (.ref a2), .val (.double z0), .second, .val (.double z1), .second, .val (.double z2), .second, .val (.double z3), .second, .val (.double z4), .second, .val (.double z5), .second, .val (.double z6), .second, .val (.double z7), .second, .val (.double z8), .second, .val (.double z9), .second, .val (.double z10), .second, .val (.double z11), .second, .val (.int i1), .val (.int i2), .val (.double u1), .second, .val (.double u2), .second, .val (.double u3), .second] [(.double u2), (.ref a1)])) _
    refine st103 _ ?_
    show Steps p.tables e below (T103.setTop (mkF m 164 #[.val (.ref a1), .val (.double d1), .second, .val (.double d2), .second, .val (.double y0), .second, .val (.double y1), .second, .val (.double y2), .second, .val (.double y3), .second, .val (.double y4), .second, .val (.double y5), .second, .val (.double y6), .second, .val (.double y7), .second, .val (.ref a2), .val (.double z0), .second, .val (.double z1), .second, .val (.double z2), .second, .val (.double z3), .second, .val (.double z4), .second, .val (.double z5), .second, .val (.double z6), .second, .val (.double z7), .second, .val (.double z8), .second, .val (.double z9), .second, .val (.double z10), .second, .val (.double z11), .second, .val (.int i1), .val (.int i2), .val (.double u1), .second, .val (.double u2), .second, .val (.double u3), .second] [])) _
    refine XS.aloadN X103.here hx rfl (hb hby d3_164) rfl rfl ?_
    show Steps p.tables e below (T103.setTop (mkF m 165 #[.val (.ref a1), .val (.double d1), .second, .val (.double d2), .second, .val (.double y0), .second, .val (.double y1), .second, .val (.double y2), .second, .val (.double y3), .second, .val (.double y4), .second, .val (.double y5), .second, .val (.double y6), .second, .val (.double y7), .second, .val (.ref a2), .val (.double z0), .second, .val (.double z1), .second, .val (.double z2), .second, .val (.double z3), .second, .val (.double z4), .second, .val (.double z5), .second, .val (.double z6), .second, .val (.double z7), .second, .val (.double z8), .second, .val (.double z9), .second, .val (.double z10), .second, .val (.double z11), .second, .val (.int i1), .val (.int i2), .val (.double u1), .second, .val (.double u2), .second, .val (.double u3), .second] [(.ref a1)])) _
    refine XS.dload X103.here hx rfl (hb hby d3_165) rfl ?_
    show Steps p.tables e below (T103.setTop (mkF m 167 #[.val (.ref a1), .val (.double d1), .second, .val (.double d2), .second, .val (.double y0), .second, .val (.double y1), .second, .val (.double y2), .second, .val (.double y3), .second, .val (.double y4), .second, .val (.double y5), .second, .val (.double y6), .second, .val (.double y7), .second, .val (.ref a2), .val (.double z0), .second, .val (.double z1), .second, .val (.double z2), .second, .val (.double z3), .second, .val (.double z4), .second, .val (.double z5), .second, .val (.double z6), .second, .val (.double z7), .second, .val (.double z8), .second, .val (.double z9), .second, .val (.double z10), .second, .val (.double z11), .second, .val (.int i1), .val (.int i2), .val (.double u1), .second, .val (.double u2), .second, .val (.double u3), .second] [(.double u3), (.ref a1)])) _
    refine st107 _ ?_
    show Steps p.tables e below (T107.setTop (mkF m 170 #[.val (.ref a1), .val (.double d1), .second, .val (.double d2), .second, .val (.double y0), .second, .val (.double y1), .second, .val (.double y2), .second, .val (.double y3), .second, .val (.double y4), .second, .val (.double y5), .second, .val (.double y6), .second, .val (.double y7), .second, .val (.ref a2), .val (.double z0), .second, .val (.double z1), .second, .val (.double z2), .second, .val (.double z3), .second, .val (.double z4), .second, .val (.double z5), .second, .val (.double z6), .second, .val (.double z7), .second, .val (.double z8), .second, .val (.double z9), .second, .val (.double z10), .second, .val (.double z11), .second, .val (.int i1), .val (.int i2), .val (.double u1), .second, .val (.double u2), .second, .val (.double u3), .second] [])) _
    exact X107.returnOut hx Bd.returns (hb hby d3_170) hr
  · show Q_pin Z a1 d1 d2 y0 y1 y2 y3 y4 y5 y6 y7 a2 z0 z1 z2 z3 z4 z5 z6 z7 z8 z9 z10 z11 i1 i2 u1 u2 u3  h0 n0 _ T107.heap _
    rw [e107]
    exact ⟨rfl, Nn107, K107, q108, q109, q110⟩
theorem ef_ht (m : MethodId) (a1 : Addr) (d4 : UInt64) : entryFrame m #[(.ref a1), (.double d4)] 3 = (mkF m 0 #[.val (.ref a1), .val (.double d4), .second] []) := by first | (simp [entryFrame, mkF, argsToLocals, Value.category]; done) | rfl
def Q_ht (Z : State) (a1 : Addr) (d4 : UInt64) (d8 : UInt64) (d9 : UInt64) (h0 : Heap) (n0 : Nat) (v : Option Value) (h : Heap) (L : List Loc) : Prop := v = some (.int (0 : Int32)) ∧ Fr n0 L ∧ h = h0
set_option maxRecDepth 65536 in
set_option maxHeartbeats 40000000 in
theorem rm_ht (l : Launch) (Z : State) (a0 : Array Value) (hw : ∀ d ∈ tables_1, d.before a0 Z = true) (ws : List Jvm.Cond) (a1 : Addr) (d4 : UInt64) (d8 : UInt64) (d9 : UInt64) (h0 : Heap) (n0 : Nat) (Z0 : n0 ≤ h0.size) (k0_ : Fld Z h0 a1 "com/example/quadratur/quadratur/method/GaussKronrod$Piece" "lo" "D" (.double d8)) (k1_ : Fld Z h0 a1 "com/example/quadratur/quadratur/method/GaussKronrod$Piece" "hi" "D" (.double d9)) (hc : ifCond.holds .gt (cmpValue (FP.dcmp d8 d4) .g) = true)  :
    MetFree l (⟨"com/example/quadratur/quadratur/method/GaussKronrod$Piece", "holds", "(D)Z"⟩ : MethodName) (head1 (Jvm.Cond.code (⟨"com/example/quadratur/quadratur/method/GaussKronrod$Piece", "holds", "(D)Z"⟩ : MethodName) prog_42_method_6_code 3 (some .boolean) :: ws) ({ frames := 0, cells := 0, slots := 0, locals := 0 } : Room)) (fun a U => a = #[(.ref a1), (.double d4)] ∧ Z.Warmed39 U.vm ∧ U.heap = h0) (fun _ _ _ _ _ => True) (fun _ U o U' => ∃ v L, o = .returned v ∧ Q_ht Z a1 d4 d8 d9 h0 n0 v U'.heap L ∧ FrameEnd U o U' L ({ frames := 0, cells := 0, slots := 0, locals := 0 } : Room).cells ({ frames := 0, cells := 0, slots := 0, locals := 0 } : Room).slots) := by
  refine MetFree.of_bodySF (plainFor_of_name pn_1) hisR ?_
  intro p e s m args below meth c s₁ Bd hml0 hP hK
  obtain ⟨rfl, hZ, hh⟩ := hP
  have hx := Bd.exec
  have hby := Bd.bytes
  have hml : c.maxLocals = 3 := hml0
  have hown : s.vm.findClass "com/example/quadratur/quadratur/method/GaussKronrod$Piece" = some m.cls := findClass_of_methodNamed Bd.named
  have hnm := (name_of_methodNamed Bd.named Bd.method).1
  have X0 : Stand p l e ({ frames := 0, cells := 0, slots := 0, locals := 0 } : Room) s m #[(.ref a1), (.double d4)] below meth c s₁ [] 0 0 := Stand.of_body Bd
  have e0 : s₁.heap = h0 := by rw [← hh, Bd.state]; rfl
  have N0 := Fr.nil n0
  have pre0 : ∀ t, Steps p.tables e below (s₁.setTop (mkF m 0 #[.val (.ref a1), .val (.double d4), .second] [])) t → Steps p.tables e below (s₁.setTop (entryFrame m #[(.ref a1), (.double d4)] 3)) t := fun t k => castTop (ef_ht m a1 d4) k
  obtain ⟨T1, X1, e1, st1⟩ := getF X0 hx hZ hown (host := "") (Or.inl (hw _ (List.mem_of_getElem? (i := 22) rfl))) Via.refl e0 k0_ (g := (mkF m 1 #[.val (.ref a1), .val (.double d4), .second] [(.ref a1)])) rfl rfl (hb hby d4_1)
  obtain ⟨fs, hr, hrun, hended, hW, hsame⟩ := X1.leave (v := some (.int (0 : Int32))) (fun h => by rw [Bd.returns] at h; cases h)
  refine ⟨_, _, pre0 _ ?_, hrun, hended, _, _, rfl, ?_, ⟨_, rfl⟩, hW, hsame.mono (Nat.le_of_ble_eq_true rfl) (Nat.le_of_ble_eq_true rfl)⟩
  · show Steps p.tables e below (s₁.setTop (mkF m 0 #[.val (.ref a1), .val (.double d4), .second] [])) _
    refine XS.aloadN X0.here hx rfl (hb hby d4_0) rfl rfl ?_
    show Steps p.tables e below (s₁.setTop (mkF m 1 #[.val (.ref a1), .val (.double d4), .second] [(.ref a1)])) _
    refine st1 _ ?_
    show Steps p.tables e below (T1.setTop (mkF m 4 #[.val (.ref a1), .val (.double d4), .second] [(.double d8)])) _
    refine XS.dloadN X1.here hx rfl (hb hby d4_4) rfl ?_
    show Steps p.tables e below (T1.setTop (mkF m 5 #[.val (.ref a1), .val (.double d4), .second] [(.double d4), (.double d8)])) _
    refine XS.dcmpS X1.here hx rfl (hb hby d4_5) rfl rfl ?_
    show Steps p.tables e below (T1.setTop (mkF m 6 #[.val (.ref a1), .val (.double d4), .second] [(.int (cmpValue (FP.dcmp d8 d4) .g))])) _
    refine XS.ifYes X1.here hx rfl (pc0 := 6) (pc' := 22) rfl (hb hby d4_6) rfl hc (by decide) (by decide) ?_
    show Steps p.tables e below (T1.setTop (mkF m 22 #[.val (.ref a1), .val (.double d4), .second] [])) _
    refine XS.iconst X1.here hx rfl (hb hby d4_22) ?_
    show Steps p.tables e below (T1.setTop (mkF m 23 #[.val (.ref a1), .val (.double d4), .second] [(.int (0 : Int32))])) _
    exact retN X1 hx (t := .boolean) Bd.returns (by simp) (hb hby d4_23) hr
  · show Q_ht Z a1 d4 d8 d9 h0 n0 _ T1.heap _
    exact ⟨rfl, N0, e1⟩
theorem ef_hf (m : MethodId) (a1 : Addr) (d4 : UInt64) : entryFrame m #[(.ref a1), (.double d4)] 3 = (mkF m 0 #[.val (.ref a1), .val (.double d4), .second] []) := by first | (simp [entryFrame, mkF, argsToLocals, Value.category]; done) | rfl
def Q_hf (Z : State) (a1 : Addr) (d4 : UInt64) (d8 : UInt64) (d9 : UInt64) (h0 : Heap) (n0 : Nat) (v : Option Value) (h : Heap) (L : List Loc) : Prop := v = some (.int (hf_r d4 d8 d9)) ∧ Fr n0 L ∧ h = h0
set_option maxRecDepth 65536 in
set_option maxHeartbeats 40000000 in
theorem rm_hf (l : Launch) (Z : State) (a0 : Array Value) (hw : ∀ d ∈ tables_1, d.before a0 Z = true) (ws : List Jvm.Cond) (a1 : Addr) (d4 : UInt64) (d8 : UInt64) (d9 : UInt64) (h0 : Heap) (n0 : Nat) (Z0 : n0 ≤ h0.size) (k0_ : Fld Z h0 a1 "com/example/quadratur/quadratur/method/GaussKronrod$Piece" "lo" "D" (.double d8)) (k1_ : Fld Z h0 a1 "com/example/quadratur/quadratur/method/GaussKronrod$Piece" "hi" "D" (.double d9)) (hc : ifCond.holds .gt (cmpValue (FP.dcmp d8 d4) .g) = false)  :
    MetFree l (⟨"com/example/quadratur/quadratur/method/GaussKronrod$Piece", "holds", "(D)Z"⟩ : MethodName) (head1 (Jvm.Cond.code (⟨"com/example/quadratur/quadratur/method/GaussKronrod$Piece", "holds", "(D)Z"⟩ : MethodName) prog_42_method_6_code 3 (some .boolean) :: ws) ({ frames := 0, cells := 0, slots := 0, locals := 0 } : Room)) (fun a U => a = #[(.ref a1), (.double d4)] ∧ Z.Warmed39 U.vm ∧ U.heap = h0) (fun _ _ _ _ _ => True) (fun _ U o U' => ∃ v L, o = .returned v ∧ Q_hf Z a1 d4 d8 d9 h0 n0 v U'.heap L ∧ FrameEnd U o U' L ({ frames := 0, cells := 0, slots := 0, locals := 0 } : Room).cells ({ frames := 0, cells := 0, slots := 0, locals := 0 } : Room).slots) := by
  refine MetFree.of_bodySF (plainFor_of_name pn_1) hisR ?_
  intro p e s m args below meth c s₁ Bd hml0 hP hK
  obtain ⟨rfl, hZ, hh⟩ := hP
  have hx := Bd.exec
  have hby := Bd.bytes
  have hml : c.maxLocals = 3 := hml0
  have hown : s.vm.findClass "com/example/quadratur/quadratur/method/GaussKronrod$Piece" = some m.cls := findClass_of_methodNamed Bd.named
  have hnm := (name_of_methodNamed Bd.named Bd.method).1
  have X0 : Stand p l e ({ frames := 0, cells := 0, slots := 0, locals := 0 } : Room) s m #[(.ref a1), (.double d4)] below meth c s₁ [] 0 0 := Stand.of_body Bd
  have e0 : s₁.heap = h0 := by rw [← hh, Bd.state]; rfl
  have N0 := Fr.nil n0
  have pre0 : ∀ t, Steps p.tables e below (s₁.setTop (mkF m 0 #[.val (.ref a1), .val (.double d4), .second] [])) t → Steps p.tables e below (s₁.setTop (entryFrame m #[(.ref a1), (.double d4)] 3)) t := fun t k => castTop (ef_hf m a1 d4) k
  obtain ⟨T1, X1, e1, st1⟩ := getF X0 hx hZ hown (host := "") (Or.inl (hw _ (List.mem_of_getElem? (i := 22) rfl))) Via.refl e0 k0_ (g := (mkF m 1 #[.val (.ref a1), .val (.double d4), .second] [(.ref a1)])) rfl rfl (hb hby d4_1)
  obtain ⟨T2, X2, e2, st2⟩ := getF X1 hx hZ hown (host := "") (Or.inl (hw _ (List.mem_of_getElem? (i := 24) rfl))) Via.refl e1 k1_ (g := (mkF m 11 #[.val (.ref a1), .val (.double d4), .second] [(.ref a1), (.double d4)])) rfl rfl (hb hby d4_11)
  obtain ⟨fs, hr, hrun, hended, hW, hsame⟩ := X2.leave (v := some (.int (hf_r d4 d8 d9))) (fun h => by rw [Bd.returns] at h; cases h)
  refine ⟨_, _, pre0 _ ?_, hrun, hended, _, _, rfl, ?_, ⟨_, rfl⟩, hW, hsame.mono (Nat.le_of_ble_eq_true rfl) (Nat.le_of_ble_eq_true rfl)⟩
  · show Steps p.tables e below (s₁.setTop (mkF m 0 #[.val (.ref a1), .val (.double d4), .second] [])) _
    refine XS.aloadN X0.here hx rfl (hb hby d4_0) rfl rfl ?_
    show Steps p.tables e below (s₁.setTop (mkF m 1 #[.val (.ref a1), .val (.double d4), .second] [(.ref a1)])) _
    refine st1 _ ?_
    show Steps p.tables e below (T1.setTop (mkF m 4 #[.val (.ref a1), .val (.double d4), .second] [(.double d8)])) _
    refine XS.dloadN X1.here hx rfl (hb hby d4_4) rfl ?_
    show Steps p.tables e below (T1.setTop (mkF m 5 #[.val (.ref a1), .val (.double d4), .second] [(.double d4), (.double d8)])) _
    refine XS.dcmpS X1.here hx rfl (hb hby d4_5) rfl rfl ?_
    show Steps p.tables e below (T1.setTop (mkF m 6 #[.val (.ref a1), .val (.double d4), .second] [(.int (cmpValue (FP.dcmp d8 d4) .g))])) _
    refine XS.ifNo X1.here hx rfl (hb hby d4_6) rfl hc ?_
    show Steps p.tables e below (T1.setTop (mkF m 9 #[.val (.ref a1), .val (.double d4), .second] [])) _
    refine XS.dloadN X1.here hx rfl (hb hby d4_9) rfl ?_
    show Steps p.tables e below (T1.setTop (mkF m 10 #[.val (.ref a1), .val (.double d4), .second] [(.double d4)])) _
    refine XS.aloadN X1.here hx rfl (hb hby d4_10) rfl rfl ?_
    show Steps p.tables e below (T1.setTop (mkF m 11 #[.val (.ref a1), .val (.double d4), .second] [(.ref a1), (.double d4)])) _
    refine st2 _ ?_
    show Steps p.tables e below (T2.setTop (mkF m 14 #[.val (.ref a1), .val (.double d4), .second] [(.double d9), (.double d4)])) _
    refine XS.dcmpS X2.here hx rfl (hb hby d4_14) rfl rfl ?_
    show Steps p.tables e below (T2.setTop (mkF m 15 #[.val (.ref a1), .val (.double d4), .second] [(.int (cmpValue (FP.dcmp d4 d9) .g))])) _
    by_cases c3 : (ifCond.holds .gt (cmpValue (FP.dcmp d4 d9) .g)) = true
    · refine XS.ifYes X2.here hx rfl (pc0 := 15) (pc' := 22) rfl (hb hby d4_15) rfl c3 (by decide) (by decide) ?_
      show Steps p.tables e below (T2.setTop (mkF m 22 #[.val (.ref a1), .val (.double d4), .second] [])) _
      refine XS.iconst X2.here hx rfl (hb hby d4_22) ?_
      show Steps p.tables e below (T2.setTop (mkF m 23 #[.val (.ref a1), .val (.double d4), .second] [(.int (0 : Int32))])) _
      have q : (hf_r d4 d8 d9) = (0 : Int32) := by simp only [hf_r, c3, if_true, if_false, Bool.false_eq_true]; try rfl
      rw [q] at hr
      exact retN X2 hx (t := .boolean) Bd.returns (by simp) (hb hby d4_23) hr
    · refine XS.ifNo X2.here hx rfl (hb hby d4_15) rfl (Bool.eq_false_iff.mpr c3) ?_
      show Steps p.tables e below (T2.setTop (mkF m 18 #[.val (.ref a1), .val (.double d4), .second] [])) _
      refine XS.iconst X2.here hx rfl (hb hby d4_18) ?_
      show Steps p.tables e below (T2.setTop (mkF m 19 #[.val (.ref a1), .val (.double d4), .second] [(.int (1 : Int32))])) _
      refine XS.goto X2.here hx rfl (pc0 := 19) (pc' := 23) rfl (hb hby d4_19) (by decide) (by decide) ?_
      show Steps p.tables e below (T2.setTop (mkF m 23 #[.val (.ref a1), .val (.double d4), .second] [(.int (1 : Int32))])) _
      have q : (hf_r d4 d8 d9) = (1 : Int32) := by simp only [hf_r, c3, if_true, if_false, Bool.false_eq_true]; try rfl
      rw [q] at hr
      exact retN X2 hx (t := .boolean) Bd.returns (by simp) (hb hby d4_23) hr
  · show Q_hf Z a1 d4 d8 d9 h0 n0 _ T2.heap _
    exact ⟨rfl, N0, e2⟩
def Q_ho (Z : State) (a1 : Addr) (d4 : UInt64) (d8 : UInt64) (d9 : UInt64) (h0 : Heap) (n0 : Nat) (v : Option Value) (h : Heap) (L : List Loc) : Prop := v = some (.int (ho_res d4 d8 d9)) ∧ Fr n0 L ∧ h = h0
set_option maxRecDepth 65536 in
set_option maxHeartbeats 40000000 in
theorem rm_ho (l : Launch) (Z : State) (a0 : Array Value) (hw : ∀ d ∈ tables_1, d.before a0 Z = true) (ws : List Jvm.Cond) (a1 : Addr) (d4 : UInt64) (d8 : UInt64) (d9 : UInt64) (h0 : Heap) (n0 : Nat) (Z0 : n0 ≤ h0.size) (k0_ : Fld Z h0 a1 "com/example/quadratur/quadratur/method/GaussKronrod$Piece" "lo" "D" (.double d8)) (k1_ : Fld Z h0 a1 "com/example/quadratur/quadratur/method/GaussKronrod$Piece" "hi" "D" (.double d9))  :
    MetFree l (⟨"com/example/quadratur/quadratur/method/GaussKronrod$Piece", "holds", "(D)Z"⟩ : MethodName) (head1 (Jvm.Cond.code (⟨"com/example/quadratur/quadratur/method/GaussKronrod$Piece", "holds", "(D)Z"⟩ : MethodName) prog_42_method_6_code 3 (some .boolean) :: ws) ({ frames := 0, cells := 0, slots := 0, locals := 0 } : Room)) (fun a U => a = #[(.ref a1), (.double d4)] ∧ Z.Warmed39 U.vm ∧ U.heap = h0) (fun _ _ _ _ _ => True) (fun _ U o U' => ∃ v L, o = .returned v ∧ Q_ho Z a1 d4 d8 d9 h0 n0 v U'.heap L ∧ FrameEnd U o U' L ({ frames := 0, cells := 0, slots := 0, locals := 0 } : Room).cells ({ frames := 0, cells := 0, slots := 0, locals := 0 } : Room).slots) := by
  by_cases cc : (ifCond.holds .gt (cmpValue (FP.dcmp d8 d4) .g)) = true
  · have q : ho_res d4 d8 d9 = (0 : Int32) := if_pos cc
    unfold Q_ho; rw [q]
    exact rm_ht l Z a0 hw ws a1 d4 d8 d9 h0 n0 Z0 k0_ k1_ cc 
  · have q : ho_res d4 d8 d9 = (hf_r d4 d8 d9) := if_neg cc
    unfold Q_ho; rw [q]
    exact rm_hf l Z a0 hw ws a1 d4 d8 d9 h0 n0 Z0 k0_ k1_ (Bool.eq_false_iff.mpr cc) 
theorem ef_lw (m : MethodId) (p1 : Int32) (p2 : Int32) (p3 : Int32) (p4 : Int32) : entryFrame m #[(.int p1), (.int p2), (.int p3), (.int p4)] maxLocals = (mkF m 0 #[.val (.int p1), .val (.int p2), .val (.int p3), .val (.int p4), .unset, .unset, .unset, .unset, .unset, .unset, .unset, .unset, .unset, .unset, .unset, .unset, .unset, .unset, .unset] []) := by first | (simp [entryFrame, mkF, argsToLocals, Value.category, maxLocals]; done) | rfl
def Q_lw (Z : State) (p1 : Int32) (p2 : Int32) (p3 : Int32) (p4 : Int32)  (h0 : Heap) (n0 : Nat) (v : Option Value) (h : Heap) (L : List Loc) : Prop := v = some (.int 1) ∧ Fr n0 L
set_option maxRecDepth 65536 in
set_option maxHeartbeats 40000000 in
theorem rm_lw (l : Launch) (Z : State) (a0 : Array Value) (hw : ∀ d ∈ tables_1, d.before a0 Z = true) (ws : List Jvm.Cond) (p1 : Int32) (p2 : Int32) (p3 : Int32) (p4 : Int32)  (h0 : Heap) (n0 : Nat) (Z0 : n0 ≤ h0.size)    :
    MetFree l x (head1 (Jvm.Cond.code x code maxLocals ret :: ws) room_1) (fun a U => a = #[(.int p1), (.int p2), (.int p3), (.int p4)] ∧ Z.Warmed39 U.vm ∧ U.heap = h0) (fun _ _ _ _ _ => True) (fun _ U o U' => ∃ v L, o = .returned v ∧ Q_lw Z p1 p2 p3 p4  h0 n0 v U'.heap L ∧ FrameEnd U o U' L 2 31) := by
  refine MetFree.of_bodySF (plainFor_of_name pn_2) hisR ?_
  intro p e s m args below meth c s₁ Bd hml0 hP hK
  obtain ⟨rfl, hZ, hh⟩ := hP
  have hx := Bd.exec
  have hby := Bd.bytes
  have hml : c.maxLocals = 19 := hml0
  have hown : s.vm.findClass "com/example/quadratur/quadratur/method/PieceHoldsPinLaw" = some m.cls := findClass_of_methodNamed Bd.named
  have hnm := (name_of_methodNamed Bd.named Bd.method).1
  have X0 : Stand p l e room_1 s m #[(.int p1), (.int p2), (.int p3), (.int p4)] below meth c s₁ [] 0 0 := Stand.of_body Bd
  have e0 : s₁.heap = h0 := by rw [← hh, Bd.state]; rfl
  have N0 := Fr.nil n0
  have pre0 : ∀ t, Steps p.tables e below (s₁.setTop (mkF m 0 #[.val (.int p1), .val (.int p2), .val (.int p3), .val (.int p4), .unset, .unset, .unset, .unset, .unset, .unset, .unset, .unset, .unset, .unset, .unset, .unset, .unset, .unset, .unset] [])) t → Steps p.tables e below (s₁.setTop (entryFrame m #[(.int p1), (.int p2), (.int p3), (.int p4)] maxLocals)) t := fun t k => castTop (ef_lw m p1 p2 p3 p4) k
  obtain ⟨T8, h8, X8, e8, E8, A8, D8, -, st8⟩ := newO X0 hx hZ hown (hw _ (List.mem_of_getElem? (i := 0) rfl)) (hw _ (List.mem_of_getElem? (i := 1) rfl)) (hw _ (List.mem_of_getElem? (i := 2) rfl)) e0 (g := (mkF m 85 #[.val (.int p1), .val (.int p2), .val (.int p3), .val (.int p4), .val (.long (lw_lo p1 p2 p3 p4)), .second, .val (.long (lw_hi p1 p2 p3 p4)), .second, .val (.long (lw_off p1 p2 p3 p4)), .second, .val (.int (lw_m p1 p2 p3 p4)), .val (.long (lw_xl p1 p2 p3 p4)), .second, .val (.int (lw_half p1 p2 p3 p4)), .val (.double (lw_x p1 p2 p3 p4)), .second, .unset, .unset, .unset] [])) rfl (hb hby at_85) (by decide) (by decide)
  obtain ⟨ad8, g8⟩ : ∃ z, z = (h0).size := ⟨_, rfl⟩
  rw [← g8] at A8 D8 st8
  have F8_0 : Fld Z h8 ad8 "com/example/quadratur/quadratur/method/GaussKronrod$FarEnd" "slope" "D" (.double (0 : UInt64)) := (D8 (Or.inr (hw _ (List.mem_of_getElem? (i := 10) rfl))) (ty := .double) (by decide))
  have F8_1 : Fld Z h8 ad8 "com/example/quadratur/quadratur/method/GaussKronrod$FarEnd" "slopeAt" "D" (.double (0 : UInt64)) := (D8 (Or.inr (hw _ (List.mem_of_getElem? (i := 12) rfl))) (ty := .double) (by decide))
  have F8_2 : Fld Z h8 ad8 "com/example/quadratur/quadratur/method/GaussKronrod$FarEnd" "curvature" "D" (.double (0 : UInt64)) := (D8 (Or.inr (hw _ (List.mem_of_getElem? (i := 14) rfl))) (ty := .double) (by decide))
  have Z8 : n0 ≤ h8.size := Nat.le_trans Z0 E8.1
  have gn8 : n0 ≤ ad8 := Nat.le_trans Z0 (Nat.le_of_eq g8.symm)
  obtain ⟨_, _, ⟨T9, L9, k9, n9⟩, -, X9, ⟨Lc9, hQ9, l9, y9, z9⟩, st9⟩ := X8.specialBack hx (y := (⟨"com/example/quadratur/quadratur/method/GaussKronrod$FarEnd", "<init>", "(DDD)V"⟩ : MethodName)) rfl hown (mvT hZ (hw _ (List.mem_of_getElem? (i := 3) rfl))) (mvT hZ (hw _ (List.mem_of_getElem? (i := 4) rfl))) (mvT hZ (hw _ (List.mem_of_getElem? (i := 5) rfl))) (by decide) (backOf (W := 1) (rm_ini l Z a0 hw [] ad8 (0 : UInt64) (0 : UInt64) (0 : UInt64)  (h8) n0 Z8 F8_0 F8_1 F8_2 A8 gn8 ) hZ (hw _ (List.mem_of_getElem? (i := 5) rfl)) (hw _ (List.mem_of_getElem? (i := 2) rfl)) (by decide) (by decide)) (g := (mkF m 92 #[.val (.int p1), .val (.int p2), .val (.int p3), .val (.int p4), .val (.long (lw_lo p1 p2 p3 p4)), .second, .val (.long (lw_hi p1 p2 p3 p4)), .second, .val (.long (lw_off p1 p2 p3 p4)), .second, .val (.int (lw_m p1 p2 p3 p4)), .val (.long (lw_xl p1 p2 p3 p4)), .second, .val (.int (lw_half p1 p2 p3 p4)), .val (.double (lw_x p1 p2 p3 p4)), .second, .unset, .unset, .unset] [(.double (0 : UInt64)), (.double (0 : UInt64)), (.double (0 : UInt64)), (.ref ad8), (.ref ad8)])) rfl (by rw [hml]; rfl) (Steps.refl _) (a := ad8) (argsL := [(.double (0 : UInt64)), (.double (0 : UInt64)), (.double (0 : UInt64))]) (rest := [(.ref ad8)]) (lenOf pd_0 rfl) rfl (by show 2 * 0 + _ ≤ _; exact Nat.le_of_eq rfl) (hb hby at_92) (fun _ _ => ⟨rfl, e8, (by decide : 1 + 0 ≤ _), (by decide : 3 + 0 ≤ _)⟩)
  dsimp only [Pt.U, Pt.locs, Pt.cells, Pt.slots] at X9 l9 y9 z9 st9 hQ9
  subst l9 y9 z9
  obtain ⟨rfl, N9, K9, p9_0, p9_1, p9_2, p9_3⟩ := hQ9
  have Nn9 := Fr.app N0 N9
  have Z9 : n0 ≤ T9.heap.size := Nat.le_trans Z8 K9.1
  obtain ⟨T10, h10, X10, e10, E10, A10, D10, -, st10⟩ := newO X9 hx hZ hown (hw _ (List.mem_of_getElem? (i := 15) rfl)) (hw _ (List.mem_of_getElem? (i := 16) rfl)) (hw _ (List.mem_of_getElem? (i := 17) rfl)) rfl (g := (mkF m 97 #[.val (.int p1), .val (.int p2), .val (.int p3), .val (.int p4), .val (.long (lw_lo p1 p2 p3 p4)), .second, .val (.long (lw_hi p1 p2 p3 p4)), .second, .val (.long (lw_off p1 p2 p3 p4)), .second, .val (.int (lw_m p1 p2 p3 p4)), .val (.long (lw_xl p1 p2 p3 p4)), .second, .val (.int (lw_half p1 p2 p3 p4)), .val (.double (lw_x p1 p2 p3 p4)), .second, .val (.ref ad8), .unset, .unset] [])) rfl (hb hby at_97) (by decide) (by decide)
  obtain ⟨ad10, g10⟩ : ∃ z, z = (T9.heap).size := ⟨_, rfl⟩
  rw [← g10] at A10 D10 st10
  have ne_ad8_ad10 : ad8 ≠ ad10 := Nat.ne_of_lt (Nat.lt_of_lt_of_le (p9_0.lt) (Nat.le_of_eq g10.symm))
  have q11 : Exa Z h10 ad8 "com/example/quadratur/quadratur/method/GaussKronrod$FarEnd" := (p9_0.ext E10)
  have q12 : Fld Z h10 ad8 "com/example/quadratur/quadratur/method/GaussKronrod$FarEnd" "slope" "D" (.double (0 : UInt64)) := (p9_1.ext E10)
  have q13 : Fld Z h10 ad8 "com/example/quadratur/quadratur/method/GaussKronrod$FarEnd" "slopeAt" "D" (.double (0 : UInt64)) := (p9_2.ext E10)
  have q14 : Fld Z h10 ad8 "com/example/quadratur/quadratur/method/GaussKronrod$FarEnd" "curvature" "D" (.double (0 : UInt64)) := (p9_3.ext E10)
  have F10_0 : Fld Z h10 ad10 "com/example/quadratur/quadratur/method/GaussKronrod$Piece" "lo" "D" (.double (0 : UInt64)) := (D10 (Or.inr (hw _ (List.mem_of_getElem? (i := 23) rfl))) (ty := .double) (by decide))
  have F10_1 : Fld Z h10 ad10 "com/example/quadratur/quadratur/method/GaussKronrod$Piece" "hi" "D" (.double (0 : UInt64)) := (D10 (Or.inr (hw _ (List.mem_of_getElem? (i := 25) rfl))) (ty := .double) (by decide))
  have F10_2 : Fld Z h10 ad10 "com/example/quadratur/quadratur/method/GaussKronrod$Piece" "value" "D" (.double (0 : UInt64)) := (D10 (Or.inr (hw _ (List.mem_of_getElem? (i := 27) rfl))) (ty := .double) (by decide))
  have F10_3 : Fld Z h10 ad10 "com/example/quadratur/quadratur/method/GaussKronrod$Piece" "magnitude" "D" (.double (0 : UInt64)) := (D10 (Or.inr (hw _ (List.mem_of_getElem? (i := 29) rfl))) (ty := .double) (by decide))
  have F10_4 : Fld Z h10 ad10 "com/example/quadratur/quadratur/method/GaussKronrod$Piece" "trimmed" "D" (.double (0 : UInt64)) := (D10 (Or.inr (hw _ (List.mem_of_getElem? (i := 31) rfl))) (ty := .double) (by decide))
  have F10_5 : Fld Z h10 ad10 "com/example/quadratur/quadratur/method/GaussKronrod$Piece" "relief" "D" (.double (0 : UInt64)) := (D10 (Or.inr (hw _ (List.mem_of_getElem? (i := 33) rfl))) (ty := .double) (by decide))
  have F10_6 : Fld Z h10 ad10 "com/example/quadratur/quadratur/method/GaussKronrod$Piece" "trimmedRelief" "D" (.double (0 : UInt64)) := (D10 (Or.inr (hw _ (List.mem_of_getElem? (i := 35) rfl))) (ty := .double) (by decide))
  have F10_7 : Fld Z h10 ad10 "com/example/quadratur/quadratur/method/GaussKronrod$Piece" "parabolicRelief" "D" (.double (0 : UInt64)) := (D10 (Or.inr (hw _ (List.mem_of_getElem? (i := 37) rfl))) (ty := .double) (by decide))
  have F10_8 : Fld Z h10 ad10 "com/example/quadratur/quadratur/method/GaussKronrod$Piece" "fittedRelief" "D" (.double (0 : UInt64)) := (D10 (Or.inr (hw _ (List.mem_of_getElem? (i := 39) rfl))) (ty := .double) (by decide))
  have F10_9 : Fld Z h10 ad10 "com/example/quadratur/quadratur/method/GaussKronrod$Piece" "base" "D" (.double (0 : UInt64)) := (D10 (Or.inr (hw _ (List.mem_of_getElem? (i := 41) rfl))) (ty := .double) (by decide))
  have F10_10 : Fld Z h10 ad10 "com/example/quadratur/quadratur/method/GaussKronrod$Piece" "farEnd" "Lcom/example/quadratur/quadratur/method/GaussKronrod$FarEnd;" .null := (D10 (Or.inr (hw _ (List.mem_of_getElem? (i := 43) rfl))) (ty := (.object "com/example/quadratur/quadratur/method/GaussKronrod$FarEnd")) (by decide))
  have F10_11 : Fld Z h10 ad10 "com/example/quadratur/quadratur/method/GaussKronrod$Piece" "towardsLo" "D" (.double (0 : UInt64)) := (D10 (Or.inr (hw _ (List.mem_of_getElem? (i := 45) rfl))) (ty := .double) (by decide))
  have F10_12 : Fld Z h10 ad10 "com/example/quadratur/quadratur/method/GaussKronrod$Piece" "towardsHi" "D" (.double (0 : UInt64)) := (D10 (Or.inr (hw _ (List.mem_of_getElem? (i := 47) rfl))) (ty := .double) (by decide))
  have F10_13 : Fld Z h10 ad10 "com/example/quadratur/quadratur/method/GaussKronrod$Piece" "roughnessTowardsLo" "D" (.double (0 : UInt64)) := (D10 (Or.inr (hw _ (List.mem_of_getElem? (i := 49) rfl))) (ty := .double) (by decide))
  have F10_14 : Fld Z h10 ad10 "com/example/quadratur/quadratur/method/GaussKronrod$Piece" "roughnessTowardsHi" "D" (.double (0 : UInt64)) := (D10 (Or.inr (hw _ (List.mem_of_getElem? (i := 51) rfl))) (ty := .double) (by decide))
  have F10_15 : Fld Z h10 ad10 "com/example/quadratur/quadratur/method/GaussKronrod$Piece" "peak" "D" (.double (0 : UInt64)) := (D10 (Or.inr (hw _ (List.mem_of_getElem? (i := 53) rfl))) (ty := .double) (by decide))
  have F10_16 : Fld Z h10 ad10 "com/example/quadratur/quadratur/method/GaussKronrod$Piece" "peakAt" "D" (.double (0 : UInt64)) := (D10 (Or.inr (hw _ (List.mem_of_getElem? (i := 55) rfl))) (ty := .double) (by decide))
  have F10_17 : Fld Z h10 ad10 "com/example/quadratur/quadratur/method/GaussKronrod$Piece" "roughness" "D" (.double (0 : UInt64)) := (D10 (Or.inr (hw _ (List.mem_of_getElem? (i := 57) rfl))) (ty := .double) (by decide))
  have F10_18 : Fld Z h10 ad10 "com/example/quadratur/quadratur/method/GaussKronrod$Piece" "spread" "D" (.double (0 : UInt64)) := (D10 (Or.inr (hw _ (List.mem_of_getElem? (i := 59) rfl))) (ty := .double) (by decide))
  have F10_19 : Fld Z h10 ad10 "com/example/quadratur/quadratur/method/GaussKronrod$Piece" "residual" "D" (.double (0 : UInt64)) := (D10 (Or.inr (hw _ (List.mem_of_getElem? (i := 61) rfl))) (ty := .double) (by decide))
  have F10_20 : Fld Z h10 ad10 "com/example/quadratur/quadratur/method/GaussKronrod$Piece" "unresolved" "D" (.double (0 : UInt64)) := (D10 (Or.inr (hw _ (List.mem_of_getElem? (i := 63) rfl))) (ty := .double) (by decide))
  have F10_21 : Fld Z h10 ad10 "com/example/quadratur/quadratur/method/GaussKronrod$Piece" "hidden" "D" (.double (0 : UInt64)) := (D10 (Or.inr (hw _ (List.mem_of_getElem? (i := 65) rfl))) (ty := .double) (by decide))
  have F10_22 : Fld Z h10 ad10 "com/example/quadratur/quadratur/method/GaussKronrod$Piece" "departingEnd" "D" (.double (0 : UInt64)) := (D10 (Or.inr (hw _ (List.mem_of_getElem? (i := 67) rfl))) (ty := .double) (by decide))
  have F10_23 : Fld Z h10 ad10 "com/example/quadratur/quadratur/method/GaussKronrod$Piece" "departingFromLo" "I" (.int (0 : Int32)) := (D10 (Or.inr (hw _ (List.mem_of_getElem? (i := 69) rfl))) (ty := .int) (by decide))
  have F10_24 : Fld Z h10 ad10 "com/example/quadratur/quadratur/method/GaussKronrod$Piece" "departingFromHi" "I" (.int (0 : Int32)) := (D10 (Or.inr (hw _ (List.mem_of_getElem? (i := 71) rfl))) (ty := .int) (by decide))
  have F10_25 : Fld Z h10 ad10 "com/example/quadratur/quadratur/method/GaussKronrod$Piece" "error" "D" (.double (0 : UInt64)) := (D10 (Or.inr (hw _ (List.mem_of_getElem? (i := 73) rfl))) (ty := .double) (by decide))
  have F10_26 : Fld Z h10 ad10 "com/example/quadratur/quadratur/method/GaussKronrod$Piece" "floor" "D" (.double (0 : UInt64)) := (D10 (Or.inr (hw _ (List.mem_of_getElem? (i := 75) rfl))) (ty := .double) (by decide))
  have F10_27 : Fld Z h10 ad10 "com/example/quadratur/quadratur/method/GaussKronrod$Piece" "placement" "D" (.double (0 : UInt64)) := (D10 (Or.inr (hw _ (List.mem_of_getElem? (i := 77) rfl))) (ty := .double) (by decide))
  have Z10 : n0 ≤ h10.size := Nat.le_trans Z9 E10.1
  have gn10 : n0 ≤ ad10 := Nat.le_trans Z9 (Nat.le_of_eq g10.symm)
  obtain ⟨_, _, ⟨T15, L15, k15, n15⟩, -, X15, ⟨Lc15, hQ15, l15, y15, z15⟩, st15⟩ := X10.specialBack hx (y := (⟨"com/example/quadratur/quadratur/method/GaussKronrod$Piece", "<init>", "(DDDDDDDDDDLcom/example/quadratur/quadratur/method/GaussKronrod$FarEnd;DDDDDDDDDDDDIIDDD)V"⟩ : MethodName)) rfl hown (mvT hZ (hw _ (List.mem_of_getElem? (i := 18) rfl))) (mvT hZ (hw _ (List.mem_of_getElem? (i := 19) rfl))) (mvT hZ (hw _ (List.mem_of_getElem? (i := 20) rfl))) (by decide) (backOf (W := 1) (rm_pin l Z a0 hw [] ad10 (FP.l2d (lw_lo p1 p2 p3 p4)) (FP.l2d (lw_hi p1 p2 p3 p4)) (0 : UInt64) (0 : UInt64) (0 : UInt64) (0 : UInt64) (0 : UInt64) (0 : UInt64) (0 : UInt64) (0 : UInt64) ad8 (0 : UInt64) (0 : UInt64) (0 : UInt64) (0 : UInt64) (0 : UInt64) (0 : UInt64) (0 : UInt64) (0 : UInt64) (0 : UInt64) (0 : UInt64) (0 : UInt64) (0 : UInt64) (0 : Int32) (0 : Int32) (0 : UInt64) (0 : UInt64) (0 : UInt64)  (h10) n0 Z10 F10_0 A10 gn10 ) hZ (hw _ (List.mem_of_getElem? (i := 20) rfl)) (hw _ (List.mem_of_getElem? (i := 17) rfl)) (by decide) (by decide)) (g := (mkF m 134 #[.val (.int p1), .val (.int p2), .val (.int p3), .val (.int p4), .val (.long (lw_lo p1 p2 p3 p4)), .second, .val (.long (lw_hi p1 p2 p3 p4)), .second, .val (.long (lw_off p1 p2 p3 p4)), .second, .val (.int (lw_m p1 p2 p3 p4)), .val (.long (lw_xl p1 p2 p3 p4)), .second, .val (.int (lw_half p1 p2 p3 p4)), .val (.double (lw_x p1 p2 p3 p4)), .second, .val (.ref ad8), .unset, .unset] [(.double (0 : UInt64)), (.double (0 : UInt64)), (.double (0 : UInt64)), (.int (0 : Int32)), (.int (0 : Int32)), (.double (0 : UInt64)), (.double (0 : UInt64)), (.double (0 : UInt64)), (.double (0 : UInt64)), (.double (0 : UInt64)), (.double (0 : UInt64)), (.double (0 : UInt64)), (.double (0 : UInt64)), (.double (0 : UInt64)), (.double (0 : UInt64)), (.double (0 : UInt64)), (.double (0 : UInt64)), (.ref ad8), (.double (0 : UInt64)), (.double (0 : UInt64)), (.double (0 : UInt64)), (.double (0 : UInt64)), (.double (0 : UInt64)), (.double (0 : UInt64)), (.double (0 : UInt64)), (.double (0 : UInt64)), (.double (FP.l2d (lw_hi p1 p2 p3 p4))), (.double (FP.l2d (lw_lo p1 p2 p3 p4))), (.ref ad10), (.ref ad10)])) rfl (by rw [hml]; rfl) (Steps.refl _) (a := ad10) (argsL := [(.double (FP.l2d (lw_lo p1 p2 p3 p4))), (.double (FP.l2d (lw_hi p1 p2 p3 p4))), (.double (0 : UInt64)), (.double (0 : UInt64)), (.double (0 : UInt64)), (.double (0 : UInt64)), (.double (0 : UInt64)), (.double (0 : UInt64)), (.double (0 : UInt64)), (.double (0 : UInt64)), (.ref ad8), (.double (0 : UInt64)), (.double (0 : UInt64)), (.double (0 : UInt64)), (.double (0 : UInt64)), (.double (0 : UInt64)), (.double (0 : UInt64)), (.double (0 : UInt64)), (.double (0 : UInt64)), (.double (0 : UInt64)), (.double (0 : UInt64)), (.double (0 : UInt64)), (.double (0 : UInt64)), (.int (0 : Int32)), (.int (0 : Int32)), (.double (0 : UInt64)), (.double (0 : UInt64)), (.double (0 : UInt64))]) (rest := [(.ref ad10)]) (lenOf pd_1 rfl) rfl (by show 2 * 0 + _ ≤ _; exact Nat.le_of_eq rfl) (hb hby at_134) (fun _ _ => ⟨rfl, e10, (by decide : 2 + 0 ≤ _), (by decide : 31 + 0 ≤ _)⟩)
  dsimp only [Pt.U, Pt.locs, Pt.cells, Pt.slots] at X15 l15 y15 z15 st15 hQ15
  subst l15 y15 z15
  obtain ⟨rfl, N15, K15, p15_0, p15_1, p15_2⟩ := hQ15
  have Nn15 := Fr.app Nn9 N15
  have q16 : Exa Z T15.heap ad8 "com/example/quadratur/quadratur/method/GaussKronrod$FarEnd" := (q11.keep K15)
  have q17 : Fld Z T15.heap ad8 "com/example/quadratur/quadratur/method/GaussKronrod$FarEnd" "slope" "D" (.double (0 : UInt64)) := (q12.keep K15 (fun q => ne_ad8_ad10 (List.mem_singleton.mp q)))
  have q18 : Fld Z T15.heap ad8 "com/example/quadratur/quadratur/method/GaussKronrod$FarEnd" "slopeAt" "D" (.double (0 : UInt64)) := (q13.keep K15 (fun q => ne_ad8_ad10 (List.mem_singleton.mp q)))
  have q19 : Fld Z T15.heap ad8 "com/example/quadratur/quadratur/method/GaussKronrod$FarEnd" "curvature" "D" (.double (0 : UInt64)) := (q14.keep K15 (fun q => ne_ad8_ad10 (List.mem_singleton.mp q)))
  have Z15 : n0 ≤ T15.heap.size := Nat.le_trans Z10 K15.1
  obtain ⟨cq26, kq26, qa26, qb26, qc26⟩ := isOf hZ rfl p15_0
  obtain ⟨_, _, ⟨T26, L26, k26, n26⟩, -, X26, ⟨Lc26, hQ26, l26, y26, z26⟩, st26⟩ := X15.virtualBack hx (y := (⟨"com/example/quadratur/quadratur/method/GaussKronrod$Piece", "holds", "(D)Z"⟩ : MethodName)) (z := (⟨"com/example/quadratur/quadratur/method/GaussKronrod$Piece", "holds", "(D)Z"⟩ : MethodName)) hown (mvT hZ (hw _ (List.mem_of_getElem? (i := 78) rfl))) (mvT hZ (hw _ (List.mem_of_getElem? (i := 79) rfl))) (notFace_of_selects (args := #[]) (mvT hZ (hw _ (List.mem_of_getElem? (i := 81) rfl)))) (mvT hZ (hw _ (List.mem_of_getElem? (i := 81) rfl))) (mvT hZ (hw _ (List.mem_of_getElem? (i := 80) rfl))) (by decide) (backOf (W := 0) (rm_ho l Z a0 hw [] ad10 (lw_x p1 p2 p3 p4) (FP.l2d (lw_lo p1 p2 p3 p4)) (FP.l2d (lw_hi p1 p2 p3 p4)) (T15.heap) n0 Z15 p15_1 p15_2 ) hZ (hw _ (List.mem_of_getElem? (i := 82) rfl)) (hw _ (List.mem_of_getElem? (i := 17) rfl)) (by decide) (by decide)) qa26 qc26 (g := (mkF m 197 #[.val (.int p1), .val (.int p2), .val (.int p3), .val (.int p4), .val (.long (lw_lo p1 p2 p3 p4)), .second, .val (.long (lw_hi p1 p2 p3 p4)), .second, .val (.long (lw_off p1 p2 p3 p4)), .second, .val (.int (lw_m p1 p2 p3 p4)), .val (.long (lw_xl p1 p2 p3 p4)), .second, .val (.int (lw_half p1 p2 p3 p4)), .val (.double (lw_x p1 p2 p3 p4)), .second, .val (.ref ad8), .val (.ref ad10), .val (.int (lw_exp p1 p2 p3 p4))] [(.double (lw_x p1 p2 p3 p4)), (.ref ad10)])) rfl (by rw [hml]; rfl) (Steps.refl _) (argsL := [(.double (lw_x p1 p2 p3 p4))]) (rest := []) (lenOf pd_2 rfl) rfl (by show 2 * 0 + _ ≤ _; exact Nat.le_of_eq rfl) (hb hby at_197) (fun _ _ => ⟨rfl, rfl, (by decide : 2 + 0 ≤ _), (by decide : 31 + 0 ≤ _)⟩)
  dsimp only [Pt.U, Pt.locs, Pt.cells, Pt.slots] at X26 l26 y26 z26 st26 hQ26
  subst l26 y26 z26
  obtain ⟨rfl, N26, e26⟩ := hQ26
  have Nn26 := Fr.app Nn15 N26
  obtain ⟨fs, hr, hrun, hended, hW, hsame⟩ := X26.leave (v := some (.int (1 : Int32))) (fun h => by rw [Bd.returns] at h; cases h)
  refine ⟨_, _, pre0 _ ?_, hrun, hended, _, _, rfl, ?_, ⟨_, rfl⟩, hW, hsame.mono (Nat.le_of_ble_eq_true rfl) (Nat.le_of_ble_eq_true rfl)⟩
  · show Steps p.tables e below (s₁.setTop (mkF m 0 #[.val (.int p1), .val (.int p2), .val (.int p3), .val (.int p4), .unset, .unset, .unset, .unset, .unset, .unset, .unset, .unset, .unset, .unset, .unset, .unset, .unset, .unset, .unset] [])) _
    refine XS.iloadN X0.here hx rfl (hb hby at_0) rfl ?_
    show Steps p.tables e below (s₁.setTop (mkF m 1 #[.val (.int p1), .val (.int p2), .val (.int p3), .val (.int p4), .unset, .unset, .unset, .unset, .unset, .unset, .unset, .unset, .unset, .unset, .unset, .unset, .unset, .unset, .unset] [(.int p1)])) _
    refine XT.i2l X0.here hx rfl (hb hby at_1) rfl ?_
    show Steps p.tables e below (s₁.setTop (mkF m 2 #[.val (.int p1), .val (.int p2), .val (.int p3), .val (.int p4), .unset, .unset, .unset, .unset, .unset, .unset, .unset, .unset, .unset, .unset, .unset, .unset, .unset, .unset, .unset] [(.long (Int32.toInt64 p1))])) _
    refine XT.lstore X0.here hx rfl (hb hby at_2) rfl (l' := #[.val (.int p1), .val (.int p2), .val (.int p3), .val (.int p4), .val (.long (lw_lo p1 p2 p3 p4)), .second, .unset, .unset, .unset, .unset, .unset, .unset, .unset, .unset, .unset, .unset, .unset, .unset, .unset]) rfl ?_
    show Steps p.tables e below (s₁.setTop (mkF m 4 #[.val (.int p1), .val (.int p2), .val (.int p3), .val (.int p4), .val (.long (lw_lo p1 p2 p3 p4)), .second, .unset, .unset, .unset, .unset, .unset, .unset, .unset, .unset, .unset, .unset, .unset, .unset, .unset] [])) _
    refine XS.iloadN X0.here hx rfl (hb hby at_4) rfl ?_
    show Steps p.tables e below (s₁.setTop (mkF m 5 #[.val (.int p1), .val (.int p2), .val (.int p3), .val (.int p4), .val (.long (lw_lo p1 p2 p3 p4)), .second, .unset, .unset, .unset, .unset, .unset, .unset, .unset, .unset, .unset, .unset, .unset, .unset, .unset] [(.int p2)])) _
    refine XT.i2l X0.here hx rfl (hb hby at_5) rfl ?_
    show Steps p.tables e below (s₁.setTop (mkF m 6 #[.val (.int p1), .val (.int p2), .val (.int p3), .val (.int p4), .val (.long (lw_lo p1 p2 p3 p4)), .second, .unset, .unset, .unset, .unset, .unset, .unset, .unset, .unset, .unset, .unset, .unset, .unset, .unset] [(.long (Int32.toInt64 p2))])) _
    refine XT.lstore X0.here hx rfl (hb hby at_6) rfl (l' := #[.val (.int p1), .val (.int p2), .val (.int p3), .val (.int p4), .val (.long (lw_lo p1 p2 p3 p4)), .second, .val (.long (lw_hi p1 p2 p3 p4)), .second, .unset, .unset, .unset, .unset, .unset, .unset, .unset, .unset, .unset, .unset, .unset]) rfl ?_
    show Steps p.tables e below (s₁.setTop (mkF m 8 #[.val (.int p1), .val (.int p2), .val (.int p3), .val (.int p4), .val (.long (lw_lo p1 p2 p3 p4)), .second, .val (.long (lw_hi p1 p2 p3 p4)), .second, .unset, .unset, .unset, .unset, .unset, .unset, .unset, .unset, .unset, .unset, .unset] [])) _
    refine XS.iloadN X0.here hx rfl (hb hby at_8) rfl ?_
    show Steps p.tables e below (s₁.setTop (mkF m 9 #[.val (.int p1), .val (.int p2), .val (.int p3), .val (.int p4), .val (.long (lw_lo p1 p2 p3 p4)), .second, .val (.long (lw_hi p1 p2 p3 p4)), .second, .unset, .unset, .unset, .unset, .unset, .unset, .unset, .unset, .unset, .unset, .unset] [(.int p3)])) _
    refine XS.iconst X0.here hx rfl (hb hby at_9) ?_
    show Steps p.tables e below (s₁.setTop (mkF m 10 #[.val (.int p1), .val (.int p2), .val (.int p3), .val (.int p4), .val (.long (lw_lo p1 p2 p3 p4)), .second, .val (.long (lw_hi p1 p2 p3 p4)), .second, .unset, .unset, .unset, .unset, .unset, .unset, .unset, .unset, .unset, .unset, .unset] [(.int (3 : Int32)), (.int p3)])) _
    refine XS.iand X0.here hx rfl (hb hby at_10) rfl ?_
    show Steps p.tables e below (s₁.setTop (mkF m 11 #[.val (.int p1), .val (.int p2), .val (.int p3), .val (.int p4), .val (.long (lw_lo p1 p2 p3 p4)), .second, .val (.long (lw_hi p1 p2 p3 p4)), .second, .unset, .unset, .unset, .unset, .unset, .unset, .unset, .unset, .unset, .unset, .unset] [(.int (p3 &&& (3 : Int32)))])) _
    refine XT.i2l X0.here hx rfl (hb hby at_11) rfl ?_
    show Steps p.tables e below (s₁.setTop (mkF m 12 #[.val (.int p1), .val (.int p2), .val (.int p3), .val (.int p4), .val (.long (lw_lo p1 p2 p3 p4)), .second, .val (.long (lw_hi p1 p2 p3 p4)), .second, .unset, .unset, .unset, .unset, .unset, .unset, .unset, .unset, .unset, .unset, .unset] [(.long (Int32.toInt64 (p3 &&& (3 : Int32))))])) _
    refine XT.lconst X0.here hx rfl (hb hby at_12) ?_
    show Steps p.tables e below (s₁.setTop (mkF m 13 #[.val (.int p1), .val (.int p2), .val (.int p3), .val (.int p4), .val (.long (lw_lo p1 p2 p3 p4)), .second, .val (.long (lw_hi p1 p2 p3 p4)), .second, .unset, .unset, .unset, .unset, .unset, .unset, .unset, .unset, .unset, .unset, .unset] [(.long (1 : Int64)), (.long (Int32.toInt64 (p3 &&& (3 : Int32))))])) _
    refine XT.lsub X0.here hx rfl (hb hby at_13) rfl ?_
    show Steps p.tables e below (s₁.setTop (mkF m 14 #[.val (.int p1), .val (.int p2), .val (.int p3), .val (.int p4), .val (.long (lw_lo p1 p2 p3 p4)), .second, .val (.long (lw_hi p1 p2 p3 p4)), .second, .unset, .unset, .unset, .unset, .unset, .unset, .unset, .unset, .unset, .unset, .unset] [(.long ((Int32.toInt64 (p3 &&& (3 : Int32))) - (1 : Int64)))])) _
    refine XT.lstore X0.here hx rfl (hb hby at_14) rfl (l' := #[.val (.int p1), .val (.int p2), .val (.int p3), .val (.int p4), .val (.long (lw_lo p1 p2 p3 p4)), .second, .val (.long (lw_hi p1 p2 p3 p4)), .second, .val (.long (lw_off p1 p2 p3 p4)), .second, .unset, .unset, .unset, .unset, .unset, .unset, .unset, .unset, .unset]) rfl ?_
    show Steps p.tables e below (s₁.setTop (mkF m 16 #[.val (.int p1), .val (.int p2), .val (.int p3), .val (.int p4), .val (.long (lw_lo p1 p2 p3 p4)), .second, .val (.long (lw_hi p1 p2 p3 p4)), .second, .val (.long (lw_off p1 p2 p3 p4)), .second, .unset, .unset, .unset, .unset, .unset, .unset, .unset, .unset, .unset] [])) _
    refine XS.iloadN X0.here hx rfl (hb hby at_16) rfl ?_
    show Steps p.tables e below (s₁.setTop (mkF m 17 #[.val (.int p1), .val (.int p2), .val (.int p3), .val (.int p4), .val (.long (lw_lo p1 p2 p3 p4)), .second, .val (.long (lw_hi p1 p2 p3 p4)), .second, .val (.long (lw_off p1 p2 p3 p4)), .second, .unset, .unset, .unset, .unset, .unset, .unset, .unset, .unset, .unset] [(.int p4)])) _
    refine XS.iconst X0.here hx rfl (hb hby at_17) ?_
    show Steps p.tables e below (s₁.setTop (mkF m 18 #[.val (.int p1), .val (.int p2), .val (.int p3), .val (.int p4), .val (.long (lw_lo p1 p2 p3 p4)), .second, .val (.long (lw_hi p1 p2 p3 p4)), .second, .val (.long (lw_off p1 p2 p3 p4)), .second, .unset, .unset, .unset, .unset, .unset, .unset, .unset, .unset, .unset] [(.int (3 : Int32)), (.int p4)])) _
    refine XS.iand X0.here hx rfl (hb hby at_18) rfl ?_
    show Steps p.tables e below (s₁.setTop (mkF m 19 #[.val (.int p1), .val (.int p2), .val (.int p3), .val (.int p4), .val (.long (lw_lo p1 p2 p3 p4)), .second, .val (.long (lw_hi p1 p2 p3 p4)), .second, .val (.long (lw_off p1 p2 p3 p4)), .second, .unset, .unset, .unset, .unset, .unset, .unset, .unset, .unset, .unset] [(.int (p4 &&& (3 : Int32)))])) _
    refine XS.istore X0.here hx rfl (hb hby at_19) rfl (l' := #[.val (.int p1), .val (.int p2), .val (.int p3), .val (.int p4), .val (.long (lw_lo p1 p2 p3 p4)), .second, .val (.long (lw_hi p1 p2 p3 p4)), .second, .val (.long (lw_off p1 p2 p3 p4)), .second, .val (.int (lw_m p1 p2 p3 p4)), .unset, .unset, .unset, .unset, .unset, .unset, .unset, .unset]) rfl ?_
    show Steps p.tables e below (s₁.setTop (mkF m 21 #[.val (.int p1), .val (.int p2), .val (.int p3), .val (.int p4), .val (.long (lw_lo p1 p2 p3 p4)), .second, .val (.long (lw_hi p1 p2 p3 p4)), .second, .val (.long (lw_off p1 p2 p3 p4)), .second, .val (.int (lw_m p1 p2 p3 p4)), .unset, .unset, .unset, .unset, .unset, .unset, .unset, .unset] [])) _
    refine XS.iloadN X0.here hx rfl (hb hby at_21) rfl ?_
    show Steps p.tables e below (s₁.setTop (mkF m 22 #[.val (.int p1), .val (.int p2), .val (.int p3), .val (.int p4), .val (.long (lw_lo p1 p2 p3 p4)), .second, .val (.long (lw_hi p1 p2 p3 p4)), .second, .val (.long (lw_off p1 p2 p3 p4)), .second, .val (.int (lw_m p1 p2 p3 p4)), .unset, .unset, .unset, .unset, .unset, .unset, .unset, .unset] [(.int p3)])) _
    refine XT.i2l X0.here hx rfl (hb hby at_22) rfl ?_
    show Steps p.tables e below (s₁.setTop (mkF m 23 #[.val (.int p1), .val (.int p2), .val (.int p3), .val (.int p4), .val (.long (lw_lo p1 p2 p3 p4)), .second, .val (.long (lw_hi p1 p2 p3 p4)), .second, .val (.long (lw_off p1 p2 p3 p4)), .second, .val (.int (lw_m p1 p2 p3 p4)), .unset, .unset, .unset, .unset, .unset, .unset, .unset, .unset] [(.long (Int32.toInt64 p3))])) _
    refine XT.lstore X0.here hx rfl (hb hby at_23) rfl (l' := #[.val (.int p1), .val (.int p2), .val (.int p3), .val (.int p4), .val (.long (lw_lo p1 p2 p3 p4)), .second, .val (.long (lw_hi p1 p2 p3 p4)), .second, .val (.long (lw_off p1 p2 p3 p4)), .second, .val (.int (lw_m p1 p2 p3 p4)), .val (.long (lw_x0 p1 p2 p3 p4)), .second, .unset, .unset, .unset, .unset, .unset, .unset]) rfl ?_
    show Steps p.tables e below (s₁.setTop (mkF m 25 #[.val (.int p1), .val (.int p2), .val (.int p3), .val (.int p4), .val (.long (lw_lo p1 p2 p3 p4)), .second, .val (.long (lw_hi p1 p2 p3 p4)), .second, .val (.long (lw_off p1 p2 p3 p4)), .second, .val (.int (lw_m p1 p2 p3 p4)), .val (.long (lw_x0 p1 p2 p3 p4)), .second, .unset, .unset, .unset, .unset, .unset, .unset] [])) _
    refine XS.iload X0.here hx rfl (hb hby at_25) rfl ?_
    show Steps p.tables e below (s₁.setTop (mkF m 27 #[.val (.int p1), .val (.int p2), .val (.int p3), .val (.int p4), .val (.long (lw_lo p1 p2 p3 p4)), .second, .val (.long (lw_hi p1 p2 p3 p4)), .second, .val (.long (lw_off p1 p2 p3 p4)), .second, .val (.int (lw_m p1 p2 p3 p4)), .val (.long (lw_x0 p1 p2 p3 p4)), .second, .unset, .unset, .unset, .unset, .unset, .unset] [(.int (lw_m p1 p2 p3 p4))])) _
    refine XS.iconst X0.here hx rfl (hb hby at_27) ?_
    show Steps p.tables e below (s₁.setTop (mkF m 28 #[.val (.int p1), .val (.int p2), .val (.int p3), .val (.int p4), .val (.long (lw_lo p1 p2 p3 p4)), .second, .val (.long (lw_hi p1 p2 p3 p4)), .second, .val (.long (lw_off p1 p2 p3 p4)), .second, .val (.int (lw_m p1 p2 p3 p4)), .val (.long (lw_x0 p1 p2 p3 p4)), .second, .unset, .unset, .unset, .unset, .unset, .unset] [(.int (1 : Int32)), (.int (lw_m p1 p2 p3 p4))])) _
    have sg1 : ∀ t, Steps p.tables e below (s₁.setTop (mkF m 54 #[.val (.int p1), .val (.int p2), .val (.int p3), .val (.int p4), .val (.long (lw_lo p1 p2 p3 p4)), .second, .val (.long (lw_hi p1 p2 p3 p4)), .second, .val (.long (lw_off p1 p2 p3 p4)), .second, .val (.int (lw_m p1 p2 p3 p4)), .val (.long (lw_xl p1 p2 p3 p4)), .second, .unset, .unset, .unset, .unset, .unset, .unset] [])) t → Steps p.tables e below (s₁.setTop (mkF m 28 #[.val (.int p1), .val (.int p2), .val (.int p3), .val (.int p4), .val (.long (lw_lo p1 p2 p3 p4)), .second, .val (.long (lw_hi p1 p2 p3 p4)), .second, .val (.long (lw_off p1 p2 p3 p4)), .second, .val (.int (lw_m p1 p2 p3 p4)), .val (.long (lw_x0 p1 p2 p3 p4)), .second, .unset, .unset, .unset, .unset, .unset, .unset] [(.int (1 : Int32)), (.int (lw_m p1 p2 p3 p4))])) t := by
      intro t k
      by_cases c2 : (if_icmp.holds .ne (lw_m p1 p2 p3 p4) (1 : Int32)) = true
      · refine XS.icmpYes X0.here hx rfl (pc0 := 28) (pc' := 41) rfl (hb hby at_28) rfl c2 (by decide) (by decide) ?_
        show Steps p.tables e below (s₁.setTop (mkF m 41 #[.val (.int p1), .val (.int p2), .val (.int p3), .val (.int p4), .val (.long (lw_lo p1 p2 p3 p4)), .second, .val (.long (lw_hi p1 p2 p3 p4)), .second, .val (.long (lw_off p1 p2 p3 p4)), .second, .val (.int (lw_m p1 p2 p3 p4)), .val (.long (lw_x0 p1 p2 p3 p4)), .second, .unset, .unset, .unset, .unset, .unset, .unset] [])) t
        refine XS.iload X0.here hx rfl (hb hby at_41) rfl ?_
        show Steps p.tables e below (s₁.setTop (mkF m 43 #[.val (.int p1), .val (.int p2), .val (.int p3), .val (.int p4), .val (.long (lw_lo p1 p2 p3 p4)), .second, .val (.long (lw_hi p1 p2 p3 p4)), .second, .val (.long (lw_off p1 p2 p3 p4)), .second, .val (.int (lw_m p1 p2 p3 p4)), .val (.long (lw_x0 p1 p2 p3 p4)), .second, .unset, .unset, .unset, .unset, .unset, .unset] [(.int (lw_m p1 p2 p3 p4))])) t
        refine XS.iconst X0.here hx rfl (hb hby at_43) ?_
        show Steps p.tables e below (s₁.setTop (mkF m 44 #[.val (.int p1), .val (.int p2), .val (.int p3), .val (.int p4), .val (.long (lw_lo p1 p2 p3 p4)), .second, .val (.long (lw_hi p1 p2 p3 p4)), .second, .val (.long (lw_off p1 p2 p3 p4)), .second, .val (.int (lw_m p1 p2 p3 p4)), .val (.long (lw_x0 p1 p2 p3 p4)), .second, .unset, .unset, .unset, .unset, .unset, .unset] [(.int (2 : Int32)), (.int (lw_m p1 p2 p3 p4))])) t
        by_cases c3 : (if_icmp.holds .ne (lw_m p1 p2 p3 p4) (2 : Int32)) = true
        · refine XS.icmpYes X0.here hx rfl (pc0 := 44) (pc' := 54) rfl (hb hby at_44) rfl c3 (by decide) (by decide) ?_
          show Steps p.tables e below (s₁.setTop (mkF m 54 #[.val (.int p1), .val (.int p2), .val (.int p3), .val (.int p4), .val (.long (lw_lo p1 p2 p3 p4)), .second, .val (.long (lw_hi p1 p2 p3 p4)), .second, .val (.long (lw_off p1 p2 p3 p4)), .second, .val (.int (lw_m p1 p2 p3 p4)), .val (.long (lw_x0 p1 p2 p3 p4)), .second, .unset, .unset, .unset, .unset, .unset, .unset] [])) t
          have q : (lw_xl p1 p2 p3 p4) = (lw_x0 p1 p2 p3 p4) := by simp only [lw_xl, c2, c3, if_true, if_false, Bool.false_eq_true]; try rfl
          rw [q] at k
          clear q
          exact k
        · refine XS.icmpNo X0.here hx rfl (hb hby at_44) rfl (Bool.eq_false_iff.mpr c3) ?_
          show Steps p.tables e below (s₁.setTop (mkF m 47 #[.val (.int p1), .val (.int p2), .val (.int p3), .val (.int p4), .val (.long (lw_lo p1 p2 p3 p4)), .second, .val (.long (lw_hi p1 p2 p3 p4)), .second, .val (.long (lw_off p1 p2 p3 p4)), .second, .val (.int (lw_m p1 p2 p3 p4)), .val (.long (lw_x0 p1 p2 p3 p4)), .second, .unset, .unset, .unset, .unset, .unset, .unset] [])) t
          refine XT.lload X0.here hx rfl (hb hby at_47) rfl ?_
          show Steps p.tables e below (s₁.setTop (mkF m 49 #[.val (.int p1), .val (.int p2), .val (.int p3), .val (.int p4), .val (.long (lw_lo p1 p2 p3 p4)), .second, .val (.long (lw_hi p1 p2 p3 p4)), .second, .val (.long (lw_off p1 p2 p3 p4)), .second, .val (.int (lw_m p1 p2 p3 p4)), .val (.long (lw_x0 p1 p2 p3 p4)), .second, .unset, .unset, .unset, .unset, .unset, .unset] [(.long (lw_hi p1 p2 p3 p4))])) t
          refine XT.lload X0.here hx rfl (hb hby at_49) rfl ?_
          show Steps p.tables e below (s₁.setTop (mkF m 51 #[.val (.int p1), .val (.int p2), .val (.int p3), .val (.int p4), .val (.long (lw_lo p1 p2 p3 p4)), .second, .val (.long (lw_hi p1 p2 p3 p4)), .second, .val (.long (lw_off p1 p2 p3 p4)), .second, .val (.int (lw_m p1 p2 p3 p4)), .val (.long (lw_x0 p1 p2 p3 p4)), .second, .unset, .unset, .unset, .unset, .unset, .unset] [(.long (lw_off p1 p2 p3 p4)), (.long (lw_hi p1 p2 p3 p4))])) t
          refine XT.ladd X0.here hx rfl (hb hby at_51) rfl ?_
          show Steps p.tables e below (s₁.setTop (mkF m 52 #[.val (.int p1), .val (.int p2), .val (.int p3), .val (.int p4), .val (.long (lw_lo p1 p2 p3 p4)), .second, .val (.long (lw_hi p1 p2 p3 p4)), .second, .val (.long (lw_off p1 p2 p3 p4)), .second, .val (.int (lw_m p1 p2 p3 p4)), .val (.long (lw_x0 p1 p2 p3 p4)), .second, .unset, .unset, .unset, .unset, .unset, .unset] [(.long ((lw_hi p1 p2 p3 p4) + (lw_off p1 p2 p3 p4)))])) t
          refine XT.lstore X0.here hx rfl (hb hby at_52) rfl (l' := #[.val (.int p1), .val (.int p2), .val (.int p3), .val (.int p4), .val (.long (lw_lo p1 p2 p3 p4)), .second, .val (.long (lw_hi p1 p2 p3 p4)), .second, .val (.long (lw_off p1 p2 p3 p4)), .second, .val (.int (lw_m p1 p2 p3 p4)), .val (.long ((lw_hi p1 p2 p3 p4) + (lw_off p1 p2 p3 p4))), .second, .unset, .unset, .unset, .unset, .unset, .unset]) rfl ?_
          show Steps p.tables e below (s₁.setTop (mkF m 54 #[.val (.int p1), .val (.int p2), .val (.int p3), .val (.int p4), .val (.long (lw_lo p1 p2 p3 p4)), .second, .val (.long (lw_hi p1 p2 p3 p4)), .second, .val (.long (lw_off p1 p2 p3 p4)), .second, .val (.int (lw_m p1 p2 p3 p4)), .val (.long ((lw_hi p1 p2 p3 p4) + (lw_off p1 p2 p3 p4))), .second, .unset, .unset, .unset, .unset, .unset, .unset] [])) t
          have q : (lw_xl p1 p2 p3 p4) = ((lw_hi p1 p2 p3 p4) + (lw_off p1 p2 p3 p4)) := by simp only [lw_xl, c2, c3, if_true, if_false, Bool.false_eq_true]; try rfl
          rw [q] at k
          clear q
          exact k
      · refine XS.icmpNo X0.here hx rfl (hb hby at_28) rfl (Bool.eq_false_iff.mpr c2) ?_
        show Steps p.tables e below (s₁.setTop (mkF m 31 #[.val (.int p1), .val (.int p2), .val (.int p3), .val (.int p4), .val (.long (lw_lo p1 p2 p3 p4)), .second, .val (.long (lw_hi p1 p2 p3 p4)), .second, .val (.long (lw_off p1 p2 p3 p4)), .second, .val (.int (lw_m p1 p2 p3 p4)), .val (.long (lw_x0 p1 p2 p3 p4)), .second, .unset, .unset, .unset, .unset, .unset, .unset] [])) t
        refine XT.lload X0.here hx rfl (hb hby at_31) rfl ?_
        show Steps p.tables e below (s₁.setTop (mkF m 33 #[.val (.int p1), .val (.int p2), .val (.int p3), .val (.int p4), .val (.long (lw_lo p1 p2 p3 p4)), .second, .val (.long (lw_hi p1 p2 p3 p4)), .second, .val (.long (lw_off p1 p2 p3 p4)), .second, .val (.int (lw_m p1 p2 p3 p4)), .val (.long (lw_x0 p1 p2 p3 p4)), .second, .unset, .unset, .unset, .unset, .unset, .unset] [(.long (lw_lo p1 p2 p3 p4))])) t
        refine XT.lload X0.here hx rfl (hb hby at_33) rfl ?_
        show Steps p.tables e below (s₁.setTop (mkF m 35 #[.val (.int p1), .val (.int p2), .val (.int p3), .val (.int p4), .val (.long (lw_lo p1 p2 p3 p4)), .second, .val (.long (lw_hi p1 p2 p3 p4)), .second, .val (.long (lw_off p1 p2 p3 p4)), .second, .val (.int (lw_m p1 p2 p3 p4)), .val (.long (lw_x0 p1 p2 p3 p4)), .second, .unset, .unset, .unset, .unset, .unset, .unset] [(.long (lw_off p1 p2 p3 p4)), (.long (lw_lo p1 p2 p3 p4))])) t
        refine XT.ladd X0.here hx rfl (hb hby at_35) rfl ?_
        show Steps p.tables e below (s₁.setTop (mkF m 36 #[.val (.int p1), .val (.int p2), .val (.int p3), .val (.int p4), .val (.long (lw_lo p1 p2 p3 p4)), .second, .val (.long (lw_hi p1 p2 p3 p4)), .second, .val (.long (lw_off p1 p2 p3 p4)), .second, .val (.int (lw_m p1 p2 p3 p4)), .val (.long (lw_x0 p1 p2 p3 p4)), .second, .unset, .unset, .unset, .unset, .unset, .unset] [(.long ((lw_lo p1 p2 p3 p4) + (lw_off p1 p2 p3 p4)))])) t
        refine XT.lstore X0.here hx rfl (hb hby at_36) rfl (l' := #[.val (.int p1), .val (.int p2), .val (.int p3), .val (.int p4), .val (.long (lw_lo p1 p2 p3 p4)), .second, .val (.long (lw_hi p1 p2 p3 p4)), .second, .val (.long (lw_off p1 p2 p3 p4)), .second, .val (.int (lw_m p1 p2 p3 p4)), .val (.long ((lw_lo p1 p2 p3 p4) + (lw_off p1 p2 p3 p4))), .second, .unset, .unset, .unset, .unset, .unset, .unset]) rfl ?_
        show Steps p.tables e below (s₁.setTop (mkF m 38 #[.val (.int p1), .val (.int p2), .val (.int p3), .val (.int p4), .val (.long (lw_lo p1 p2 p3 p4)), .second, .val (.long (lw_hi p1 p2 p3 p4)), .second, .val (.long (lw_off p1 p2 p3 p4)), .second, .val (.int (lw_m p1 p2 p3 p4)), .val (.long ((lw_lo p1 p2 p3 p4) + (lw_off p1 p2 p3 p4))), .second, .unset, .unset, .unset, .unset, .unset, .unset] [])) t
        refine XS.goto X0.here hx rfl (pc0 := 38) (pc' := 54) rfl (hb hby at_38) (by decide) (by decide) ?_
        show Steps p.tables e below (s₁.setTop (mkF m 54 #[.val (.int p1), .val (.int p2), .val (.int p3), .val (.int p4), .val (.long (lw_lo p1 p2 p3 p4)), .second, .val (.long (lw_hi p1 p2 p3 p4)), .second, .val (.long (lw_off p1 p2 p3 p4)), .second, .val (.int (lw_m p1 p2 p3 p4)), .val (.long ((lw_lo p1 p2 p3 p4) + (lw_off p1 p2 p3 p4))), .second, .unset, .unset, .unset, .unset, .unset, .unset] [])) t
        have q : (lw_xl p1 p2 p3 p4) = ((lw_lo p1 p2 p3 p4) + (lw_off p1 p2 p3 p4)) := by simp only [lw_xl, c2, if_true, if_false, Bool.false_eq_true]; try rfl
        rw [q] at k
        clear q
        exact k
    refine sg1 _ ?_
    show Steps p.tables e below (s₁.setTop (mkF m 54 #[.val (.int p1), .val (.int p2), .val (.int p3), .val (.int p4), .val (.long (lw_lo p1 p2 p3 p4)), .second, .val (.long (lw_hi p1 p2 p3 p4)), .second, .val (.long (lw_off p1 p2 p3 p4)), .second, .val (.int (lw_m p1 p2 p3 p4)), .val (.long (lw_xl p1 p2 p3 p4)), .second, .unset, .unset, .unset, .unset, .unset, .unset] [])) _
    refine XS.iloadN X0.here hx rfl (hb hby at_54) rfl ?_
    show Steps p.tables e below (s₁.setTop (mkF m 55 #[.val (.int p1), .val (.int p2), .val (.int p3), .val (.int p4), .val (.long (lw_lo p1 p2 p3 p4)), .second, .val (.long (lw_hi p1 p2 p3 p4)), .second, .val (.long (lw_off p1 p2 p3 p4)), .second, .val (.int (lw_m p1 p2 p3 p4)), .val (.long (lw_xl p1 p2 p3 p4)), .second, .unset, .unset, .unset, .unset, .unset, .unset] [(.int p4)])) _
    refine XS.iconst X0.here hx rfl (hb hby at_55) ?_
    show Steps p.tables e below (s₁.setTop (mkF m 56 #[.val (.int p1), .val (.int p2), .val (.int p3), .val (.int p4), .val (.long (lw_lo p1 p2 p3 p4)), .second, .val (.long (lw_hi p1 p2 p3 p4)), .second, .val (.long (lw_off p1 p2 p3 p4)), .second, .val (.int (lw_m p1 p2 p3 p4)), .val (.long (lw_xl p1 p2 p3 p4)), .second, .unset, .unset, .unset, .unset, .unset, .unset] [(.int (4 : Int32)), (.int p4)])) _
    refine XS.iand X0.here hx rfl (hb hby at_56) rfl ?_
    show Steps p.tables e below (s₁.setTop (mkF m 57 #[.val (.int p1), .val (.int p2), .val (.int p3), .val (.int p4), .val (.long (lw_lo p1 p2 p3 p4)), .second, .val (.long (lw_hi p1 p2 p3 p4)), .second, .val (.long (lw_off p1 p2 p3 p4)), .second, .val (.int (lw_m p1 p2 p3 p4)), .val (.long (lw_xl p1 p2 p3 p4)), .second, .unset, .unset, .unset, .unset, .unset, .unset] [(.int (p4 &&& (4 : Int32)))])) _
    have sg4 : ∀ t, Steps p.tables e below (s₁.setTop (mkF m 65 #[.val (.int p1), .val (.int p2), .val (.int p3), .val (.int p4), .val (.long (lw_lo p1 p2 p3 p4)), .second, .val (.long (lw_hi p1 p2 p3 p4)), .second, .val (.long (lw_off p1 p2 p3 p4)), .second, .val (.int (lw_m p1 p2 p3 p4)), .val (.long (lw_xl p1 p2 p3 p4)), .second, .unset, .unset, .unset, .unset, .unset, .unset] [(.int (lw_half0 p1 p2 p3 p4))])) t → Steps p.tables e below (s₁.setTop (mkF m 57 #[.val (.int p1), .val (.int p2), .val (.int p3), .val (.int p4), .val (.long (lw_lo p1 p2 p3 p4)), .second, .val (.long (lw_hi p1 p2 p3 p4)), .second, .val (.long (lw_off p1 p2 p3 p4)), .second, .val (.int (lw_m p1 p2 p3 p4)), .val (.long (lw_xl p1 p2 p3 p4)), .second, .unset, .unset, .unset, .unset, .unset, .unset] [(.int (p4 &&& (4 : Int32)))])) t := by
      intro t k
      by_cases c5 : (ifCond.holds .eq (p4 &&& (4 : Int32))) = true
      · refine XS.ifYes X0.here hx rfl (pc0 := 57) (pc' := 64) rfl (hb hby at_57) rfl c5 (by decide) (by decide) ?_
        show Steps p.tables e below (s₁.setTop (mkF m 64 #[.val (.int p1), .val (.int p2), .val (.int p3), .val (.int p4), .val (.long (lw_lo p1 p2 p3 p4)), .second, .val (.long (lw_hi p1 p2 p3 p4)), .second, .val (.long (lw_off p1 p2 p3 p4)), .second, .val (.int (lw_m p1 p2 p3 p4)), .val (.long (lw_xl p1 p2 p3 p4)), .second, .unset, .unset, .unset, .unset, .unset, .unset] [])) t
        refine XS.iconst X0.here hx rfl (hb hby at_64) ?_
        show Steps p.tables e below (s₁.setTop (mkF m 65 #[.val (.int p1), .val (.int p2), .val (.int p3), .val (.int p4), .val (.long (lw_lo p1 p2 p3 p4)), .second, .val (.long (lw_hi p1 p2 p3 p4)), .second, .val (.long (lw_off p1 p2 p3 p4)), .second, .val (.int (lw_m p1 p2 p3 p4)), .val (.long (lw_xl p1 p2 p3 p4)), .second, .unset, .unset, .unset, .unset, .unset, .unset] [(.int (0 : Int32))])) t
        have q : (lw_half0 p1 p2 p3 p4) = (0 : Int32) := by simp only [lw_half0, c5, if_true, if_false, Bool.false_eq_true]; try rfl
        rw [q] at k
        clear q
        exact k
      · refine XS.ifNo X0.here hx rfl (hb hby at_57) rfl (Bool.eq_false_iff.mpr c5) ?_
        show Steps p.tables e below (s₁.setTop (mkF m 60 #[.val (.int p1), .val (.int p2), .val (.int p3), .val (.int p4), .val (.long (lw_lo p1 p2 p3 p4)), .second, .val (.long (lw_hi p1 p2 p3 p4)), .second, .val (.long (lw_off p1 p2 p3 p4)), .second, .val (.int (lw_m p1 p2 p3 p4)), .val (.long (lw_xl p1 p2 p3 p4)), .second, .unset, .unset, .unset, .unset, .unset, .unset] [])) t
        refine XS.iconst X0.here hx rfl (hb hby at_60) ?_
        show Steps p.tables e below (s₁.setTop (mkF m 61 #[.val (.int p1), .val (.int p2), .val (.int p3), .val (.int p4), .val (.long (lw_lo p1 p2 p3 p4)), .second, .val (.long (lw_hi p1 p2 p3 p4)), .second, .val (.long (lw_off p1 p2 p3 p4)), .second, .val (.int (lw_m p1 p2 p3 p4)), .val (.long (lw_xl p1 p2 p3 p4)), .second, .unset, .unset, .unset, .unset, .unset, .unset] [(.int (1 : Int32))])) t
        refine XS.goto X0.here hx rfl (pc0 := 61) (pc' := 65) rfl (hb hby at_61) (by decide) (by decide) ?_
        show Steps p.tables e below (s₁.setTop (mkF m 65 #[.val (.int p1), .val (.int p2), .val (.int p3), .val (.int p4), .val (.long (lw_lo p1 p2 p3 p4)), .second, .val (.long (lw_hi p1 p2 p3 p4)), .second, .val (.long (lw_off p1 p2 p3 p4)), .second, .val (.int (lw_m p1 p2 p3 p4)), .val (.long (lw_xl p1 p2 p3 p4)), .second, .unset, .unset, .unset, .unset, .unset, .unset] [(.int (1 : Int32))])) t
        have q : (lw_half0 p1 p2 p3 p4) = (1 : Int32) := by simp only [lw_half0, c5, if_true, if_false, Bool.false_eq_true]; try rfl
        rw [q] at k
        clear q
        exact k
    refine sg4 _ ?_
    show Steps p.tables e below (s₁.setTop (mkF m 65 #[.val (.int p1), .val (.int p2), .val (.int p3), .val (.int p4), .val (.long (lw_lo p1 p2 p3 p4)), .second, .val (.long (lw_hi p1 p2 p3 p4)), .second, .val (.long (lw_off p1 p2 p3 p4)), .second, .val (.int (lw_m p1 p2 p3 p4)), .val (.long (lw_xl p1 p2 p3 p4)), .second, .unset, .unset, .unset, .unset, .unset, .unset] [(.int (lw_half0 p1 p2 p3 p4))])) _
    refine XS.istore X0.here hx rfl (hb hby at_65) rfl (l' := #[.val (.int p1), .val (.int p2), .val (.int p3), .val (.int p4), .val (.long (lw_lo p1 p2 p3 p4)), .second, .val (.long (lw_hi p1 p2 p3 p4)), .second, .val (.long (lw_off p1 p2 p3 p4)), .second, .val (.int (lw_m p1 p2 p3 p4)), .val (.long (lw_xl p1 p2 p3 p4)), .second, .val (.int (lw_half p1 p2 p3 p4)), .unset, .unset, .unset, .unset, .unset]) rfl ?_
    show Steps p.tables e below (s₁.setTop (mkF m 67 #[.val (.int p1), .val (.int p2), .val (.int p3), .val (.int p4), .val (.long (lw_lo p1 p2 p3 p4)), .second, .val (.long (lw_hi p1 p2 p3 p4)), .second, .val (.long (lw_off p1 p2 p3 p4)), .second, .val (.int (lw_m p1 p2 p3 p4)), .val (.long (lw_xl p1 p2 p3 p4)), .second, .val (.int (lw_half p1 p2 p3 p4)), .unset, .unset, .unset, .unset, .unset] [])) _
    refine XT.lload X0.here hx rfl (hb hby at_67) rfl ?_
    show Steps p.tables e below (s₁.setTop (mkF m 69 #[.val (.int p1), .val (.int p2), .val (.int p3), .val (.int p4), .val (.long (lw_lo p1 p2 p3 p4)), .second, .val (.long (lw_hi p1 p2 p3 p4)), .second, .val (.long (lw_off p1 p2 p3 p4)), .second, .val (.int (lw_m p1 p2 p3 p4)), .val (.long (lw_xl p1 p2 p3 p4)), .second, .val (.int (lw_half p1 p2 p3 p4)), .unset, .unset, .unset, .unset, .unset] [(.long (lw_xl p1 p2 p3 p4))])) _
    refine XS.l2dS X0.here hx rfl (hb hby at_69) rfl rfl ?_
    show Steps p.tables e below (s₁.setTop (mkF m 70 #[.val (.int p1), .val (.int p2), .val (.int p3), .val (.int p4), .val (.long (lw_lo p1 p2 p3 p4)), .second, .val (.long (lw_hi p1 p2 p3 p4)), .second, .val (.long (lw_off p1 p2 p3 p4)), .second, .val (.int (lw_m p1 p2 p3 p4)), .val (.long (lw_xl p1 p2 p3 p4)), .second, .val (.int (lw_half p1 p2 p3 p4)), .unset, .unset, .unset, .unset, .unset] [(.double (FP.l2d (lw_xl p1 p2 p3 p4)))])) _
    refine XS.dstore X0.here hx rfl (hb hby at_70) rfl (l' := #[.val (.int p1), .val (.int p2), .val (.int p3), .val (.int p4), .val (.long (lw_lo p1 p2 p3 p4)), .second, .val (.long (lw_hi p1 p2 p3 p4)), .second, .val (.long (lw_off p1 p2 p3 p4)), .second, .val (.int (lw_m p1 p2 p3 p4)), .val (.long (lw_xl p1 p2 p3 p4)), .second, .val (.int (lw_half p1 p2 p3 p4)), .val (.double (lw_d0 p1 p2 p3 p4)), .second, .unset, .unset, .unset]) rfl ?_
    show Steps p.tables e below (s₁.setTop (mkF m 72 #[.val (.int p1), .val (.int p2), .val (.int p3), .val (.int p4), .val (.long (lw_lo p1 p2 p3 p4)), .second, .val (.long (lw_hi p1 p2 p3 p4)), .second, .val (.long (lw_off p1 p2 p3 p4)), .second, .val (.int (lw_m p1 p2 p3 p4)), .val (.long (lw_xl p1 p2 p3 p4)), .second, .val (.int (lw_half p1 p2 p3 p4)), .val (.double (lw_d0 p1 p2 p3 p4)), .second, .unset, .unset, .unset] [])) _
    refine XS.iload X0.here hx rfl (hb hby at_72) rfl ?_
    show Steps p.tables e below (s₁.setTop (mkF m 74 #[.val (.int p1), .val (.int p2), .val (.int p3), .val (.int p4), .val (.long (lw_lo p1 p2 p3 p4)), .second, .val (.long (lw_hi p1 p2 p3 p4)), .second, .val (.long (lw_off p1 p2 p3 p4)), .second, .val (.int (lw_m p1 p2 p3 p4)), .val (.long (lw_xl p1 p2 p3 p4)), .second, .val (.int (lw_half p1 p2 p3 p4)), .val (.double (lw_d0 p1 p2 p3 p4)), .second, .unset, .unset, .unset] [(.int (lw_half p1 p2 p3 p4))])) _
    have sg6 : ∀ t, Steps p.tables e below (s₁.setTop (mkF m 85 #[.val (.int p1), .val (.int p2), .val (.int p3), .val (.int p4), .val (.long (lw_lo p1 p2 p3 p4)), .second, .val (.long (lw_hi p1 p2 p3 p4)), .second, .val (.long (lw_off p1 p2 p3 p4)), .second, .val (.int (lw_m p1 p2 p3 p4)), .val (.long (lw_xl p1 p2 p3 p4)), .second, .val (.int (lw_half p1 p2 p3 p4)), .val (.double (lw_x p1 p2 p3 p4)), .second, .unset, .unset, .unset] [])) t → Steps p.tables e below (s₁.setTop (mkF m 74 #[.val (.int p1), .val (.int p2), .val (.int p3), .val (.int p4), .val (.long (lw_lo p1 p2 p3 p4)), .second, .val (.long (lw_hi p1 p2 p3 p4)), .second, .val (.long (lw_off p1 p2 p3 p4)), .second, .val (.int (lw_m p1 p2 p3 p4)), .val (.long (lw_xl p1 p2 p3 p4)), .second, .val (.int (lw_half p1 p2 p3 p4)), .val (.double (lw_d0 p1 p2 p3 p4)), .second, .unset, .unset, .unset] [(.int (lw_half p1 p2 p3 p4))])) t := by
      intro t k
      by_cases c7 : (ifCond.holds .eq (lw_half p1 p2 p3 p4)) = true
      · refine XS.ifYes X0.here hx rfl (pc0 := 74) (pc' := 85) rfl (hb hby at_74) rfl c7 (by decide) (by decide) ?_
        show Steps p.tables e below (s₁.setTop (mkF m 85 #[.val (.int p1), .val (.int p2), .val (.int p3), .val (.int p4), .val (.long (lw_lo p1 p2 p3 p4)), .second, .val (.long (lw_hi p1 p2 p3 p4)), .second, .val (.long (lw_off p1 p2 p3 p4)), .second, .val (.int (lw_m p1 p2 p3 p4)), .val (.long (lw_xl p1 p2 p3 p4)), .second, .val (.int (lw_half p1 p2 p3 p4)), .val (.double (lw_d0 p1 p2 p3 p4)), .second, .unset, .unset, .unset] [])) t
        have q : (lw_x p1 p2 p3 p4) = (lw_d0 p1 p2 p3 p4) := by simp only [lw_x, c7, if_true, if_false, Bool.false_eq_true]; try rfl
        rw [q] at k
        clear q
        exact k
      · refine XS.ifNo X0.here hx rfl (hb hby at_74) rfl (Bool.eq_false_iff.mpr c7) ?_
        show Steps p.tables e below (s₁.setTop (mkF m 77 #[.val (.int p1), .val (.int p2), .val (.int p3), .val (.int p4), .val (.long (lw_lo p1 p2 p3 p4)), .second, .val (.long (lw_hi p1 p2 p3 p4)), .second, .val (.long (lw_off p1 p2 p3 p4)), .second, .val (.int (lw_m p1 p2 p3 p4)), .val (.long (lw_xl p1 p2 p3 p4)), .second, .val (.int (lw_half p1 p2 p3 p4)), .val (.double (lw_d0 p1 p2 p3 p4)), .second, .unset, .unset, .unset] [])) t
        refine XS.dload X0.here hx rfl (hb hby at_77) rfl ?_
        show Steps p.tables e below (s₁.setTop (mkF m 79 #[.val (.int p1), .val (.int p2), .val (.int p3), .val (.int p4), .val (.long (lw_lo p1 p2 p3 p4)), .second, .val (.long (lw_hi p1 p2 p3 p4)), .second, .val (.long (lw_off p1 p2 p3 p4)), .second, .val (.int (lw_m p1 p2 p3 p4)), .val (.long (lw_xl p1 p2 p3 p4)), .second, .val (.int (lw_half p1 p2 p3 p4)), .val (.double (lw_d0 p1 p2 p3 p4)), .second, .unset, .unset, .unset] [(.double (lw_d0 p1 p2 p3 p4))])) t
        refine X0.ldc2DoubleC hx hown (mvT hZ (hw _ (List.mem_of_getElem? (i := 83) rfl))) (g := (mkF m 79 #[.val (.int p1), .val (.int p2), .val (.int p3), .val (.int p4), .val (.long (lw_lo p1 p2 p3 p4)), .second, .val (.long (lw_hi p1 p2 p3 p4)), .second, .val (.long (lw_off p1 p2 p3 p4)), .second, .val (.int (lw_m p1 p2 p3 p4)), .val (.long (lw_xl p1 p2 p3 p4)), .second, .val (.int (lw_half p1 p2 p3 p4)), .val (.double (lw_d0 p1 p2 p3 p4)), .second, .unset, .unset, .unset] [(.double (lw_d0 p1 p2 p3 p4))])) rfl (hb hby at_79) _ ?_
        show Steps p.tables e below (s₁.setTop (mkF m 82 #[.val (.int p1), .val (.int p2), .val (.int p3), .val (.int p4), .val (.long (lw_lo p1 p2 p3 p4)), .second, .val (.long (lw_hi p1 p2 p3 p4)), .second, .val (.long (lw_off p1 p2 p3 p4)), .second, .val (.int (lw_m p1 p2 p3 p4)), .val (.long (lw_xl p1 p2 p3 p4)), .second, .val (.int (lw_half p1 p2 p3 p4)), .val (.double (lw_d0 p1 p2 p3 p4)), .second, .unset, .unset, .unset] [(.double (4602678819172646912 : UInt64)), (.double (lw_d0 p1 p2 p3 p4))])) t
        refine XS.daddS X0.here hx rfl (hb hby at_82) rfl (own_nn82 p1 p2 p3 p4) rfl ?_
        show Steps p.tables e below (s₁.setTop (mkF m 83 #[.val (.int p1), .val (.int p2), .val (.int p3), .val (.int p4), .val (.long (lw_lo p1 p2 p3 p4)), .second, .val (.long (lw_hi p1 p2 p3 p4)), .second, .val (.long (lw_off p1 p2 p3 p4)), .second, .val (.int (lw_m p1 p2 p3 p4)), .val (.long (lw_xl p1 p2 p3 p4)), .second, .val (.int (lw_half p1 p2 p3 p4)), .val (.double (lw_d0 p1 p2 p3 p4)), .second, .unset, .unset, .unset] [(.double (FP.dadd (lw_d0 p1 p2 p3 p4) (4602678819172646912 : UInt64)))])) t
        refine XS.dstore X0.here hx rfl (hb hby at_83) rfl (l' := #[.val (.int p1), .val (.int p2), .val (.int p3), .val (.int p4), .val (.long (lw_lo p1 p2 p3 p4)), .second, .val (.long (lw_hi p1 p2 p3 p4)), .second, .val (.long (lw_off p1 p2 p3 p4)), .second, .val (.int (lw_m p1 p2 p3 p4)), .val (.long (lw_xl p1 p2 p3 p4)), .second, .val (.int (lw_half p1 p2 p3 p4)), .val (.double (FP.dadd (lw_d0 p1 p2 p3 p4) (4602678819172646912 : UInt64))), .second, .unset, .unset, .unset]) rfl ?_
        show Steps p.tables e below (s₁.setTop (mkF m 85 #[.val (.int p1), .val (.int p2), .val (.int p3), .val (.int p4), .val (.long (lw_lo p1 p2 p3 p4)), .second, .val (.long (lw_hi p1 p2 p3 p4)), .second, .val (.long (lw_off p1 p2 p3 p4)), .second, .val (.int (lw_m p1 p2 p3 p4)), .val (.long (lw_xl p1 p2 p3 p4)), .second, .val (.int (lw_half p1 p2 p3 p4)), .val (.double (FP.dadd (lw_d0 p1 p2 p3 p4) (4602678819172646912 : UInt64))), .second, .unset, .unset, .unset] [])) t
        have q : (lw_x p1 p2 p3 p4) = (FP.dadd (lw_d0 p1 p2 p3 p4) (4602678819172646912 : UInt64)) := by simp only [lw_x, c7, if_true, if_false, Bool.false_eq_true]; try rfl
        rw [q] at k
        clear q
        exact k
    refine sg6 _ ?_
    show Steps p.tables e below (s₁.setTop (mkF m 85 #[.val (.int p1), .val (.int p2), .val (.int p3), .val (.int p4), .val (.long (lw_lo p1 p2 p3 p4)), .second, .val (.long (lw_hi p1 p2 p3 p4)), .second, .val (.long (lw_off p1 p2 p3 p4)), .second, .val (.int (lw_m p1 p2 p3 p4)), .val (.long (lw_xl p1 p2 p3 p4)), .second, .val (.int (lw_half p1 p2 p3 p4)), .val (.double (lw_x p1 p2 p3 p4)), .second, .unset, .unset, .unset] [])) _
    refine st8 _ ?_
    show Steps p.tables e below (T8.setTop (mkF m 88 #[.val (.int p1), .val (.int p2), .val (.int p3), .val (.int p4), .val (.long (lw_lo p1 p2 p3 p4)), .second, .val (.long (lw_hi p1 p2 p3 p4)), .second, .val (.long (lw_off p1 p2 p3 p4)), .second, .val (.int (lw_m p1 p2 p3 p4)), .val (.long (lw_xl p1 p2 p3 p4)), .second, .val (.int (lw_half p1 p2 p3 p4)), .val (.double (lw_x p1 p2 p3 p4)), .second, .unset, .unset, .unset] [(.ref ad8)])) _
    refine XS.dup X8.here hx rfl (hb hby at_88) rfl rfl ?_
    show Steps p.tables e below (T8.setTop (mkF m 89 #[.val (.int p1), .val (.int p2), .val (.int p3), .val (.int p4), .val (.long (lw_lo p1 p2 p3 p4)), .second, .val (.long (lw_hi p1 p2 p3 p4)), .second, .val (.long (lw_off p1 p2 p3 p4)), .second, .val (.int (lw_m p1 p2 p3 p4)), .val (.long (lw_xl p1 p2 p3 p4)), .second, .val (.int (lw_half p1 p2 p3 p4)), .val (.double (lw_x p1 p2 p3 p4)), .second, .unset, .unset, .unset] [(.ref ad8), (.ref ad8)])) _
    refine XS.dconst0 X8.here hx rfl (hb hby at_89) rfl ?_
    show Steps p.tables e below (T8.setTop (mkF m 90 #[.val (.int p1), .val (.int p2), .val (.int p3), .val (.int p4), .val (.long (lw_lo p1 p2 p3 p4)), .second, .val (.long (lw_hi p1 p2 p3 p4)), .second, .val (.long (lw_off p1 p2 p3 p4)), .second, .val (.int (lw_m p1 p2 p3 p4)), .val (.long (lw_xl p1 p2 p3 p4)), .second, .val (.int (lw_half p1 p2 p3 p4)), .val (.double (lw_x p1 p2 p3 p4)), .second, .unset, .unset, .unset] [(.double (0 : UInt64)), (.ref ad8), (.ref ad8)])) _
    refine XS.dconst0 X8.here hx rfl (hb hby at_90) rfl ?_
    show Steps p.tables e below (T8.setTop (mkF m 91 #[.val (.int p1), .val (.int p2), .val (.int p3), .val (.int p4), .val (.long (lw_lo p1 p2 p3 p4)), .second, .val (.long (lw_hi p1 p2 p3 p4)), .second, .val (.long (lw_off p1 p2 p3 p4)), .second, .val (.int (lw_m p1 p2 p3 p4)), .val (.long (lw_xl p1 p2 p3 p4)), .second, .val (.int (lw_half p1 p2 p3 p4)), .val (.double (lw_x p1 p2 p3 p4)), .second, .unset, .unset, .unset] [(.double (0 : UInt64)), (.double (0 : UInt64)), (.ref ad8), (.ref ad8)])) _
    refine XS.dconst0 X8.here hx rfl (hb hby at_91) rfl ?_
    show Steps p.tables e below (T8.setTop (mkF m 92 #[.val (.int p1), .val (.int p2), .val (.int p3), .val (.int p4), .val (.long (lw_lo p1 p2 p3 p4)), .second, .val (.long (lw_hi p1 p2 p3 p4)), .second, .val (.long (lw_off p1 p2 p3 p4)), .second, .val (.int (lw_m p1 p2 p3 p4)), .val (.long (lw_xl p1 p2 p3 p4)), .second, .val (.int (lw_half p1 p2 p3 p4)), .val (.double (lw_x p1 p2 p3 p4)), .second, .unset, .unset, .unset] [(.double (0 : UInt64)), (.double (0 : UInt64)), (.double (0 : UInt64)), (.ref ad8), (.ref ad8)])) _
    refine st9.trans ?_
    show Steps p.tables e below (T9.setTop (mkF m 95 #[.val (.int p1), .val (.int p2), .val (.int p3), .val (.int p4), .val (.long (lw_lo p1 p2 p3 p4)), .second, .val (.long (lw_hi p1 p2 p3 p4)), .second, .val (.long (lw_off p1 p2 p3 p4)), .second, .val (.int (lw_m p1 p2 p3 p4)), .val (.long (lw_xl p1 p2 p3 p4)), .second, .val (.int (lw_half p1 p2 p3 p4)), .val (.double (lw_x p1 p2 p3 p4)), .second, .unset, .unset, .unset] [(.ref ad8)])) _
    refine XS.astore X9.here hx rfl (hb hby at_95) rfl rfl (l' := #[.val (.int p1), .val (.int p2), .val (.int p3), .val (.int p4), .val (.long (lw_lo p1 p2 p3 p4)), .second, .val (.long (lw_hi p1 p2 p3 p4)), .second, .val (.long (lw_off p1 p2 p3 p4)), .second, .val (.int (lw_m p1 p2 p3 p4)), .val (.long (lw_xl p1 p2 p3 p4)), .second, .val (.int (lw_half p1 p2 p3 p4)), .val (.double (lw_x p1 p2 p3 p4)), .second, .val (.ref ad8), .unset, .unset]) rfl ?_
    show Steps p.tables e below (T9.setTop (mkF m 97 #[.val (.int p1), .val (.int p2), .val (.int p3), .val (.int p4), .val (.long (lw_lo p1 p2 p3 p4)), .second, .val (.long (lw_hi p1 p2 p3 p4)), .second, .val (.long (lw_off p1 p2 p3 p4)), .second, .val (.int (lw_m p1 p2 p3 p4)), .val (.long (lw_xl p1 p2 p3 p4)), .second, .val (.int (lw_half p1 p2 p3 p4)), .val (.double (lw_x p1 p2 p3 p4)), .second, .val (.ref ad8), .unset, .unset] [])) _
    refine st10 _ ?_
    show Steps p.tables e below (T10.setTop (mkF m 100 #[.val (.int p1), .val (.int p2), .val (.int p3), .val (.int p4), .val (.long (lw_lo p1 p2 p3 p4)), .second, .val (.long (lw_hi p1 p2 p3 p4)), .second, .val (.long (lw_off p1 p2 p3 p4)), .second, .val (.int (lw_m p1 p2 p3 p4)), .val (.long (lw_xl p1 p2 p3 p4)), .second, .val (.int (lw_half p1 p2 p3 p4)), .val (.double (lw_x p1 p2 p3 p4)), .second, .val (.ref ad8), .unset, .unset] [(.ref ad10)])) _
    refine XS.dup X10.here hx rfl (hb hby at_100) rfl rfl ?_
    show Steps p.tables e below (T10.setTop (mkF m 101 #[.val (.int p1), .val (.int p2), .val (.int p3), .val (.int p4), .val (.long (lw_lo p1 p2 p3 p4)), .second, .val (.long (lw_hi p1 p2 p3 p4)), .second, .val (.long (lw_off p1 p2 p3 p4)), .second, .val (.int (lw_m p1 p2 p3 p4)), .val (.long (lw_xl p1 p2 p3 p4)), .second, .val (.int (lw_half p1 p2 p3 p4)), .val (.double (lw_x p1 p2 p3 p4)), .second, .val (.ref ad8), .unset, .unset] [(.ref ad10), (.ref ad10)])) _
    refine XT.lload X10.here hx rfl (hb hby at_101) rfl ?_
    show Steps p.tables e below (T10.setTop (mkF m 103 #[.val (.int p1), .val (.int p2), .val (.int p3), .val (.int p4), .val (.long (lw_lo p1 p2 p3 p4)), .second, .val (.long (lw_hi p1 p2 p3 p4)), .second, .val (.long (lw_off p1 p2 p3 p4)), .second, .val (.int (lw_m p1 p2 p3 p4)), .val (.long (lw_xl p1 p2 p3 p4)), .second, .val (.int (lw_half p1 p2 p3 p4)), .val (.double (lw_x p1 p2 p3 p4)), .second, .val (.ref ad8), .unset, .unset] [(.long (lw_lo p1 p2 p3 p4)), (.ref ad10), (.ref ad10)])) _
    refine XS.l2dS X10.here hx rfl (hb hby at_103) rfl rfl ?_
    show Steps p.tables e below (T10.setTop (mkF m 104 #[.val (.int p1), .val (.int p2), .val (.int p3), .val (.int p4), .val (.long (lw_lo p1 p2 p3 p4)), .second, .val (.long (lw_hi p1 p2 p3 p4)), .second, .val (.long (lw_off p1 p2 p3 p4)), .second, .val (.int (lw_m p1 p2 p3 p4)), .val (.long (lw_xl p1 p2 p3 p4)), .second, .val (.int (lw_half p1 p2 p3 p4)), .val (.double (lw_x p1 p2 p3 p4)), .second, .val (.ref ad8), .unset, .unset] [(.double (FP.l2d (lw_lo p1 p2 p3 p4))), (.ref ad10), (.ref ad10)])) _
    refine XT.lload X10.here hx rfl (hb hby at_104) rfl ?_
    show Steps p.tables e below (T10.setTop (mkF m 106 #[.val (.int p1), .val (.int p2), .val (.int p3), .val (.int p4), .val (.long (lw_lo p1 p2 p3 p4)), .second, .val (.long (lw_hi p1 p2 p3 p4)), .second, .val (.long (lw_off p1 p2 p3 p4)), .second, .val (.int (lw_m p1 p2 p3 p4)), .val (.long (lw_xl p1 p2 p3 p4)), .second, .val (.int (lw_half p1 p2 p3 p4)), .val (.double (lw_x p1 p2 p3 p4)), .second, .val (.ref ad8), .unset, .unset] [(.long (lw_hi p1 p2 p3 p4)), (.double (FP.l2d (lw_lo p1 p2 p3 p4))), (.ref ad10), (.ref ad10)])) _
    refine XS.l2dS X10.here hx rfl (hb hby at_106) rfl rfl ?_
    show Steps p.tables e below (T10.setTop (mkF m 107 #[.val (.int p1), .val (.int p2), .val (.int p3), .val (.int p4), .val (.long (lw_lo p1 p2 p3 p4)), .second, .val (.long (lw_hi p1 p2 p3 p4)), .second, .val (.long (lw_off p1 p2 p3 p4)), .second, .val (.int (lw_m p1 p2 p3 p4)), .val (.long (lw_xl p1 p2 p3 p4)), .second, .val (.int (lw_half p1 p2 p3 p4)), .val (.double (lw_x p1 p2 p3 p4)), .second, .val (.ref ad8), .unset, .unset] [(.double (FP.l2d (lw_hi p1 p2 p3 p4))), (.double (FP.l2d (lw_lo p1 p2 p3 p4))), (.ref ad10), (.ref ad10)])) _
    refine XS.dconst0 X10.here hx rfl (hb hby at_107) rfl ?_
    show Steps p.tables e below (T10.setTop (mkF m 108 #[.val (.int p1), .val (.int p2), .val (.int p3), .val (.int p4), .val (.long (lw_lo p1 p2 p3 p4)), .second, .val (.long (lw_hi p1 p2 p3 p4)), .second, .val (.long (lw_off p1 p2 p3 p4)), .second, .val (.int (lw_m p1 p2 p3 p4)), .val (.long (lw_xl p1 p2 p3 p4)), .second, .val (.int (lw_half p1 p2 p3 p4)), .val (.double (lw_x p1 p2 p3 p4)), .second, .val (.ref ad8), .unset, .unset] [(.double (0 : UInt64)), (.double (FP.l2d (lw_hi p1 p2 p3 p4))), (.double (FP.l2d (lw_lo p1 p2 p3 p4))), (.ref ad10), (.ref ad10)])) _
    refine XS.dconst0 X10.here hx rfl (hb hby at_108) rfl ?_
    show Steps p.tables e below (T10.setTop (mkF m 109 #[.val (.int p1), .val (.int p2), .val (.int p3), .val (.int p4), .val (.long (lw_lo p1 p2 p3 p4)), .second, .val (.long (lw_hi p1 p2 p3 p4)), .second, .val (.long (lw_off p1 p2 p3 p4)), .second, .val (.int (lw_m p1 p2 p3 p4)), .val (.long (lw_xl p1 p2 p3 p4)), .second, .val (.int (lw_half p1 p2 p3 p4)), .val (.double (lw_x p1 p2 p3 p4)), .second, .val (.ref ad8), .unset, .unset] [(.double (0 : UInt64)), (.double (0 : UInt64)), (.double (FP.l2d (lw_hi p1 p2 p3 p4))), (.double (FP.l2d (lw_lo p1 p2 p3 p4))), (.ref ad10), (.ref ad10)])) _
    refine XS.dconst0 X10.here hx rfl (hb hby at_109) rfl ?_
    show Steps p.tables e below (T10.setTop (mkF m 110 #[.val (.int p1), .val (.int p2), .val (.int p3), .val (.int p4), .val (.long (lw_lo p1 p2 p3 p4)), .second, .val (.long (lw_hi p1 p2 p3 p4)), .second, .val (.long (lw_off p1 p2 p3 p4)), .second, .val (.int (lw_m p1 p2 p3 p4)), .val (.long (lw_xl p1 p2 p3 p4)), .second, .val (.int (lw_half p1 p2 p3 p4)), .val (.double (lw_x p1 p2 p3 p4)), .second, .val (.ref ad8), .unset, .unset] [(.double (0 : UInt64)), (.double (0 : UInt64)), (.double (0 : UInt64)), (.double (FP.l2d (lw_hi p1 p2 p3 p4))), (.double (FP.l2d (lw_lo p1 p2 p3 p4))), (.ref ad10), (.ref ad10)])) _
    refine XS.dconst0 X10.here hx rfl (hb hby at_110) rfl ?_
    show Steps p.tables e below (T10.setTop (mkF m 111 #[.val (.int p1), .val (.int p2), .val (.int p3), .val (.int p4), .val (.long (lw_lo p1 p2 p3 p4)), .second, .val (.long (lw_hi p1 p2 p3 p4)), .second, .val (.long (lw_off p1 p2 p3 p4)), .second, .val (.int (lw_m p1 p2 p3 p4)), .val (.long (lw_xl p1 p2 p3 p4)), .second, .val (.int (lw_half p1 p2 p3 p4)), .val (.double (lw_x p1 p2 p3 p4)), .second, .val (.ref ad8), .unset, .unset] [(.double (0 : UInt64)), (.double (0 : UInt64)), (.double (0 : UInt64)), (.double (0 : UInt64)), (.double (FP.l2d (lw_hi p1 p2 p3 p4))), (.double (FP.l2d (lw_lo p1 p2 p3 p4))), (.ref ad10), (.ref ad10)])) _
    refine XS.dconst0 X10.here hx rfl (hb hby at_111) rfl ?_
    show Steps p.tables e below (T10.setTop (mkF m 112 #[.val (.int p1), .val (.int p2), .val (.int p3), .val (.int p4), .val (.long (lw_lo p1 p2 p3 p4)), .second, .val (.long (lw_hi p1 p2 p3 p4)), .second, .val (.long (lw_off p1 p2 p3 p4)), .second, .val (.int (lw_m p1 p2 p3 p4)), .val (.long (lw_xl p1 p2 p3 p4)), .second, .val (.int (lw_half p1 p2 p3 p4)), .val (.double (lw_x p1 p2 p3 p4)), .second, .val (.ref ad8), .unset, .unset] [(.double (0 : UInt64)), (.double (0 : UInt64)), (.double (0 : UInt64)), (.double (0 : UInt64)), (.double (0 : UInt64)), (.double (FP.l2d (lw_hi p1 p2 p3 p4))), (.double (FP.l2d (lw_lo p1 p2 p3 p4))), (.ref ad10), (.ref ad10)])) _
    refine XS.dconst0 X10.here hx rfl (hb hby at_112) rfl ?_
    show Steps p.tables e below (T10.setTop (mkF m 113 #[.val (.int p1), .val (.int p2), .val (.int p3), .val (.int p4), .val (.long (lw_lo p1 p2 p3 p4)), .second, .val (.long (lw_hi p1 p2 p3 p4)), .second, .val (.long (lw_off p1 p2 p3 p4)), .second, .val (.int (lw_m p1 p2 p3 p4)), .val (.long (lw_xl p1 p2 p3 p4)), .second, .val (.int (lw_half p1 p2 p3 p4)), .val (.double (lw_x p1 p2 p3 p4)), .second, .val (.ref ad8), .unset, .unset] [(.double (0 : UInt64)), (.double (0 : UInt64)), (.double (0 : UInt64)), (.double (0 : UInt64)), (.double (0 : UInt64)), (.double (0 : UInt64)), (.double (FP.l2d (lw_hi p1 p2 p3 p4))), (.double (FP.l2d (lw_lo p1 p2 p3 p4))), (.ref ad10), (.ref ad10)])) _
    refine XS.dconst0 X10.here hx rfl (hb hby at_113) rfl ?_
    show Steps p.tables e below (T10.setTop (mkF m 114 #[.val (.int p1), .val (.int p2), .val (.int p3), .val (.int p4), .val (.long (lw_lo p1 p2 p3 p4)), .second, .val (.long (lw_hi p1 p2 p3 p4)), .second, .val (.long (lw_off p1 p2 p3 p4)), .second, .val (.int (lw_m p1 p2 p3 p4)), .val (.long (lw_xl p1 p2 p3 p4)), .second, .val (.int (lw_half p1 p2 p3 p4)), .val (.double (lw_x p1 p2 p3 p4)), .second, .val (.ref ad8), .unset, .unset] [(.double (0 : UInt64)), (.double (0 : UInt64)), (.double (0 : UInt64)), (.double (0 : UInt64)), (.double (0 : UInt64)), (.double (0 : UInt64)), (.double (0 : UInt64)), (.double (FP.l2d (lw_hi p1 p2 p3 p4))), (.double (FP.l2d (lw_lo p1 p2 p3 p4))), (.ref ad10), (.ref ad10)])) _
    refine XS.dconst0 X10.here hx rfl (hb hby at_114) rfl ?_
    show Steps p.tables e below (T10.setTop (mkF m 115 #[.val (.int p1), .val (.int p2), .val (.int p3), .val (.int p4), .val (.long (lw_lo p1 p2 p3 p4)), .second, .val (.long (lw_hi p1 p2 p3 p4)), .second, .val (.long (lw_off p1 p2 p3 p4)), .second, .val (.int (lw_m p1 p2 p3 p4)), .val (.long (lw_xl p1 p2 p3 p4)), .second, .val (.int (lw_half p1 p2 p3 p4)), .val (.double (lw_x p1 p2 p3 p4)), .second, .val (.ref ad8), .unset, .unset] [(.double (0 : UInt64)), (.double (0 : UInt64)), (.double (0 : UInt64)), (.double (0 : UInt64)), (.double (0 : UInt64)), (.double (0 : UInt64)), (.double (0 : UInt64)), (.double (0 : UInt64)), (.double (FP.l2d (lw_hi p1 p2 p3 p4))), (.double (FP.l2d (lw_lo p1 p2 p3 p4))), (.ref ad10), (.ref ad10)])) _
    refine XS.aload X10.here hx rfl (hb hby at_115) rfl rfl ?_
    show Steps p.tables e below (T10.setTop (mkF m 117 #[.val (.int p1), .val (.int p2), .val (.int p3), .val (.int p4), .val (.long (lw_lo p1 p2 p3 p4)), .second, .val (.long (lw_hi p1 p2 p3 p4)), .second, .val (.long (lw_off p1 p2 p3 p4)), .second, .val (.int (lw_m p1 p2 p3 p4)), .val (.long (lw_xl p1 p2 p3 p4)), .second, .val (.int (lw_half p1 p2 p3 p4)), .val (.double (lw_x p1 p2 p3 p4)), .second, .val (.ref ad8), .unset, .unset] [(.ref ad8), (.double (0 : UInt64)), (.double (0 : UInt64)), (.double (0 : UInt64)), (.double (0 : UInt64)), (.double (0 : UInt64)), (.double (0 : UInt64)), (.double (0 : UInt64)), (.double (0 : UInt64)), (.double (FP.l2d (lw_hi p1 p2 p3 p4))), (.double (FP.l2d (lw_lo p1 p2 p3 p4))), (.ref ad10), (.ref ad10)])) _
    refine XS.dconst0 X10.here hx rfl (hb hby at_117) rfl ?_
    show Steps p.tables e below (T10.setTop (mkF m 118 #[.val (.int p1), .val (.int p2), .val (.int p3), .val (.int p4), .val (.long (lw_lo p1 p2 p3 p4)), .second, .val (.long (lw_hi p1 p2 p3 p4)), .second, .val (.long (lw_off p1 p2 p3 p4)), .second, .val (.int (lw_m p1 p2 p3 p4)), .val (.long (lw_xl p1 p2 p3 p4)), .second, .val (.int (lw_half p1 p2 p3 p4)), .val (.double (lw_x p1 p2 p3 p4)), .second, .val (.ref ad8), .unset, .unset] [(.double (0 : UInt64)), (.ref ad8), (.double (0 : UInt64)), (.double (0 : UInt64)), (.double (0 : UInt64)), (.double (0 : UInt64)), (.double (0 : UInt64)), (.double (0 : UInt64)), (.double (0 : UInt64)), (.double (0 : UInt64)), (.double (FP.l2d (lw_hi p1 p2 p3 p4))), (.double (FP.l2d (lw_lo p1 p2 p3 p4))), (.ref ad10), (.ref ad10)])) _
    refine XS.dconst0 X10.here hx rfl (hb hby at_118) rfl ?_
    show Steps p.tables e below (T10.setTop (mkF m 119 #[.val (.int p1), .val (.int p2), .val (.int p3), .val (.int p4), .val (.long (lw_lo p1 p2 p3 p4)), .second, .val (.long (lw_hi p1 p2 p3 p4)), .second, .val (.long (lw_off p1 p2 p3 p4)), .second, .val (.int (lw_m p1 p2 p3 p4)), .val (.long (lw_xl p1 p2 p3 p4)), .second, .val (.int (lw_half p1 p2 p3 p4)), .val (.double (lw_x p1 p2 p3 p4)), .second, .val (.ref ad8), .unset, .unset] [(.double (0 : UInt64)), (.double (0 : UInt64)), (.ref ad8), (.double (0 : UInt64)), (.double (0 : UInt64)), (.double (0 : UInt64)), (.double (0 : UInt64)), (.double (0 : UInt64)), (.double (0 : UInt64)), (.double (0 : UInt64)), (.double (0 : UInt64)), (.double (FP.l2d (lw_hi p1 p2 p3 p4))), (.double (FP.l2d (lw_lo p1 p2 p3 p4))), (.ref ad10), (.ref ad10)])) _
    refine XS.dconst0 X10.here hx rfl (hb hby at_119) rfl ?_
    show Steps p.tables e below (T10.setTop (mkF m 120 #[.val (.int p1), .val (.int p2), .val (.int p3), .val (.int p4), .val (.long (lw_lo p1 p2 p3 p4)), .second, .val (.long (lw_hi p1 p2 p3 p4)), .second, .val (.long (lw_off p1 p2 p3 p4)), .second, .val (.int (lw_m p1 p2 p3 p4)), .val (.long (lw_xl p1 p2 p3 p4)), .second, .val (.int (lw_half p1 p2 p3 p4)), .val (.double (lw_x p1 p2 p3 p4)), .second, .val (.ref ad8), .unset, .unset] [(.double (0 : UInt64)), (.double (0 : UInt64)), (.double (0 : UInt64)), (.ref ad8), (.double (0 : UInt64)), (.double (0 : UInt64)), (.double (0 : UInt64)), (.double (0 : UInt64)), (.double (0 : UInt64)), (.double (0 : UInt64)), (.double (0 : UInt64)), (.double (0 : UInt64)), (.double (FP.l2d (lw_hi p1 p2 p3 p4))), (.double (FP.l2d (lw_lo p1 p2 p3 p4))), (.ref ad10), (.ref ad10)])) _
    refine XS.dconst0 X10.here hx rfl (hb hby at_120) rfl ?_
    show Steps p.tables e below (T10.setTop (mkF m 121 #[.val (.int p1), .val (.int p2), .val (.int p3), .val (.int p4), .val (.long (lw_lo p1 p2 p3 p4)), .second, .val (.long (lw_hi p1 p2 p3 p4)), .second, .val (.long (lw_off p1 p2 p3 p4)), .second, .val (.int (lw_m p1 p2 p3 p4)), .val (.long (lw_xl p1 p2 p3 p4)), .second, .val (.int (lw_half p1 p2 p3 p4)), .val (.double (lw_x p1 p2 p3 p4)), .second, .val (.ref ad8), .unset, .unset] [(.double (0 : UInt64)), (.double (0 : UInt64)), (.double (0 : UInt64)), (.double (0 : UInt64)), (.ref ad8), (.double (0 : UInt64)), (.double (0 : UInt64)), (.double (0 : UInt64)), (.double (0 : UInt64)), (.double (0 : UInt64)), (.double (0 : UInt64)), (.double (0 : UInt64)), (.double (0 : UInt64)), (.double (FP.l2d (lw_hi p1 p2 p3 p4))), (.double (FP.l2d (lw_lo p1 p2 p3 p4))), (.ref ad10), (.ref ad10)])) _
    refine XS.dconst0 X10.here hx rfl (hb hby at_121) rfl ?_
    show Steps p.tables e below (T10.setTop (mkF m 122 #[.val (.int p1), .val (.int p2), .val (.int p3), .val (.int p4), .val (.long (lw_lo p1 p2 p3 p4)), .second, .val (.long (lw_hi p1 p2 p3 p4)), .second, .val (.long (lw_off p1 p2 p3 p4)), .second, .val (.int (lw_m p1 p2 p3 p4)), .val (.long (lw_xl p1 p2 p3 p4)), .second, .val (.int (lw_half p1 p2 p3 p4)), .val (.double (lw_x p1 p2 p3 p4)), .second, .val (.ref ad8), .unset, .unset] [(.double (0 : UInt64)), (.double (0 : UInt64)), (.double (0 : UInt64)), (.double (0 : UInt64)), (.double (0 : UInt64)), (.ref ad8), (.double (0 : UInt64)), (.double (0 : UInt64)), (.double (0 : UInt64)), (.double (0 : UInt64)), (.double (0 : UInt64)), (.double (0 : UInt64)), (.double (0 : UInt64)), (.double (0 : UInt64)), (.double (FP.l2d (lw_hi p1 p2 p3 p4))), (.double (FP.l2d (lw_lo p1 p2 p3 p4))), (.ref ad10), (.ref ad10)])) _
    refine XS.dconst0 X10.here hx rfl (hb hby at_122) rfl ?_
    show Steps p.tables e below (T10.setTop (mkF m 123 #[.val (.int p1), .val (.int p2), .val (.int p3), .val (.int p4), .val (.long (lw_lo p1 p2 p3 p4)), .second, .val (.long (lw_hi p1 p2 p3 p4)), .second, .val (.long (lw_off p1 p2 p3 p4)), .second, .val (.int (lw_m p1 p2 p3 p4)), .val (.long (lw_xl p1 p2 p3 p4)), .second, .val (.int (lw_half p1 p2 p3 p4)), .val (.double (lw_x p1 p2 p3 p4)), .second, .val (.ref ad8), .unset, .unset] [(.double (0 : UInt64)), (.double (0 : UInt64)), (.double (0 : UInt64)), (.double (0 : UInt64)), (.double (0 : UInt64)), (.double (0 : UInt64)), (.ref ad8), (.double (0 : UInt64)), (.double (0 : UInt64)), (.double (0 : UInt64)), (.double (0 : UInt64)), (.double (0 : UInt64)), (.double (0 : UInt64)), (.double (0 : UInt64)), (.double (0 : UInt64)), (.double (FP.l2d (lw_hi p1 p2 p3 p4))), (.double (FP.l2d (lw_lo p1 p2 p3 p4))), (.ref ad10), (.ref ad10)])) _
    refine XS.dconst0 X10.here hx rfl (hb hby at_123) rfl ?_
    show Steps p.tables e below (T10.setTop (mkF m 124 #[.val (.int p1), .val (.int p2), .val (.int p3), .val (.int p4), .val (.long (lw_lo p1 p2 p3 p4)), .second, .val (.long (lw_hi p1 p2 p3 p4)), .second, .val (.long (lw_off p1 p2 p3 p4)), .second, .val (.int (lw_m p1 p2 p3 p4)), .val (.long (lw_xl p1 p2 p3 p4)), .second, .val (.int (lw_half p1 p2 p3 p4)), .val (.double (lw_x p1 p2 p3 p4)), .second, .val (.ref ad8), .unset, .unset] [(.double (0 : UInt64)), (.double (0 : UInt64)), (.double (0 : UInt64)), (.double (0 : UInt64)), (.double (0 : UInt64)), (.double (0 : UInt64)), (.double (0 : UInt64)), (.ref ad8), (.double (0 : UInt64)), (.double (0 : UInt64)), (.double (0 : UInt64)), (.double (0 : UInt64)), (.double (0 : UInt64)), (.double (0 : UInt64)), (.double (0 : UInt64)), (.double (0 : UInt64)), (.double (FP.l2d (lw_hi p1 p2 p3 p4))), (.double (FP.l2d (lw_lo p1 p2 p3 p4))), (.ref ad10), (.ref ad10)])) _
    refine XS.dconst0 X10.here hx rfl (hb hby at_124) rfl ?_
    show Steps p.tables e below (T10.setTop (mkF m 125 #[.val (.int p1), .val (.int p2), .val (.int p3), .val (.int p4), .val (.long (lw_lo p1 p2 p3 p4)), .second, .val (.long (lw_hi p1 p2 p3 p4)), .second, .val (.long (lw_off p1 p2 p3 p4)), .second, .val (.int (lw_m p1 p2 p3 p4)), .val (.long (lw_xl p1 p2 p3 p4)), .second, .val (.int (lw_half p1 p2 p3 p4)), .val (.double (lw_x p1 p2 p3 p4)), .second, .val (.ref ad8), .unset, .unset] [(.double (0 : UInt64)), (.double (0 : UInt64)), (.double (0 : UInt64)), (.double (0 : UInt64)), (.double (0 : UInt64)), (.double (0 : UInt64)), (.double (0 : UInt64)), (.double (0 : UInt64)), (.ref ad8), (.double (0 : UInt64)), (.double (0 : UInt64)), (.double (0 : UInt64)), (.double (0 : UInt64)), (.double (0 : UInt64)), (.double (0 : UInt64)), (.double (0 : UInt64)), (.double (0 : UInt64)), (.double (FP.l2d (lw_hi p1 p2 p3 p4))), (.double (FP.l2d (lw_lo p1 p2 p3 p4))), (.ref ad10), (.ref ad10)])) _
    refine XS.dconst0 X10.here hx rfl (hb hby at_125) rfl ?_
    show Steps p.tables e below (T10.setTop (mkF m 126 #[.val (.int p1), .val (.int p2), .val (.int p3), .val (.int p4), .val (.long (lw_lo p1 p2 p3 p4)), .second, .val (.long (lw_hi p1 p2 p3 p4)), .second, .val (.long (lw_off p1 p2 p3 p4)), .second, .val (.int (lw_m p1 p2 p3 p4)), .val (.long (lw_xl p1 p2 p3 p4)), .second, .val (.int (lw_half p1 p2 p3 p4)), .val (.double (lw_x p1 p2 p3 p4)), .second, .val (.ref ad8), .unset, .unset] [(.double (0 : UInt64)), (.double (0 : UInt64)), (.double (0 : UInt64)), (.double (0 : UInt64)), (.double (0 : UInt64)), (.double (0 : UInt64)), (.double (0 : UInt64)), (.double (0 : UInt64)), (.double (0 : UInt64)), (.ref ad8), (.double (0 : UInt64)), (.double (0 : UInt64)), (.double (0 : UInt64)), (.double (0 : UInt64)), (.double (0 : UInt64)), (.double (0 : UInt64)), (.double (0 : UInt64)), (.double (0 : UInt64)), (.double (FP.l2d (lw_hi p1 p2 p3 p4))), (.double (FP.l2d (lw_lo p1 p2 p3 p4))), (.ref ad10), (.ref ad10)])) _
    refine XS.dconst0 X10.here hx rfl (hb hby at_126) rfl ?_
    show Steps p.tables e below (T10.setTop (mkF m 127 #[.val (.int p1), .val (.int p2), .val (.int p3), .val (.int p4), .val (.long (lw_lo p1 p2 p3 p4)), .second, .val (.long (lw_hi p1 p2 p3 p4)), .second, .val (.long (lw_off p1 p2 p3 p4)), .second, .val (.int (lw_m p1 p2 p3 p4)), .val (.long (lw_xl p1 p2 p3 p4)), .second, .val (.int (lw_half p1 p2 p3 p4)), .val (.double (lw_x p1 p2 p3 p4)), .second, .val (.ref ad8), .unset, .unset] [(.double (0 : UInt64)), (.double (0 : UInt64)), (.double (0 : UInt64)), (.double (0 : UInt64)), (.double (0 : UInt64)), (.double (0 : UInt64)), (.double (0 : UInt64)), (.double (0 : UInt64)), (.double (0 : UInt64)), (.double (0 : UInt64)), (.ref ad8), (.double (0 : UInt64)), (.double (0 : UInt64)), (.double (0 : UInt64)), (.double (0 : UInt64)), (.double (0 : UInt64)), (.double (0 : UInt64)), (.double (0 : UInt64)), (.double (0 : UInt64)), (.double (FP.l2d (lw_hi p1 p2 p3 p4))), (.double (FP.l2d (lw_lo p1 p2 p3 p4))), (.ref ad10), (.ref ad10)])) _
    refine XS.dconst0 X10.here hx rfl (hb hby at_127) rfl ?_
    show Steps p.tables e below (T10.setTop (mkF m 128 #[.val (.int p1), .val (.int p2), .val (.int p3), .val (.int p4), .val (.long (lw_lo p1 p2 p3 p4)), .second, .val (.long (lw_hi p1 p2 p3 p4)), .second, .val (.long (lw_off p1 p2 p3 p4)), .second, .val (.int (lw_m p1 p2 p3 p4)), .val (.long (lw_xl p1 p2 p3 p4)), .second, .val (.int (lw_half p1 p2 p3 p4)), .val (.double (lw_x p1 p2 p3 p4)), .second, .val (.ref ad8), .unset, .unset] [(.double (0 : UInt64)), (.double (0 : UInt64)), (.double (0 : UInt64)), (.double (0 : UInt64)), (.double (0 : UInt64)), (.double (0 : UInt64)), (.double (0 : UInt64)), (.double (0 : UInt64)), (.double (0 : UInt64)), (.double (0 : UInt64)), (.double (0 : UInt64)), (.ref ad8), (.double (0 : UInt64)), (.double (0 : UInt64)), (.double (0 : UInt64)), (.double (0 : UInt64)), (.double (0 : UInt64)), (.double (0 : UInt64)), (.double (0 : UInt64)), (.double (0 : UInt64)), (.double (FP.l2d (lw_hi p1 p2 p3 p4))), (.double (FP.l2d (lw_lo p1 p2 p3 p4))), (.ref ad10), (.ref ad10)])) _
    refine XS.dconst0 X10.here hx rfl (hb hby at_128) rfl ?_
    show Steps p.tables e below (T10.setTop (mkF m 129 #[.val (.int p1), .val (.int p2), .val (.int p3), .val (.int p4), .val (.long (lw_lo p1 p2 p3 p4)), .second, .val (.long (lw_hi p1 p2 p3 p4)), .second, .val (.long (lw_off p1 p2 p3 p4)), .second, .val (.int (lw_m p1 p2 p3 p4)), .val (.long (lw_xl p1 p2 p3 p4)), .second, .val (.int (lw_half p1 p2 p3 p4)), .val (.double (lw_x p1 p2 p3 p4)), .second, .val (.ref ad8), .unset, .unset] [(.double (0 : UInt64)), (.double (0 : UInt64)), (.double (0 : UInt64)), (.double (0 : UInt64)), (.double (0 : UInt64)), (.double (0 : UInt64)), (.double (0 : UInt64)), (.double (0 : UInt64)), (.double (0 : UInt64)), (.double (0 : UInt64)), (.double (0 : UInt64)), (.double (0 : UInt64)), (.ref ad8), (.double (0 : UInt64)), (.double (0 : UInt64)), (.double (0 : UInt64)), (.double (0 : UInt64)), (.double (0 : UInt64)), (.double (0 : UInt64)), (.double (0 : UInt64)), (.double (0 : UInt64)), (.double (FP.l2d (lw_hi p1 p2 p3 p4))), (.double (FP.l2d (lw_lo p1 p2 p3 p4))), (.ref ad10), (.ref ad10)])) _
    refine XS.iconst X10.here hx rfl (hb hby at_129) ?_
    show Steps p.tables e below (T10.setTop (mkF m 130 #[.val (.int p1), .val (.int p2), .val (.int p3), .val (.int p4), .val (.long (lw_lo p1 p2 p3 p4)), .second, .val (.long (lw_hi p1 p2 p3 p4)), .second, .val (.long (lw_off p1 p2 p3 p4)), .second, .val (.int (lw_m p1 p2 p3 p4)), .val (.long (lw_xl p1 p2 p3 p4)), .second, .val (.int (lw_half p1 p2 p3 p4)), .val (.double (lw_x p1 p2 p3 p4)), .second, .val (.ref ad8), .unset, .unset] [(.int (0 : Int32)), (.double (0 : UInt64)), (.double (0 : UInt64)), (.double (0 : UInt64)), (.double (0 : UInt64)), (.double (0 : UInt64)), (.double (0 : UInt64)), (.double (0 : UInt64)), (.double (0 : UInt64)), (.double (0 : UInt64)), (.double (0 : UInt64)), (.double (0 : UInt64)), (.double (0 : UInt64)), (.ref ad8), (.double (0 : UInt64)), (.double (0 : UInt64)), (.double (0 : UInt64)), (.double (0 : UInt64)), (.double (0 : UInt64)), (.double (0 : UInt64)), (.double (0 : UInt64)), (.double (0 : UInt64)), (.double (FP.l2d (lw_hi p1 p2 p3 p4))), (.double (FP.l2d (lw_lo p1 p2 p3 p4))), (.ref ad10), (.ref ad10)])) _
    refine XS.iconst X10.here hx rfl (hb hby at_130) ?_
    show Steps p.tables e below (T10.setTop (mkF m 131 #[.val (.int p1), .val (.int p2), .val (.int p3), .val (.int p4), .val (.long (lw_lo p1 p2 p3 p4)), .second, .val (.long (lw_hi p1 p2 p3 p4)), .second, .val (.long (lw_off p1 p2 p3 p4)), .second, .val (.int (lw_m p1 p2 p3 p4)), .val (.long (lw_xl p1 p2 p3 p4)), .second, .val (.int (lw_half p1 p2 p3 p4)), .val (.double (lw_x p1 p2 p3 p4)), .second, .val (.ref ad8), .unset, .unset] [(.int (0 : Int32)), (.int (0 : Int32)), (.double (0 : UInt64)), (.double (0 : UInt64)), (.double (0 : UInt64)), (.double (0 : UInt64)), (.double (0 : UInt64)), (.double (0 : UInt64)), (.double (0 : UInt64)), (.double (0 : UInt64)), (.double (0 : UInt64)), (.double (0 : UInt64)), (.double (0 : UInt64)), (.double (0 : UInt64)), (.ref ad8), (.double (0 : UInt64)), (.double (0 : UInt64)), (.double (0 : UInt64)), (.double (0 : UInt64)), (.double (0 : UInt64)), (.double (0 : UInt64)), (.double (0 : UInt64)), (.double (0 : UInt64)), (.double (FP.l2d (lw_hi p1 p2 p3 p4))), (.double (FP.l2d (lw_lo p1 p2 p3 p4))), (.ref ad10), (.ref ad10)])) _
    refine XS.dconst0 X10.here hx rfl (hb hby at_131) rfl ?_
    show Steps p.tables e below (T10.setTop (mkF m 132 #[.val (.int p1), .val (.int p2), .val (.int p3), .val (.int p4), .val (.long (lw_lo p1 p2 p3 p4)), .second, .val (.long (lw_hi p1 p2 p3 p4)), .second, .val (.long (lw_off p1 p2 p3 p4)), .second, .val (.int (lw_m p1 p2 p3 p4)), .val (.long (lw_xl p1 p2 p3 p4)), .second, .val (.int (lw_half p1 p2 p3 p4)), .val (.double (lw_x p1 p2 p3 p4)), .second, .val (.ref ad8), .unset, .unset] [(.double (0 : UInt64)), (.int (0 : Int32)), (.int (0 : Int32)), (.double (0 : UInt64)), (.double (0 : UInt64)), (.double (0 : UInt64)), (.double (0 : UInt64)), (.double (0 : UInt64)), (.double (0 : UInt64)), (.double (0 : UInt64)), (.double (0 : UInt64)), (.double (0 : UInt64)), (.double (0 : UInt64)), (.double (0 : UInt64)), (.double (0 : UInt64)), (.ref ad8), (.double (0 : UInt64)), (.double (0 : UInt64)), (.double (0 : UInt64)), (.double (0 : UInt64)), (.double (0 : UInt64)), (.double (0 : UInt64)), (.double (0 : UInt64)), (.double (0 : UInt64)), (.double (FP.l2d (lw_hi p1 p2 p3 p4))), (.double (FP.l2d (lw_lo p1 p2 p3 p4))), (.ref ad10), (.ref ad10)])) _
    refine XS.dconst0 X10.here hx rfl (hb hby at_132) rfl ?_
    show Steps p.tables e below (T10.setTop (mkF m 133 #[.val (.int p1), .val (.int p2), .val (.int p3), .val (.int p4), .val (.long (lw_lo p1 p2 p3 p4)), .second, .val (.long (lw_hi p1 p2 p3 p4)), .second, .val (.long (lw_off p1 p2 p3 p4)), .second, .val (.int (lw_m p1 p2 p3 p4)), .val (.long (lw_xl p1 p2 p3 p4)), .second, .val (.int (lw_half p1 p2 p3 p4)), .val (.double (lw_x p1 p2 p3 p4)), .second, .val (.ref ad8), .unset, .unset] [(.double (0 : UInt64)), (.double (0 : UInt64)), (.int (0 : Int32)), (.int (0 : Int32)), (.double (0 : UInt64)), (.double (0 : UInt64)), (.double (0 : UInt64)), (.double (0 : UInt64)), (.double (0 : UInt64)), (.double (0 : UInt64)), (.double (0 : UInt64)), (.double (0 : UInt64)), (.double (0 : UInt64)), (.double (0 : UInt64)), (.double (0 : UInt64)), (.double (0 : UInt64)), (.ref ad8), (.double (0 : UInt64)), (.double (0 : UInt64)), (.double (0 : UInt64)), (.double (0 : UInt64)), (.double (0 : UInt64)), (.double (0 : UInt64)), (.double (0 : UInt64)), (.double (0 : UInt64)), (.double (FP.l2d (lw_hi p1 p2 p3 p4))), (.double (FP.l2d (lw_lo p1 p2 p3 p4))), (.ref ad10), (.ref ad10)])) _
    refine XS.dconst0 X10.here hx rfl (hb hby at_133) rfl ?_
    show Steps p.tables e below (T10.setTop (mkF m 134 #[.val (.int p1), .val (.int p2), .val (.int p3), .val (.int p4), .val (.long (lw_lo p1 p2 p3 p4)), .second, .val (.long (lw_hi p1 p2 p3 p4)), .second, .val (.long (lw_off p1 p2 p3 p4)), .second, .val (.int (lw_m p1 p2 p3 p4)), .val (.long (lw_xl p1 p2 p3 p4)), .second, .val (.int (lw_half p1 p2 p3 p4)), .val (.double (lw_x p1 p2 p3 p4)), .second, .val (.ref ad8), .unset, .unset] [(.double (0 : UInt64)), (.double (0 : UInt64)), (.double (0 : UInt64)), (.int (0 : Int32)), (.int (0 : Int32)), (.double (0 : UInt64)), (.double (0 : UInt64)), (.double (0 : UInt64)), (.double (0 : UInt64)), (.double (0 : UInt64)), (.double (0 : UInt64)), (.double (0 : UInt64)), (.double (0 : UInt64)), (.double (0 : UInt64)), (.double (0 : UInt64)), (.double (0 : UInt64)), (.double (0 : UInt64)), (.ref ad8), (.double (0 : UInt64)), (.double (0 : UInt64)), (.double (0 : UInt64)), (.double (0 : UInt64)), (.double (0 : UInt64)), (.double (0 : UInt64)), (.double (0 : UInt64)), (.double (0 : UInt64)), (.double (FP.l2d (lw_hi p1 p2 p3 p4))), (.double (FP.l2d (lw_lo p1 p2 p3 p4))), (.ref ad10), (.ref ad10)])) _
    refine st15.trans ?_
    show Steps p.tables e below (T15.setTop (mkF m 137 #[.val (.int p1), .val (.int p2), .val (.int p3), .val (.int p4), .val (.long (lw_lo p1 p2 p3 p4)), .second, .val (.long (lw_hi p1 p2 p3 p4)), .second, .val (.long (lw_off p1 p2 p3 p4)), .second, .val (.int (lw_m p1 p2 p3 p4)), .val (.long (lw_xl p1 p2 p3 p4)), .second, .val (.int (lw_half p1 p2 p3 p4)), .val (.double (lw_x p1 p2 p3 p4)), .second, .val (.ref ad8), .unset, .unset] [(.ref ad10)])) _
    refine XS.astore X15.here hx rfl (hb hby at_137) rfl rfl (l' := #[.val (.int p1), .val (.int p2), .val (.int p3), .val (.int p4), .val (.long (lw_lo p1 p2 p3 p4)), .second, .val (.long (lw_hi p1 p2 p3 p4)), .second, .val (.long (lw_off p1 p2 p3 p4)), .second, .val (.int (lw_m p1 p2 p3 p4)), .val (.long (lw_xl p1 p2 p3 p4)), .second, .val (.int (lw_half p1 p2 p3 p4)), .val (.double (lw_x p1 p2 p3 p4)), .second, .val (.ref ad8), .val (.ref ad10), .unset]) rfl ?_
    show Steps p.tables e below (T15.setTop (mkF m 139 #[.val (.int p1), .val (.int p2), .val (.int p3), .val (.int p4), .val (.long (lw_lo p1 p2 p3 p4)), .second, .val (.long (lw_hi p1 p2 p3 p4)), .second, .val (.long (lw_off p1 p2 p3 p4)), .second, .val (.int (lw_m p1 p2 p3 p4)), .val (.long (lw_xl p1 p2 p3 p4)), .second, .val (.int (lw_half p1 p2 p3 p4)), .val (.double (lw_x p1 p2 p3 p4)), .second, .val (.ref ad8), .val (.ref ad10), .unset] [])) _
    refine XS.iload X15.here hx rfl (hb hby at_139) rfl ?_
    show Steps p.tables e below (T15.setTop (mkF m 141 #[.val (.int p1), .val (.int p2), .val (.int p3), .val (.int p4), .val (.long (lw_lo p1 p2 p3 p4)), .second, .val (.long (lw_hi p1 p2 p3 p4)), .second, .val (.long (lw_off p1 p2 p3 p4)), .second, .val (.int (lw_m p1 p2 p3 p4)), .val (.long (lw_xl p1 p2 p3 p4)), .second, .val (.int (lw_half p1 p2 p3 p4)), .val (.double (lw_x p1 p2 p3 p4)), .second, .val (.ref ad8), .val (.ref ad10), .unset] [(.int (lw_half p1 p2 p3 p4))])) _
    have sg20 : ∀ t, Steps p.tables e below (T15.setTop (mkF m 193 #[.val (.int p1), .val (.int p2), .val (.int p3), .val (.int p4), .val (.long (lw_lo p1 p2 p3 p4)), .second, .val (.long (lw_hi p1 p2 p3 p4)), .second, .val (.long (lw_off p1 p2 p3 p4)), .second, .val (.int (lw_m p1 p2 p3 p4)), .val (.long (lw_xl p1 p2 p3 p4)), .second, .val (.int (lw_half p1 p2 p3 p4)), .val (.double (lw_x p1 p2 p3 p4)), .second, .val (.ref ad8), .val (.ref ad10), .val (.int (lw_exp p1 p2 p3 p4))] [])) t → Steps p.tables e below (T15.setTop (mkF m 141 #[.val (.int p1), .val (.int p2), .val (.int p3), .val (.int p4), .val (.long (lw_lo p1 p2 p3 p4)), .second, .val (.long (lw_hi p1 p2 p3 p4)), .second, .val (.long (lw_off p1 p2 p3 p4)), .second, .val (.int (lw_m p1 p2 p3 p4)), .val (.long (lw_xl p1 p2 p3 p4)), .second, .val (.int (lw_half p1 p2 p3 p4)), .val (.double (lw_x p1 p2 p3 p4)), .second, .val (.ref ad8), .val (.ref ad10), .unset] [(.int (lw_half p1 p2 p3 p4))])) t := by
      intro t k
      by_cases c21 : (ifCond.holds .eq (lw_half p1 p2 p3 p4)) = true
      · refine XS.ifYes X15.here hx rfl (pc0 := 141) (pc' := 170) rfl (hb hby at_141) rfl c21 (by decide) (by decide) ?_
        show Steps p.tables e below (T15.setTop (mkF m 170 #[.val (.int p1), .val (.int p2), .val (.int p3), .val (.int p4), .val (.long (lw_lo p1 p2 p3 p4)), .second, .val (.long (lw_hi p1 p2 p3 p4)), .second, .val (.long (lw_off p1 p2 p3 p4)), .second, .val (.int (lw_m p1 p2 p3 p4)), .val (.long (lw_xl p1 p2 p3 p4)), .second, .val (.int (lw_half p1 p2 p3 p4)), .val (.double (lw_x p1 p2 p3 p4)), .second, .val (.ref ad8), .val (.ref ad10), .unset] [])) t
        refine XT.lload X15.here hx rfl (hb hby at_170) rfl ?_
        show Steps p.tables e below (T15.setTop (mkF m 172 #[.val (.int p1), .val (.int p2), .val (.int p3), .val (.int p4), .val (.long (lw_lo p1 p2 p3 p4)), .second, .val (.long (lw_hi p1 p2 p3 p4)), .second, .val (.long (lw_off p1 p2 p3 p4)), .second, .val (.int (lw_m p1 p2 p3 p4)), .val (.long (lw_xl p1 p2 p3 p4)), .second, .val (.int (lw_half p1 p2 p3 p4)), .val (.double (lw_x p1 p2 p3 p4)), .second, .val (.ref ad8), .val (.ref ad10), .unset] [(.long (lw_lo p1 p2 p3 p4))])) t
        refine XT.lload X15.here hx rfl (hb hby at_172) rfl ?_
        show Steps p.tables e below (T15.setTop (mkF m 174 #[.val (.int p1), .val (.int p2), .val (.int p3), .val (.int p4), .val (.long (lw_lo p1 p2 p3 p4)), .second, .val (.long (lw_hi p1 p2 p3 p4)), .second, .val (.long (lw_off p1 p2 p3 p4)), .second, .val (.int (lw_m p1 p2 p3 p4)), .val (.long (lw_xl p1 p2 p3 p4)), .second, .val (.int (lw_half p1 p2 p3 p4)), .val (.double (lw_x p1 p2 p3 p4)), .second, .val (.ref ad8), .val (.ref ad10), .unset] [(.long (lw_xl p1 p2 p3 p4)), (.long (lw_lo p1 p2 p3 p4))])) t
        refine XT.lcmp X15.here hx rfl (hb hby at_174) rfl ?_
        show Steps p.tables e below (T15.setTop (mkF m 175 #[.val (.int p1), .val (.int p2), .val (.int p3), .val (.int p4), .val (.long (lw_lo p1 p2 p3 p4)), .second, .val (.long (lw_hi p1 p2 p3 p4)), .second, .val (.long (lw_off p1 p2 p3 p4)), .second, .val (.int (lw_m p1 p2 p3 p4)), .val (.long (lw_xl p1 p2 p3 p4)), .second, .val (.int (lw_half p1 p2 p3 p4)), .val (.double (lw_x p1 p2 p3 p4)), .second, .val (.ref ad8), .val (.ref ad10), .unset] [(.int (XT.cmpL (lw_lo p1 p2 p3 p4) (lw_xl p1 p2 p3 p4)))])) t
        by_cases c22 : (ifCond.holds .gt (XT.cmpL (lw_lo p1 p2 p3 p4) (lw_xl p1 p2 p3 p4))) = true
        · refine XS.ifYes X15.here hx rfl (pc0 := 175) (pc' := 190) rfl (hb hby at_175) rfl c22 (by decide) (by decide) ?_
          show Steps p.tables e below (T15.setTop (mkF m 190 #[.val (.int p1), .val (.int p2), .val (.int p3), .val (.int p4), .val (.long (lw_lo p1 p2 p3 p4)), .second, .val (.long (lw_hi p1 p2 p3 p4)), .second, .val (.long (lw_off p1 p2 p3 p4)), .second, .val (.int (lw_m p1 p2 p3 p4)), .val (.long (lw_xl p1 p2 p3 p4)), .second, .val (.int (lw_half p1 p2 p3 p4)), .val (.double (lw_x p1 p2 p3 p4)), .second, .val (.ref ad8), .val (.ref ad10), .unset] [])) t
          refine XS.iconst X15.here hx rfl (hb hby at_190) ?_
          show Steps p.tables e below (T15.setTop (mkF m 191 #[.val (.int p1), .val (.int p2), .val (.int p3), .val (.int p4), .val (.long (lw_lo p1 p2 p3 p4)), .second, .val (.long (lw_hi p1 p2 p3 p4)), .second, .val (.long (lw_off p1 p2 p3 p4)), .second, .val (.int (lw_m p1 p2 p3 p4)), .val (.long (lw_xl p1 p2 p3 p4)), .second, .val (.int (lw_half p1 p2 p3 p4)), .val (.double (lw_x p1 p2 p3 p4)), .second, .val (.ref ad8), .val (.ref ad10), .unset] [(.int (0 : Int32))])) t
          refine XS.istore X15.here hx rfl (hb hby at_191) rfl (l' := #[.val (.int p1), .val (.int p2), .val (.int p3), .val (.int p4), .val (.long (lw_lo p1 p2 p3 p4)), .second, .val (.long (lw_hi p1 p2 p3 p4)), .second, .val (.long (lw_off p1 p2 p3 p4)), .second, .val (.int (lw_m p1 p2 p3 p4)), .val (.long (lw_xl p1 p2 p3 p4)), .second, .val (.int (lw_half p1 p2 p3 p4)), .val (.double (lw_x p1 p2 p3 p4)), .second, .val (.ref ad8), .val (.ref ad10), .val (.int (0 : Int32))]) rfl ?_
          show Steps p.tables e below (T15.setTop (mkF m 193 #[.val (.int p1), .val (.int p2), .val (.int p3), .val (.int p4), .val (.long (lw_lo p1 p2 p3 p4)), .second, .val (.long (lw_hi p1 p2 p3 p4)), .second, .val (.long (lw_off p1 p2 p3 p4)), .second, .val (.int (lw_m p1 p2 p3 p4)), .val (.long (lw_xl p1 p2 p3 p4)), .second, .val (.int (lw_half p1 p2 p3 p4)), .val (.double (lw_x p1 p2 p3 p4)), .second, .val (.ref ad8), .val (.ref ad10), .val (.int (0 : Int32))] [])) t
          have q : (lw_exp p1 p2 p3 p4) = (0 : Int32) := by simp only [lw_exp, c21, c22, if_true, if_false, Bool.false_eq_true]; try rfl
          rw [q] at k
          clear q
          exact k
        · refine XS.ifNo X15.here hx rfl (hb hby at_175) rfl (Bool.eq_false_iff.mpr c22) ?_
          show Steps p.tables e below (T15.setTop (mkF m 178 #[.val (.int p1), .val (.int p2), .val (.int p3), .val (.int p4), .val (.long (lw_lo p1 p2 p3 p4)), .second, .val (.long (lw_hi p1 p2 p3 p4)), .second, .val (.long (lw_off p1 p2 p3 p4)), .second, .val (.int (lw_m p1 p2 p3 p4)), .val (.long (lw_xl p1 p2 p3 p4)), .second, .val (.int (lw_half p1 p2 p3 p4)), .val (.double (lw_x p1 p2 p3 p4)), .second, .val (.ref ad8), .val (.ref ad10), .unset] [])) t
          refine XT.lload X15.here hx rfl (hb hby at_178) rfl ?_
          show Steps p.tables e below (T15.setTop (mkF m 180 #[.val (.int p1), .val (.int p2), .val (.int p3), .val (.int p4), .val (.long (lw_lo p1 p2 p3 p4)), .second, .val (.long (lw_hi p1 p2 p3 p4)), .second, .val (.long (lw_off p1 p2 p3 p4)), .second, .val (.int (lw_m p1 p2 p3 p4)), .val (.long (lw_xl p1 p2 p3 p4)), .second, .val (.int (lw_half p1 p2 p3 p4)), .val (.double (lw_x p1 p2 p3 p4)), .second, .val (.ref ad8), .val (.ref ad10), .unset] [(.long (lw_xl p1 p2 p3 p4))])) t
          refine XT.lload X15.here hx rfl (hb hby at_180) rfl ?_
          show Steps p.tables e below (T15.setTop (mkF m 182 #[.val (.int p1), .val (.int p2), .val (.int p3), .val (.int p4), .val (.long (lw_lo p1 p2 p3 p4)), .second, .val (.long (lw_hi p1 p2 p3 p4)), .second, .val (.long (lw_off p1 p2 p3 p4)), .second, .val (.int (lw_m p1 p2 p3 p4)), .val (.long (lw_xl p1 p2 p3 p4)), .second, .val (.int (lw_half p1 p2 p3 p4)), .val (.double (lw_x p1 p2 p3 p4)), .second, .val (.ref ad8), .val (.ref ad10), .unset] [(.long (lw_hi p1 p2 p3 p4)), (.long (lw_xl p1 p2 p3 p4))])) t
          refine XT.lcmp X15.here hx rfl (hb hby at_182) rfl ?_
          show Steps p.tables e below (T15.setTop (mkF m 183 #[.val (.int p1), .val (.int p2), .val (.int p3), .val (.int p4), .val (.long (lw_lo p1 p2 p3 p4)), .second, .val (.long (lw_hi p1 p2 p3 p4)), .second, .val (.long (lw_off p1 p2 p3 p4)), .second, .val (.int (lw_m p1 p2 p3 p4)), .val (.long (lw_xl p1 p2 p3 p4)), .second, .val (.int (lw_half p1 p2 p3 p4)), .val (.double (lw_x p1 p2 p3 p4)), .second, .val (.ref ad8), .val (.ref ad10), .unset] [(.int (XT.cmpL (lw_xl p1 p2 p3 p4) (lw_hi p1 p2 p3 p4)))])) t
          by_cases c23 : (ifCond.holds .gt (XT.cmpL (lw_xl p1 p2 p3 p4) (lw_hi p1 p2 p3 p4))) = true
          · refine XS.ifYes X15.here hx rfl (pc0 := 183) (pc' := 190) rfl (hb hby at_183) rfl c23 (by decide) (by decide) ?_
            show Steps p.tables e below (T15.setTop (mkF m 190 #[.val (.int p1), .val (.int p2), .val (.int p3), .val (.int p4), .val (.long (lw_lo p1 p2 p3 p4)), .second, .val (.long (lw_hi p1 p2 p3 p4)), .second, .val (.long (lw_off p1 p2 p3 p4)), .second, .val (.int (lw_m p1 p2 p3 p4)), .val (.long (lw_xl p1 p2 p3 p4)), .second, .val (.int (lw_half p1 p2 p3 p4)), .val (.double (lw_x p1 p2 p3 p4)), .second, .val (.ref ad8), .val (.ref ad10), .unset] [])) t
            refine XS.iconst X15.here hx rfl (hb hby at_190) ?_
            show Steps p.tables e below (T15.setTop (mkF m 191 #[.val (.int p1), .val (.int p2), .val (.int p3), .val (.int p4), .val (.long (lw_lo p1 p2 p3 p4)), .second, .val (.long (lw_hi p1 p2 p3 p4)), .second, .val (.long (lw_off p1 p2 p3 p4)), .second, .val (.int (lw_m p1 p2 p3 p4)), .val (.long (lw_xl p1 p2 p3 p4)), .second, .val (.int (lw_half p1 p2 p3 p4)), .val (.double (lw_x p1 p2 p3 p4)), .second, .val (.ref ad8), .val (.ref ad10), .unset] [(.int (0 : Int32))])) t
            refine XS.istore X15.here hx rfl (hb hby at_191) rfl (l' := #[.val (.int p1), .val (.int p2), .val (.int p3), .val (.int p4), .val (.long (lw_lo p1 p2 p3 p4)), .second, .val (.long (lw_hi p1 p2 p3 p4)), .second, .val (.long (lw_off p1 p2 p3 p4)), .second, .val (.int (lw_m p1 p2 p3 p4)), .val (.long (lw_xl p1 p2 p3 p4)), .second, .val (.int (lw_half p1 p2 p3 p4)), .val (.double (lw_x p1 p2 p3 p4)), .second, .val (.ref ad8), .val (.ref ad10), .val (.int (0 : Int32))]) rfl ?_
            show Steps p.tables e below (T15.setTop (mkF m 193 #[.val (.int p1), .val (.int p2), .val (.int p3), .val (.int p4), .val (.long (lw_lo p1 p2 p3 p4)), .second, .val (.long (lw_hi p1 p2 p3 p4)), .second, .val (.long (lw_off p1 p2 p3 p4)), .second, .val (.int (lw_m p1 p2 p3 p4)), .val (.long (lw_xl p1 p2 p3 p4)), .second, .val (.int (lw_half p1 p2 p3 p4)), .val (.double (lw_x p1 p2 p3 p4)), .second, .val (.ref ad8), .val (.ref ad10), .val (.int (0 : Int32))] [])) t
            have q : (lw_exp p1 p2 p3 p4) = (0 : Int32) := by simp only [lw_exp, c21, c22, c23, if_true, if_false, Bool.false_eq_true]; try rfl
            rw [q] at k
            clear q
            exact k
          · refine XS.ifNo X15.here hx rfl (hb hby at_183) rfl (Bool.eq_false_iff.mpr c23) ?_
            show Steps p.tables e below (T15.setTop (mkF m 186 #[.val (.int p1), .val (.int p2), .val (.int p3), .val (.int p4), .val (.long (lw_lo p1 p2 p3 p4)), .second, .val (.long (lw_hi p1 p2 p3 p4)), .second, .val (.long (lw_off p1 p2 p3 p4)), .second, .val (.int (lw_m p1 p2 p3 p4)), .val (.long (lw_xl p1 p2 p3 p4)), .second, .val (.int (lw_half p1 p2 p3 p4)), .val (.double (lw_x p1 p2 p3 p4)), .second, .val (.ref ad8), .val (.ref ad10), .unset] [])) t
            refine XS.iconst X15.here hx rfl (hb hby at_186) ?_
            show Steps p.tables e below (T15.setTop (mkF m 187 #[.val (.int p1), .val (.int p2), .val (.int p3), .val (.int p4), .val (.long (lw_lo p1 p2 p3 p4)), .second, .val (.long (lw_hi p1 p2 p3 p4)), .second, .val (.long (lw_off p1 p2 p3 p4)), .second, .val (.int (lw_m p1 p2 p3 p4)), .val (.long (lw_xl p1 p2 p3 p4)), .second, .val (.int (lw_half p1 p2 p3 p4)), .val (.double (lw_x p1 p2 p3 p4)), .second, .val (.ref ad8), .val (.ref ad10), .unset] [(.int (1 : Int32))])) t
            refine XS.goto X15.here hx rfl (pc0 := 187) (pc' := 191) rfl (hb hby at_187) (by decide) (by decide) ?_
            show Steps p.tables e below (T15.setTop (mkF m 191 #[.val (.int p1), .val (.int p2), .val (.int p3), .val (.int p4), .val (.long (lw_lo p1 p2 p3 p4)), .second, .val (.long (lw_hi p1 p2 p3 p4)), .second, .val (.long (lw_off p1 p2 p3 p4)), .second, .val (.int (lw_m p1 p2 p3 p4)), .val (.long (lw_xl p1 p2 p3 p4)), .second, .val (.int (lw_half p1 p2 p3 p4)), .val (.double (lw_x p1 p2 p3 p4)), .second, .val (.ref ad8), .val (.ref ad10), .unset] [(.int (1 : Int32))])) t
            refine XS.istore X15.here hx rfl (hb hby at_191) rfl (l' := #[.val (.int p1), .val (.int p2), .val (.int p3), .val (.int p4), .val (.long (lw_lo p1 p2 p3 p4)), .second, .val (.long (lw_hi p1 p2 p3 p4)), .second, .val (.long (lw_off p1 p2 p3 p4)), .second, .val (.int (lw_m p1 p2 p3 p4)), .val (.long (lw_xl p1 p2 p3 p4)), .second, .val (.int (lw_half p1 p2 p3 p4)), .val (.double (lw_x p1 p2 p3 p4)), .second, .val (.ref ad8), .val (.ref ad10), .val (.int (1 : Int32))]) rfl ?_
            show Steps p.tables e below (T15.setTop (mkF m 193 #[.val (.int p1), .val (.int p2), .val (.int p3), .val (.int p4), .val (.long (lw_lo p1 p2 p3 p4)), .second, .val (.long (lw_hi p1 p2 p3 p4)), .second, .val (.long (lw_off p1 p2 p3 p4)), .second, .val (.int (lw_m p1 p2 p3 p4)), .val (.long (lw_xl p1 p2 p3 p4)), .second, .val (.int (lw_half p1 p2 p3 p4)), .val (.double (lw_x p1 p2 p3 p4)), .second, .val (.ref ad8), .val (.ref ad10), .val (.int (1 : Int32))] [])) t
            have q : (lw_exp p1 p2 p3 p4) = (1 : Int32) := by simp only [lw_exp, c21, c22, c23, if_true, if_false, Bool.false_eq_true]; try rfl
            rw [q] at k
            clear q
            exact k
      · refine XS.ifNo X15.here hx rfl (hb hby at_141) rfl (Bool.eq_false_iff.mpr c21) ?_
        show Steps p.tables e below (T15.setTop (mkF m 144 #[.val (.int p1), .val (.int p2), .val (.int p3), .val (.int p4), .val (.long (lw_lo p1 p2 p3 p4)), .second, .val (.long (lw_hi p1 p2 p3 p4)), .second, .val (.long (lw_off p1 p2 p3 p4)), .second, .val (.int (lw_m p1 p2 p3 p4)), .val (.long (lw_xl p1 p2 p3 p4)), .second, .val (.int (lw_half p1 p2 p3 p4)), .val (.double (lw_x p1 p2 p3 p4)), .second, .val (.ref ad8), .val (.ref ad10), .unset] [])) t
        refine XT.lload X15.here hx rfl (hb hby at_144) rfl ?_
        show Steps p.tables e below (T15.setTop (mkF m 146 #[.val (.int p1), .val (.int p2), .val (.int p3), .val (.int p4), .val (.long (lw_lo p1 p2 p3 p4)), .second, .val (.long (lw_hi p1 p2 p3 p4)), .second, .val (.long (lw_off p1 p2 p3 p4)), .second, .val (.int (lw_m p1 p2 p3 p4)), .val (.long (lw_xl p1 p2 p3 p4)), .second, .val (.int (lw_half p1 p2 p3 p4)), .val (.double (lw_x p1 p2 p3 p4)), .second, .val (.ref ad8), .val (.ref ad10), .unset] [(.long (lw_lo p1 p2 p3 p4))])) t
        refine XT.lload X15.here hx rfl (hb hby at_146) rfl ?_
        show Steps p.tables e below (T15.setTop (mkF m 148 #[.val (.int p1), .val (.int p2), .val (.int p3), .val (.int p4), .val (.long (lw_lo p1 p2 p3 p4)), .second, .val (.long (lw_hi p1 p2 p3 p4)), .second, .val (.long (lw_off p1 p2 p3 p4)), .second, .val (.int (lw_m p1 p2 p3 p4)), .val (.long (lw_xl p1 p2 p3 p4)), .second, .val (.int (lw_half p1 p2 p3 p4)), .val (.double (lw_x p1 p2 p3 p4)), .second, .val (.ref ad8), .val (.ref ad10), .unset] [(.long (lw_xl p1 p2 p3 p4)), (.long (lw_lo p1 p2 p3 p4))])) t
        refine XT.lcmp X15.here hx rfl (hb hby at_148) rfl ?_
        show Steps p.tables e below (T15.setTop (mkF m 149 #[.val (.int p1), .val (.int p2), .val (.int p3), .val (.int p4), .val (.long (lw_lo p1 p2 p3 p4)), .second, .val (.long (lw_hi p1 p2 p3 p4)), .second, .val (.long (lw_off p1 p2 p3 p4)), .second, .val (.int (lw_m p1 p2 p3 p4)), .val (.long (lw_xl p1 p2 p3 p4)), .second, .val (.int (lw_half p1 p2 p3 p4)), .val (.double (lw_x p1 p2 p3 p4)), .second, .val (.ref ad8), .val (.ref ad10), .unset] [(.int (XT.cmpL (lw_lo p1 p2 p3 p4) (lw_xl p1 p2 p3 p4)))])) t
        by_cases c24 : (ifCond.holds .gt (XT.cmpL (lw_lo p1 p2 p3 p4) (lw_xl p1 p2 p3 p4))) = true
        · refine XS.ifYes X15.here hx rfl (pc0 := 149) (pc' := 164) rfl (hb hby at_149) rfl c24 (by decide) (by decide) ?_
          show Steps p.tables e below (T15.setTop (mkF m 164 #[.val (.int p1), .val (.int p2), .val (.int p3), .val (.int p4), .val (.long (lw_lo p1 p2 p3 p4)), .second, .val (.long (lw_hi p1 p2 p3 p4)), .second, .val (.long (lw_off p1 p2 p3 p4)), .second, .val (.int (lw_m p1 p2 p3 p4)), .val (.long (lw_xl p1 p2 p3 p4)), .second, .val (.int (lw_half p1 p2 p3 p4)), .val (.double (lw_x p1 p2 p3 p4)), .second, .val (.ref ad8), .val (.ref ad10), .unset] [])) t
          refine XS.iconst X15.here hx rfl (hb hby at_164) ?_
          show Steps p.tables e below (T15.setTop (mkF m 165 #[.val (.int p1), .val (.int p2), .val (.int p3), .val (.int p4), .val (.long (lw_lo p1 p2 p3 p4)), .second, .val (.long (lw_hi p1 p2 p3 p4)), .second, .val (.long (lw_off p1 p2 p3 p4)), .second, .val (.int (lw_m p1 p2 p3 p4)), .val (.long (lw_xl p1 p2 p3 p4)), .second, .val (.int (lw_half p1 p2 p3 p4)), .val (.double (lw_x p1 p2 p3 p4)), .second, .val (.ref ad8), .val (.ref ad10), .unset] [(.int (0 : Int32))])) t
          refine XS.istore X15.here hx rfl (hb hby at_165) rfl (l' := #[.val (.int p1), .val (.int p2), .val (.int p3), .val (.int p4), .val (.long (lw_lo p1 p2 p3 p4)), .second, .val (.long (lw_hi p1 p2 p3 p4)), .second, .val (.long (lw_off p1 p2 p3 p4)), .second, .val (.int (lw_m p1 p2 p3 p4)), .val (.long (lw_xl p1 p2 p3 p4)), .second, .val (.int (lw_half p1 p2 p3 p4)), .val (.double (lw_x p1 p2 p3 p4)), .second, .val (.ref ad8), .val (.ref ad10), .val (.int (0 : Int32))]) rfl ?_
          show Steps p.tables e below (T15.setTop (mkF m 167 #[.val (.int p1), .val (.int p2), .val (.int p3), .val (.int p4), .val (.long (lw_lo p1 p2 p3 p4)), .second, .val (.long (lw_hi p1 p2 p3 p4)), .second, .val (.long (lw_off p1 p2 p3 p4)), .second, .val (.int (lw_m p1 p2 p3 p4)), .val (.long (lw_xl p1 p2 p3 p4)), .second, .val (.int (lw_half p1 p2 p3 p4)), .val (.double (lw_x p1 p2 p3 p4)), .second, .val (.ref ad8), .val (.ref ad10), .val (.int (0 : Int32))] [])) t
          refine XS.goto X15.here hx rfl (pc0 := 167) (pc' := 193) rfl (hb hby at_167) (by decide) (by decide) ?_
          show Steps p.tables e below (T15.setTop (mkF m 193 #[.val (.int p1), .val (.int p2), .val (.int p3), .val (.int p4), .val (.long (lw_lo p1 p2 p3 p4)), .second, .val (.long (lw_hi p1 p2 p3 p4)), .second, .val (.long (lw_off p1 p2 p3 p4)), .second, .val (.int (lw_m p1 p2 p3 p4)), .val (.long (lw_xl p1 p2 p3 p4)), .second, .val (.int (lw_half p1 p2 p3 p4)), .val (.double (lw_x p1 p2 p3 p4)), .second, .val (.ref ad8), .val (.ref ad10), .val (.int (0 : Int32))] [])) t
          have q : (lw_exp p1 p2 p3 p4) = (0 : Int32) := by simp only [lw_exp, c21, c24, if_true, if_false, Bool.false_eq_true]; try rfl
          rw [q] at k
          clear q
          exact k
        · refine XS.ifNo X15.here hx rfl (hb hby at_149) rfl (Bool.eq_false_iff.mpr c24) ?_
          show Steps p.tables e below (T15.setTop (mkF m 152 #[.val (.int p1), .val (.int p2), .val (.int p3), .val (.int p4), .val (.long (lw_lo p1 p2 p3 p4)), .second, .val (.long (lw_hi p1 p2 p3 p4)), .second, .val (.long (lw_off p1 p2 p3 p4)), .second, .val (.int (lw_m p1 p2 p3 p4)), .val (.long (lw_xl p1 p2 p3 p4)), .second, .val (.int (lw_half p1 p2 p3 p4)), .val (.double (lw_x p1 p2 p3 p4)), .second, .val (.ref ad8), .val (.ref ad10), .unset] [])) t
          refine XT.lload X15.here hx rfl (hb hby at_152) rfl ?_
          show Steps p.tables e below (T15.setTop (mkF m 154 #[.val (.int p1), .val (.int p2), .val (.int p3), .val (.int p4), .val (.long (lw_lo p1 p2 p3 p4)), .second, .val (.long (lw_hi p1 p2 p3 p4)), .second, .val (.long (lw_off p1 p2 p3 p4)), .second, .val (.int (lw_m p1 p2 p3 p4)), .val (.long (lw_xl p1 p2 p3 p4)), .second, .val (.int (lw_half p1 p2 p3 p4)), .val (.double (lw_x p1 p2 p3 p4)), .second, .val (.ref ad8), .val (.ref ad10), .unset] [(.long (lw_xl p1 p2 p3 p4))])) t
          refine XT.lload X15.here hx rfl (hb hby at_154) rfl ?_
          show Steps p.tables e below (T15.setTop (mkF m 156 #[.val (.int p1), .val (.int p2), .val (.int p3), .val (.int p4), .val (.long (lw_lo p1 p2 p3 p4)), .second, .val (.long (lw_hi p1 p2 p3 p4)), .second, .val (.long (lw_off p1 p2 p3 p4)), .second, .val (.int (lw_m p1 p2 p3 p4)), .val (.long (lw_xl p1 p2 p3 p4)), .second, .val (.int (lw_half p1 p2 p3 p4)), .val (.double (lw_x p1 p2 p3 p4)), .second, .val (.ref ad8), .val (.ref ad10), .unset] [(.long (lw_hi p1 p2 p3 p4)), (.long (lw_xl p1 p2 p3 p4))])) t
          refine XT.lcmp X15.here hx rfl (hb hby at_156) rfl ?_
          show Steps p.tables e below (T15.setTop (mkF m 157 #[.val (.int p1), .val (.int p2), .val (.int p3), .val (.int p4), .val (.long (lw_lo p1 p2 p3 p4)), .second, .val (.long (lw_hi p1 p2 p3 p4)), .second, .val (.long (lw_off p1 p2 p3 p4)), .second, .val (.int (lw_m p1 p2 p3 p4)), .val (.long (lw_xl p1 p2 p3 p4)), .second, .val (.int (lw_half p1 p2 p3 p4)), .val (.double (lw_x p1 p2 p3 p4)), .second, .val (.ref ad8), .val (.ref ad10), .unset] [(.int (XT.cmpL (lw_xl p1 p2 p3 p4) (lw_hi p1 p2 p3 p4)))])) t
          by_cases c25 : (ifCond.holds .ge (XT.cmpL (lw_xl p1 p2 p3 p4) (lw_hi p1 p2 p3 p4))) = true
          · refine XS.ifYes X15.here hx rfl (pc0 := 157) (pc' := 164) rfl (hb hby at_157) rfl c25 (by decide) (by decide) ?_
            show Steps p.tables e below (T15.setTop (mkF m 164 #[.val (.int p1), .val (.int p2), .val (.int p3), .val (.int p4), .val (.long (lw_lo p1 p2 p3 p4)), .second, .val (.long (lw_hi p1 p2 p3 p4)), .second, .val (.long (lw_off p1 p2 p3 p4)), .second, .val (.int (lw_m p1 p2 p3 p4)), .val (.long (lw_xl p1 p2 p3 p4)), .second, .val (.int (lw_half p1 p2 p3 p4)), .val (.double (lw_x p1 p2 p3 p4)), .second, .val (.ref ad8), .val (.ref ad10), .unset] [])) t
            refine XS.iconst X15.here hx rfl (hb hby at_164) ?_
            show Steps p.tables e below (T15.setTop (mkF m 165 #[.val (.int p1), .val (.int p2), .val (.int p3), .val (.int p4), .val (.long (lw_lo p1 p2 p3 p4)), .second, .val (.long (lw_hi p1 p2 p3 p4)), .second, .val (.long (lw_off p1 p2 p3 p4)), .second, .val (.int (lw_m p1 p2 p3 p4)), .val (.long (lw_xl p1 p2 p3 p4)), .second, .val (.int (lw_half p1 p2 p3 p4)), .val (.double (lw_x p1 p2 p3 p4)), .second, .val (.ref ad8), .val (.ref ad10), .unset] [(.int (0 : Int32))])) t
            refine XS.istore X15.here hx rfl (hb hby at_165) rfl (l' := #[.val (.int p1), .val (.int p2), .val (.int p3), .val (.int p4), .val (.long (lw_lo p1 p2 p3 p4)), .second, .val (.long (lw_hi p1 p2 p3 p4)), .second, .val (.long (lw_off p1 p2 p3 p4)), .second, .val (.int (lw_m p1 p2 p3 p4)), .val (.long (lw_xl p1 p2 p3 p4)), .second, .val (.int (lw_half p1 p2 p3 p4)), .val (.double (lw_x p1 p2 p3 p4)), .second, .val (.ref ad8), .val (.ref ad10), .val (.int (0 : Int32))]) rfl ?_
            show Steps p.tables e below (T15.setTop (mkF m 167 #[.val (.int p1), .val (.int p2), .val (.int p3), .val (.int p4), .val (.long (lw_lo p1 p2 p3 p4)), .second, .val (.long (lw_hi p1 p2 p3 p4)), .second, .val (.long (lw_off p1 p2 p3 p4)), .second, .val (.int (lw_m p1 p2 p3 p4)), .val (.long (lw_xl p1 p2 p3 p4)), .second, .val (.int (lw_half p1 p2 p3 p4)), .val (.double (lw_x p1 p2 p3 p4)), .second, .val (.ref ad8), .val (.ref ad10), .val (.int (0 : Int32))] [])) t
            refine XS.goto X15.here hx rfl (pc0 := 167) (pc' := 193) rfl (hb hby at_167) (by decide) (by decide) ?_
            show Steps p.tables e below (T15.setTop (mkF m 193 #[.val (.int p1), .val (.int p2), .val (.int p3), .val (.int p4), .val (.long (lw_lo p1 p2 p3 p4)), .second, .val (.long (lw_hi p1 p2 p3 p4)), .second, .val (.long (lw_off p1 p2 p3 p4)), .second, .val (.int (lw_m p1 p2 p3 p4)), .val (.long (lw_xl p1 p2 p3 p4)), .second, .val (.int (lw_half p1 p2 p3 p4)), .val (.double (lw_x p1 p2 p3 p4)), .second, .val (.ref ad8), .val (.ref ad10), .val (.int (0 : Int32))] [])) t
            have q : (lw_exp p1 p2 p3 p4) = (0 : Int32) := by simp only [lw_exp, c21, c24, c25, if_true, if_false, Bool.false_eq_true]; try rfl
            rw [q] at k
            clear q
            exact k
          · refine XS.ifNo X15.here hx rfl (hb hby at_157) rfl (Bool.eq_false_iff.mpr c25) ?_
            show Steps p.tables e below (T15.setTop (mkF m 160 #[.val (.int p1), .val (.int p2), .val (.int p3), .val (.int p4), .val (.long (lw_lo p1 p2 p3 p4)), .second, .val (.long (lw_hi p1 p2 p3 p4)), .second, .val (.long (lw_off p1 p2 p3 p4)), .second, .val (.int (lw_m p1 p2 p3 p4)), .val (.long (lw_xl p1 p2 p3 p4)), .second, .val (.int (lw_half p1 p2 p3 p4)), .val (.double (lw_x p1 p2 p3 p4)), .second, .val (.ref ad8), .val (.ref ad10), .unset] [])) t
            refine XS.iconst X15.here hx rfl (hb hby at_160) ?_
            show Steps p.tables e below (T15.setTop (mkF m 161 #[.val (.int p1), .val (.int p2), .val (.int p3), .val (.int p4), .val (.long (lw_lo p1 p2 p3 p4)), .second, .val (.long (lw_hi p1 p2 p3 p4)), .second, .val (.long (lw_off p1 p2 p3 p4)), .second, .val (.int (lw_m p1 p2 p3 p4)), .val (.long (lw_xl p1 p2 p3 p4)), .second, .val (.int (lw_half p1 p2 p3 p4)), .val (.double (lw_x p1 p2 p3 p4)), .second, .val (.ref ad8), .val (.ref ad10), .unset] [(.int (1 : Int32))])) t
            refine XS.goto X15.here hx rfl (pc0 := 161) (pc' := 165) rfl (hb hby at_161) (by decide) (by decide) ?_
            show Steps p.tables e below (T15.setTop (mkF m 165 #[.val (.int p1), .val (.int p2), .val (.int p3), .val (.int p4), .val (.long (lw_lo p1 p2 p3 p4)), .second, .val (.long (lw_hi p1 p2 p3 p4)), .second, .val (.long (lw_off p1 p2 p3 p4)), .second, .val (.int (lw_m p1 p2 p3 p4)), .val (.long (lw_xl p1 p2 p3 p4)), .second, .val (.int (lw_half p1 p2 p3 p4)), .val (.double (lw_x p1 p2 p3 p4)), .second, .val (.ref ad8), .val (.ref ad10), .unset] [(.int (1 : Int32))])) t
            refine XS.istore X15.here hx rfl (hb hby at_165) rfl (l' := #[.val (.int p1), .val (.int p2), .val (.int p3), .val (.int p4), .val (.long (lw_lo p1 p2 p3 p4)), .second, .val (.long (lw_hi p1 p2 p3 p4)), .second, .val (.long (lw_off p1 p2 p3 p4)), .second, .val (.int (lw_m p1 p2 p3 p4)), .val (.long (lw_xl p1 p2 p3 p4)), .second, .val (.int (lw_half p1 p2 p3 p4)), .val (.double (lw_x p1 p2 p3 p4)), .second, .val (.ref ad8), .val (.ref ad10), .val (.int (1 : Int32))]) rfl ?_
            show Steps p.tables e below (T15.setTop (mkF m 167 #[.val (.int p1), .val (.int p2), .val (.int p3), .val (.int p4), .val (.long (lw_lo p1 p2 p3 p4)), .second, .val (.long (lw_hi p1 p2 p3 p4)), .second, .val (.long (lw_off p1 p2 p3 p4)), .second, .val (.int (lw_m p1 p2 p3 p4)), .val (.long (lw_xl p1 p2 p3 p4)), .second, .val (.int (lw_half p1 p2 p3 p4)), .val (.double (lw_x p1 p2 p3 p4)), .second, .val (.ref ad8), .val (.ref ad10), .val (.int (1 : Int32))] [])) t
            refine XS.goto X15.here hx rfl (pc0 := 167) (pc' := 193) rfl (hb hby at_167) (by decide) (by decide) ?_
            show Steps p.tables e below (T15.setTop (mkF m 193 #[.val (.int p1), .val (.int p2), .val (.int p3), .val (.int p4), .val (.long (lw_lo p1 p2 p3 p4)), .second, .val (.long (lw_hi p1 p2 p3 p4)), .second, .val (.long (lw_off p1 p2 p3 p4)), .second, .val (.int (lw_m p1 p2 p3 p4)), .val (.long (lw_xl p1 p2 p3 p4)), .second, .val (.int (lw_half p1 p2 p3 p4)), .val (.double (lw_x p1 p2 p3 p4)), .second, .val (.ref ad8), .val (.ref ad10), .val (.int (1 : Int32))] [])) t
            have q : (lw_exp p1 p2 p3 p4) = (1 : Int32) := by simp only [lw_exp, c21, c24, c25, if_true, if_false, Bool.false_eq_true]; try rfl
            rw [q] at k
            clear q
            exact k
    refine sg20 _ ?_
    show Steps p.tables e below (T15.setTop (mkF m 193 #[.val (.int p1), .val (.int p2), .val (.int p3), .val (.int p4), .val (.long (lw_lo p1 p2 p3 p4)), .second, .val (.long (lw_hi p1 p2 p3 p4)), .second, .val (.long (lw_off p1 p2 p3 p4)), .second, .val (.int (lw_m p1 p2 p3 p4)), .val (.long (lw_xl p1 p2 p3 p4)), .second, .val (.int (lw_half p1 p2 p3 p4)), .val (.double (lw_x p1 p2 p3 p4)), .second, .val (.ref ad8), .val (.ref ad10), .val (.int (lw_exp p1 p2 p3 p4))] [])) _
    refine XS.aload X15.here hx rfl (hb hby at_193) rfl rfl ?_
    show Steps p.tables e below (T15.setTop (mkF m 195 #[.val (.int p1), .val (.int p2), .val (.int p3), .val (.int p4), .val (.long (lw_lo p1 p2 p3 p4)), .second, .val (.long (lw_hi p1 p2 p3 p4)), .second, .val (.long (lw_off p1 p2 p3 p4)), .second, .val (.int (lw_m p1 p2 p3 p4)), .val (.long (lw_xl p1 p2 p3 p4)), .second, .val (.int (lw_half p1 p2 p3 p4)), .val (.double (lw_x p1 p2 p3 p4)), .second, .val (.ref ad8), .val (.ref ad10), .val (.int (lw_exp p1 p2 p3 p4))] [(.ref ad10)])) _
    refine XS.dload X15.here hx rfl (hb hby at_195) rfl ?_
    show Steps p.tables e below (T15.setTop (mkF m 197 #[.val (.int p1), .val (.int p2), .val (.int p3), .val (.int p4), .val (.long (lw_lo p1 p2 p3 p4)), .second, .val (.long (lw_hi p1 p2 p3 p4)), .second, .val (.long (lw_off p1 p2 p3 p4)), .second, .val (.int (lw_m p1 p2 p3 p4)), .val (.long (lw_xl p1 p2 p3 p4)), .second, .val (.int (lw_half p1 p2 p3 p4)), .val (.double (lw_x p1 p2 p3 p4)), .second, .val (.ref ad8), .val (.ref ad10), .val (.int (lw_exp p1 p2 p3 p4))] [(.double (lw_x p1 p2 p3 p4)), (.ref ad10)])) _
    refine st26.trans ?_
    show Steps p.tables e below (T26.setTop (mkF m 200 #[.val (.int p1), .val (.int p2), .val (.int p3), .val (.int p4), .val (.long (lw_lo p1 p2 p3 p4)), .second, .val (.long (lw_hi p1 p2 p3 p4)), .second, .val (.long (lw_off p1 p2 p3 p4)), .second, .val (.int (lw_m p1 p2 p3 p4)), .val (.long (lw_xl p1 p2 p3 p4)), .second, .val (.int (lw_half p1 p2 p3 p4)), .val (.double (lw_x p1 p2 p3 p4)), .second, .val (.ref ad8), .val (.ref ad10), .val (.int (lw_exp p1 p2 p3 p4))] [(.int (ho_res (lw_x p1 p2 p3 p4) (FP.l2d (lw_lo p1 p2 p3 p4)) (FP.l2d (lw_hi p1 p2 p3 p4))))])) _
    refine XS.iload X26.here hx rfl (hb hby at_200) rfl ?_
    show Steps p.tables e below (T26.setTop (mkF m 202 #[.val (.int p1), .val (.int p2), .val (.int p3), .val (.int p4), .val (.long (lw_lo p1 p2 p3 p4)), .second, .val (.long (lw_hi p1 p2 p3 p4)), .second, .val (.long (lw_off p1 p2 p3 p4)), .second, .val (.int (lw_m p1 p2 p3 p4)), .val (.long (lw_xl p1 p2 p3 p4)), .second, .val (.int (lw_half p1 p2 p3 p4)), .val (.double (lw_x p1 p2 p3 p4)), .second, .val (.ref ad8), .val (.ref ad10), .val (.int (lw_exp p1 p2 p3 p4))] [(.int (lw_exp p1 p2 p3 p4)), (.int (ho_res (lw_x p1 p2 p3 p4) (FP.l2d (lw_lo p1 p2 p3 p4)) (FP.l2d (lw_hi p1 p2 p3 p4))))])) _
    refine XS.icmpNo X26.here hx rfl (hb hby at_202) rfl (own_same p1 p2 p3 p4) ?_
    show Steps p.tables e below (T26.setTop (mkF m 205 #[.val (.int p1), .val (.int p2), .val (.int p3), .val (.int p4), .val (.long (lw_lo p1 p2 p3 p4)), .second, .val (.long (lw_hi p1 p2 p3 p4)), .second, .val (.long (lw_off p1 p2 p3 p4)), .second, .val (.int (lw_m p1 p2 p3 p4)), .val (.long (lw_xl p1 p2 p3 p4)), .second, .val (.int (lw_half p1 p2 p3 p4)), .val (.double (lw_x p1 p2 p3 p4)), .second, .val (.ref ad8), .val (.ref ad10), .val (.int (lw_exp p1 p2 p3 p4))] [])) _
    refine XS.iconst X26.here hx rfl (hb hby at_205) ?_
    show Steps p.tables e below (T26.setTop (mkF m 206 #[.val (.int p1), .val (.int p2), .val (.int p3), .val (.int p4), .val (.long (lw_lo p1 p2 p3 p4)), .second, .val (.long (lw_hi p1 p2 p3 p4)), .second, .val (.long (lw_off p1 p2 p3 p4)), .second, .val (.int (lw_m p1 p2 p3 p4)), .val (.long (lw_xl p1 p2 p3 p4)), .second, .val (.int (lw_half p1 p2 p3 p4)), .val (.double (lw_x p1 p2 p3 p4)), .second, .val (.ref ad8), .val (.ref ad10), .val (.int (lw_exp p1 p2 p3 p4))] [(.int (1 : Int32))])) _
    refine XS.goto X26.here hx rfl (pc0 := 206) (pc' := 210) rfl (hb hby at_206) (by decide) (by decide) ?_
    show Steps p.tables e below (T26.setTop (mkF m 210 #[.val (.int p1), .val (.int p2), .val (.int p3), .val (.int p4), .val (.long (lw_lo p1 p2 p3 p4)), .second, .val (.long (lw_hi p1 p2 p3 p4)), .second, .val (.long (lw_off p1 p2 p3 p4)), .second, .val (.int (lw_m p1 p2 p3 p4)), .val (.long (lw_xl p1 p2 p3 p4)), .second, .val (.int (lw_half p1 p2 p3 p4)), .val (.double (lw_x p1 p2 p3 p4)), .second, .val (.ref ad8), .val (.ref ad10), .val (.int (lw_exp p1 p2 p3 p4))] [(.int (1 : Int32))])) _
    exact retN X26 hx (t := .boolean) Bd.returns (by simp) (hb hby at_210) hr
  · show Q_lw Z p1 p2 p3 p4  h0 n0 _ T26.heap _
    exact ⟨rfl, Nn26⟩
set_option maxRecDepth 65536 in
set_option maxHeartbeats 40000000 in
theorem comes_1 {Post : Tables → Env → Array Value → State → Outcome → State → Prop} (hpost : ∀ tb e args s v u, (limb_1_1.after args s (.returned v) u = true ∧ limb_1_2.after args s (.returned v) u = true ∧ True) → FrameEnd s (.returned v) u (Jvm.fieldLocs frame_1_writes args s ++ Jvm.arrayLocs frame_1_arrays args s ++ Jvm.staticLocs frame_1_statics s) 16 128 → Post tb e args s (.returned v) u) :
    ArmFor flags0 classFile x code maxLocals ret World_1 tables_1 room_1 Calls_1 rest_1 Pre_1 Post := by
  intro l hfl _ _ p e ha hc hk s m args below hf hA hF happ hP
  obtain ⟨hcalls, hrest, hpre⟩ := hP
  obtain ⟨-, -, -, hnamed, -, -, -, hat⟩ := (Spec.applies_iff hf).mp happ
  obtain ⟨hg, hn⟩ := and_e (Cond.before_iff.mp (show (Jvm.Cond.and given_1 narrow_1).before args s = true from hpre))
  obtain ⟨h1, g0⟩ := and_e hg
  obtain ⟨i0, g1⟩ := and_e g0
  obtain ⟨i1, g2⟩ := and_e g1
  obtain ⟨i2, g3⟩ := and_e g2
  obtain ⟨w0, w1, w2, w3, rfl⟩ : ∃ w0 w1 w2 w3 : Value, args = #[w0, w1, w2, w3] := by
    have hs : args.size = 4 := by simpa [Cond.value, given_1] using h1
    obtain ⟨L⟩ := args
    match L, hs with
    | [w0, w1, w2, w3], _ => exact ⟨w0, w1, w2, w3, rfl⟩
  have hw := fun d (hd : d ∈ tables_1) => atoms_spec (ws := Jvm.Cond.code x code maxLocals ret :: tables_1) hat d (List.mem_cons_of_mem _ hd)
  obtain ⟨v0, e0⟩ := is_v i0
  obtain rfl : w0 = (.int v0) := Option.some.inj e0
  obtain ⟨v1, e1⟩ := is_v i1
  obtain rfl : w1 = (.int v1) := Option.some.inj e1
  obtain ⟨v2, e2⟩ := is_v i2
  obtain rfl : w2 = (.int v2) := Option.some.inj e2
  obtain ⟨v3, e3⟩ := is_v g3
  obtain rfl : w3 = (.int v3) := Option.some.inj e3
  obtain ⟨n, o, h1, h2, h3, _, L, rfl, ⟨rfl, N⟩, hq⟩ := rm_lw l s _ hw tables_1 v0 v1 v2 v3  s.heap s.heap.size (Nat.le_refl _)  p e ha hc hk s m _ below hf ((Spec.applies_iff_loose hf).mp happ).1 ⟨rfl, State.Warmed39.refl s, rfl⟩ trivial
  refine ⟨n, _, h1, h2, h3, hpost _ _ _ _ _ _ ⟨Cond.after_iff.mpr rfl, Cond.after_iff.mpr (eq_i res_at (Term.int_eval (1)) rfl), trivial⟩ ⟨hq.1, hq.2.1, (hq.2.2.sift fun y hy => Or.inr (N y hy)).mono (by decide) (by decide)⟩⟩
theorem main_1_1 : Claimed_1_1 := comes_1 fun _ _ _ _ _ _ h hF => ⟨h.1, hF⟩
theorem main_1_2 : Claimed_1_2 := comes_1 fun _ _ _ _ _ _ h hF => ⟨h.2.1, hF⟩
end Jvm.Pilot.@@N@@
namespace Jvm.Pilot.@@N@@
open Jvm Jvm.ClassFile Sem Op Lib Jvm.Free Jvm.Stand Jvm.Pilot.@@N@@.Jvm.D
/-! MADE BY PROGRAM (witnessworld.py) out of the Statement's table words and the real class files: 10 classes; the members and pool entries that the words name. The judged class is class 1, her method 1. -/
namespace start1
open Jvm.ClassFile
def u (s : String) : CpInfo := .utf8 (stringToUtf16 s)
/-- a pool by its gaps: so many unusable entries, then the entry; so many at the end -/
def gap : Nat → List CpInfo → List CpInfo
  | 0, r => r
  | n + 1, r => .unusable :: gap n r
def poolList (es : List (Nat × CpInfo)) (last : Nat) : List CpInfo := es.foldr (fun e r => gap e.1 (e.2 :: r)) (gap last [])
def pool (es : List (Nat × CpInfo)) (last : Nat) : Array CpInfo := ⟨poolList es last⟩
def fileOf (pool : Array CpInfo) (this : Nat) (attrs : Array Attribute := #[]) (ms : Array MethodInfo := #[]) (fl : Nat := 33) (sup : Nat := 0) (ifs : Array Nat := #[]) (fds : Array FieldInfo := #[]) : ClassFile where
  minorVersion := 0
  majorVersion := 65
  constantPool := pool
  accessFlags := fl
  thisClass := this
  superClass := sup
  interfaces := ifs
  fields := fds
  methods := ms
  attributes := attrs
def plain (name : String) (sup : Option ClassId) : Class where
  name := name
  kind := .ordinary
  loader := none
  accessFlags := 33
  super := sup
  interfaces := #[]
  cf := none
  fields := #[]
  methods := #[]
  instanceTypes := #[]
  staticTypes := #[]
  resolved := #[]
  callSites := []
  init := .initialized
  statics := none
  mirror := none

def pool0 : Array CpInfo := pool [(5, u "<init>"), (0, u "()V"), (1, .class_ 10), (1, u "java/lang/Object")] 113

def k0c0 : Code := { maxStack := 0, maxLocals := 1, code := object_method_1_code, exceptionTable := #[], attributes := #[] }
def k0m0 : Method := { name := "<init>", desc := "()V", sig := { parameters := [], returnType := none }, accessFlags := 1, code := some k0c0 }
/-- java/lang/Object -/
def k0 : Class := { plain "java/lang/Object" none with
  accessFlags := 33
  interfaces := #[]
  cf := some (fileOf pool0 8 #[] #[{ accessFlags := 1, nameIndex := 5, descriptorIndex := 6, attributes := #[] }] 33 0 #[] #[])
  fields := #[]
  methods := #[k0m0]
  instanceTypes := #[]
  staticTypes := #[]
  resolved := Array.replicate 124 none
  statics := none }

def pool1 : Array CpInfo := pool [(2, .class_ 4), (1, u "java/lang/Object"), (0, u "<init>"), (0, u "()V"), (0, .double 4602678819172646912), (1, .class_ 10), (0, u "com/example/quadratur/quadratur/method/GaussKronrod$FarEnd"), (0, .methodref 9 12), (0, .nameAndType 5 13), (0, u "(DDD)V"), (0, .class_ 15), (0, u "com/example/quadratur/quadratur/method/GaussKronrod$Piece"), (0, .methodref 14 17), (0, .nameAndType 5 18), (0, u "(DDDDDDDDDDLcom/example/quadratur/quadratur/method/GaussKronrod$FarEnd;DDDDDDDDDDDDIIDDD)V"), (0, .methodref 14 20), (0, .nameAndType 21 22), (0, u "holds"), (0, u "(D)Z"), (0, .class_ 24), (0, u "com/example/quadratur/quadratur/method/PieceHoldsPinLaw"), (2, u "law"), (0, u "(IIII)Z")] 8

def k1m0 : Method := { name := "<init>", desc := "()V", sig := { parameters := [], returnType := none }, accessFlags := 1, code := none }
def k1c1 : Code := { maxStack := 55, maxLocals := 19, code := code, exceptionTable := #[], attributes := #[] }
def k1m1 : Method := { name := "law", desc := "(IIII)Z", sig := { parameters := [.int, .int, .int, .int], returnType := some .boolean }, accessFlags := 9, code := some k1c1 }
/-- com/example/quadratur/quadratur/method/PieceHoldsPinLaw -/
def k1 : Class := { plain "com/example/quadratur/quadratur/method/PieceHoldsPinLaw" (some 0) with
  accessFlags := 49
  interfaces := #[]
  cf := some (fileOf pool1 23 #[] #[{ accessFlags := 1, nameIndex := 5, descriptorIndex := 6, attributes := #[] }, { accessFlags := 9, nameIndex := 27, descriptorIndex := 28, attributes := #[] }] 49 2 #[] #[])
  fields := #[]
  methods := #[k1m0, k1m1]
  instanceTypes := #[]
  staticTypes := #[]
  resolved := Array.replicate 37 none
  statics := none }

def pool2 : Array CpInfo := pool [(1, .methodref 2 3), (0, .class_ 4), (0, .nameAndType 5 6), (0, u "java/lang/Object"), (0, u "<init>"), (0, u "()V"), (0, .fieldref 8 9), (0, .class_ 10), (0, .nameAndType 11 12), (0, u "com/example/quadratur/quadratur/method/GaussKronrod$FarEnd"), (0, u "slope"), (0, u "D"), (0, .fieldref 8 14), (0, .nameAndType 15 12), (0, u "slopeAt"), (0, .fieldref 8 17), (0, .nameAndType 18 12), (0, u "curvature"), (2, u "(DDD)V"), (7, .class_ 30), (0, u "com/example/quadratur/quadratur/method/GaussKronrod")] 2

def k2c0 : Code := { maxStack := 3, maxLocals := 7, code := prog_41_method_1_code, exceptionTable := #[], attributes := #[] }
def k2m0 : Method := { name := "<init>", desc := "(DDD)V", sig := { parameters := [.double, .double, .double], returnType := none }, accessFlags := 0, code := some k2c0 }
/-- com/example/quadratur/quadratur/method/GaussKronrod$FarEnd -/
def k2 : Class := { plain "com/example/quadratur/quadratur/method/GaussKronrod$FarEnd" (some 0) with
  accessFlags := 48
  interfaces := #[]
  cf := some (fileOf pool2 8 #[.nestHost 29] #[{ accessFlags := 0, nameIndex := 5, descriptorIndex := 21, attributes := #[] }] 48 2 #[] #[{ accessFlags := 16, nameIndex := 11, descriptorIndex := 12, attributes := #[] }, { accessFlags := 16, nameIndex := 15, descriptorIndex := 12, attributes := #[] }, { accessFlags := 16, nameIndex := 18, descriptorIndex := 12, attributes := #[] }])
  fields := #[{ name := "slope", type := .double, accessFlags := 16, slot := 0, constantValue := 0 }, { name := "slopeAt", type := .double, accessFlags := 16, slot := 1, constantValue := 0 }, { name := "curvature", type := .double, accessFlags := 16, slot := 2, constantValue := 0 }]
  methods := #[k2m0]
  instanceTypes := #[.double, .double, .double]
  staticTypes := #[]
  resolved := Array.replicate 33 none
  statics := none }

def pool3 : Array CpInfo := pool [(1, .methodref 2 3), (0, .class_ 4), (0, .nameAndType 5 6), (0, u "java/lang/Object"), (0, u "<init>"), (0, u "()V"), (0, .fieldref 8 9), (0, .class_ 10), (0, .nameAndType 11 12), (0, u "com/example/quadratur/quadratur/method/GaussKronrod$Piece"), (0, u "lo"), (0, u "D"), (0, .fieldref 8 14), (0, .nameAndType 15 12), (0, u "hi"), (0, .fieldref 8 17), (0, .nameAndType 18 12), (0, u "value"), (0, .fieldref 8 20), (0, .nameAndType 21 12), (0, u "magnitude"), (0, .fieldref 8 23), (0, .nameAndType 24 12), (0, u "trimmed"), (0, .fieldref 8 26), (0, .nameAndType 27 12), (0, u "relief"), (0, .fieldref 8 29), (0, .nameAndType 30 12), (0, u "trimmedRelief"), (0, .fieldref 8 32), (0, .nameAndType 33 12), (0, u "parabolicRelief"), (0, .fieldref 8 35), (0, .nameAndType 36 12), (0, u "fittedRelief"), (0, .fieldref 8 38), (0, .nameAndType 39 12), (0, u "base"), (0, .fieldref 8 41), (0, .nameAndType 42 43), (0, u "farEnd"), (0, u "Lcom/example/quadratur/quadratur/method/GaussKronrod$FarEnd;"), (0, .fieldref 8 45), (0, .nameAndType 46 12), (0, u "towardsLo"), (0, .fieldref 8 48), (0, .nameAndType 49 12), (0, u "towardsHi"), (0, .fieldref 8 51), (0, .nameAndType 52 12), (0, u "roughnessTowardsLo"), (0, .fieldref 8 54), (0, .nameAndType 55 12), (0, u "roughnessTowardsHi"), (0, .fieldref 8 57), (0, .nameAndType 58 12), (0, u "peak"), (0, .fieldref 8 60), (0, .nameAndType 61 12), (0, u "peakAt"), (0, .fieldref 8 63), (0, .nameAndType 64 12), (0, u "roughness"), (0, .fieldref 8 66), (0, .nameAndType 67 12), (0, u "spread"), (0, .fieldref 8 69), (0, .nameAndType 70 12), (0, u "residual"), (0, .fieldref 8 72), (0, .nameAndType 73 12), (0, u "unresolved"), (0, .fieldref 8 75), (0, .nameAndType 76 12), (0, u "hidden"), (0, .fieldref 8 78), (0, .nameAndType 79 12), (0, u "departingEnd"), (0, .fieldref 8 81), (0, .nameAndType 82 83), (0, u "departingFromLo"), (0, u "I"), (0, .fieldref 8 85), (0, .nameAndType 86 83), (0, u "departingFromHi"), (0, .fieldref 8 88), (0, .nameAndType 89 12), (0, u "error"), (0, .fieldref 8 91), (0, .nameAndType 92 12), (0, u "floor"), (0, .fieldref 8 94), (0, .nameAndType 95 12), (0, u "placement"), (5, u "(DDDDDDDDDDLcom/example/quadratur/quadratur/method/GaussKronrod$FarEnd;DDDDDDDDDDDDIIDDD)V"), (8, u "holds"), (0, u "(D)Z"), (3, .class_ 116), (0, u "com/example/quadratur/quadratur/method/GaussKronrod")] 5

def k3c0 : Code := { maxStack := 3, maxLocals := 54, code := prog_42_method_1_code, exceptionTable := #[], attributes := #[] }
def k3m0 : Method := { name := "<init>", desc := "(DDDDDDDDDDLcom/example/quadratur/quadratur/method/GaussKronrod$FarEnd;DDDDDDDDDDDDIIDDD)V", sig := { parameters := [.double, .double, .double, .double, .double, .double, .double, .double, .double, .double, (.object "com/example/quadratur/quadratur/method/GaussKronrod$FarEnd"), .double, .double, .double, .double, .double, .double, .double, .double, .double, .double, .double, .double, .int, .int, .double, .double, .double], returnType := none }, accessFlags := 0, code := some k3c0 }
def k3c1 : Code := { maxStack := 4, maxLocals := 3, code := prog_42_method_6_code, exceptionTable := #[], attributes := #[] }
def k3m1 : Method := { name := "holds", desc := "(D)Z", sig := { parameters := [.double], returnType := some .boolean }, accessFlags := 0, code := some k3c1 }
/-- com/example/quadratur/quadratur/method/GaussKronrod$Piece -/
def k3 : Class := { plain "com/example/quadratur/quadratur/method/GaussKronrod$Piece" (some 0) with
  accessFlags := 48
  interfaces := #[]
  cf := some (fileOf pool3 8 #[.nestHost 115] #[{ accessFlags := 0, nameIndex := 5, descriptorIndex := 101, attributes := #[] }, { accessFlags := 0, nameIndex := 110, descriptorIndex := 111, attributes := #[] }] 48 2 #[] #[{ accessFlags := 16, nameIndex := 11, descriptorIndex := 12, attributes := #[] }, { accessFlags := 16, nameIndex := 15, descriptorIndex := 12, attributes := #[] }, { accessFlags := 16, nameIndex := 18, descriptorIndex := 12, attributes := #[] }, { accessFlags := 16, nameIndex := 21, descriptorIndex := 12, attributes := #[] }, { accessFlags := 16, nameIndex := 24, descriptorIndex := 12, attributes := #[] }, { accessFlags := 16, nameIndex := 27, descriptorIndex := 12, attributes := #[] }, { accessFlags := 16, nameIndex := 30, descriptorIndex := 12, attributes := #[] }, { accessFlags := 16, nameIndex := 33, descriptorIndex := 12, attributes := #[] }, { accessFlags := 16, nameIndex := 36, descriptorIndex := 12, attributes := #[] }, { accessFlags := 16, nameIndex := 39, descriptorIndex := 12, attributes := #[] }, { accessFlags := 16, nameIndex := 42, descriptorIndex := 43, attributes := #[] }, { accessFlags := 16, nameIndex := 46, descriptorIndex := 12, attributes := #[] }, { accessFlags := 16, nameIndex := 49, descriptorIndex := 12, attributes := #[] }, { accessFlags := 16, nameIndex := 52, descriptorIndex := 12, attributes := #[] }, { accessFlags := 16, nameIndex := 55, descriptorIndex := 12, attributes := #[] }, { accessFlags := 16, nameIndex := 58, descriptorIndex := 12, attributes := #[] }, { accessFlags := 16, nameIndex := 61, descriptorIndex := 12, attributes := #[] }, { accessFlags := 16, nameIndex := 64, descriptorIndex := 12, attributes := #[] }, { accessFlags := 16, nameIndex := 67, descriptorIndex := 12, attributes := #[] }, { accessFlags := 16, nameIndex := 70, descriptorIndex := 12, attributes := #[] }, { accessFlags := 16, nameIndex := 73, descriptorIndex := 12, attributes := #[] }, { accessFlags := 16, nameIndex := 76, descriptorIndex := 12, attributes := #[] }, { accessFlags := 16, nameIndex := 79, descriptorIndex := 12, attributes := #[] }, { accessFlags := 18, nameIndex := 82, descriptorIndex := 83, attributes := #[] }, { accessFlags := 18, nameIndex := 86, descriptorIndex := 83, attributes := #[] }, { accessFlags := 16, nameIndex := 89, descriptorIndex := 12, attributes := #[] }, { accessFlags := 16, nameIndex := 92, descriptorIndex := 12, attributes := #[] }, { accessFlags := 16, nameIndex := 95, descriptorIndex := 12, attributes := #[] }])
  fields := #[{ name := "lo", type := .double, accessFlags := 16, slot := 0, constantValue := 0 }, { name := "hi", type := .double, accessFlags := 16, slot := 1, constantValue := 0 }, { name := "value", type := .double, accessFlags := 16, slot := 2, constantValue := 0 }, { name := "magnitude", type := .double, accessFlags := 16, slot := 3, constantValue := 0 }, { name := "trimmed", type := .double, accessFlags := 16, slot := 4, constantValue := 0 }, { name := "relief", type := .double, accessFlags := 16, slot := 5, constantValue := 0 }, { name := "trimmedRelief", type := .double, accessFlags := 16, slot := 6, constantValue := 0 }, { name := "parabolicRelief", type := .double, accessFlags := 16, slot := 7, constantValue := 0 }, { name := "fittedRelief", type := .double, accessFlags := 16, slot := 8, constantValue := 0 }, { name := "base", type := .double, accessFlags := 16, slot := 9, constantValue := 0 }, { name := "farEnd", type := (.object "com/example/quadratur/quadratur/method/GaussKronrod$FarEnd"), accessFlags := 16, slot := 10, constantValue := 0 }, { name := "towardsLo", type := .double, accessFlags := 16, slot := 11, constantValue := 0 }, { name := "towardsHi", type := .double, accessFlags := 16, slot := 12, constantValue := 0 }, { name := "roughnessTowardsLo", type := .double, accessFlags := 16, slot := 13, constantValue := 0 }, { name := "roughnessTowardsHi", type := .double, accessFlags := 16, slot := 14, constantValue := 0 }, { name := "peak", type := .double, accessFlags := 16, slot := 15, constantValue := 0 }, { name := "peakAt", type := .double, accessFlags := 16, slot := 16, constantValue := 0 }, { name := "roughness", type := .double, accessFlags := 16, slot := 17, constantValue := 0 }, { name := "spread", type := .double, accessFlags := 16, slot := 18, constantValue := 0 }, { name := "residual", type := .double, accessFlags := 16, slot := 19, constantValue := 0 }, { name := "unresolved", type := .double, accessFlags := 16, slot := 20, constantValue := 0 }, { name := "hidden", type := .double, accessFlags := 16, slot := 21, constantValue := 0 }, { name := "departingEnd", type := .double, accessFlags := 16, slot := 22, constantValue := 0 }, { name := "departingFromLo", type := .int, accessFlags := 18, slot := 23, constantValue := 0 }, { name := "departingFromHi", type := .int, accessFlags := 18, slot := 24, constantValue := 0 }, { name := "error", type := .double, accessFlags := 16, slot := 25, constantValue := 0 }, { name := "floor", type := .double, accessFlags := 16, slot := 26, constantValue := 0 }, { name := "placement", type := .double, accessFlags := 16, slot := 27, constantValue := 0 }]
  methods := #[k3m0, k3m1]
  instanceTypes := #[.double, .double, .double, .double, .double, .double, .double, .double, .double, .double, (.object "com/example/quadratur/quadratur/method/GaussKronrod$FarEnd"), .double, .double, .double, .double, .double, .double, .double, .double, .double, .double, .double, .double, .int, .int, .double, .double, .double]
  staticTypes := #[]
  resolved := Array.replicate 122 none
  statics := none }

def pool4 : Array CpInfo := pool [(1, u "java/lang/Cloneable"), (0, .class_ 1), (0, u "java/lang/Object"), (0, .class_ 3)] 3

/-- java/lang/Cloneable -/
def k4 : Class := { plain "java/lang/Cloneable" (some 0) with
  accessFlags := 1537
  interfaces := #[]
  cf := some (fileOf pool4 2 #[] #[] 1537 4 #[] #[])
  fields := #[]
  methods := #[]
  instanceTypes := #[]
  staticTypes := #[]
  resolved := Array.replicate 8 none
  statics := none }

def pool5 : Array CpInfo := pool [(1, u "java/io/Serializable"), (0, .class_ 1), (0, u "java/lang/Object"), (0, .class_ 3)] 3

/-- java/io/Serializable -/
def k5 : Class := { plain "java/io/Serializable" (some 0) with
  accessFlags := 1537
  interfaces := #[]
  cf := some (fileOf pool5 2 #[] #[] 1537 4 #[] #[])
  fields := #[]
  methods := #[]
  instanceTypes := #[]
  staticTypes := #[]
  resolved := Array.replicate 8 none
  statics := none }

/-- the primitive byte -/
def k6 : Class := { plain "byte" none with kind := .primitive 'B', accessFlags := 0x411 }
/-- [B -/
def k7 : Class := { plain "[B" (some 0) with kind := .array 6 .byte, interfaces := #[4, 5], accessFlags := 1041 }

/-- the primitive int -/
def k8 : Class := { plain "int" none with kind := .primitive 'I', accessFlags := 0x411 }
/-- [I -/
def k9 : Class := { plain "[I" (some 0) with kind := .array 8 .int, interfaces := #[4, 5], accessFlags := 1041 }

def heap : Heap := #[]
def classes : Array Class := #[k0, k1, k2, k3, k4, k5, k6, k7, k8, k9]
def interned : List (Array UInt16 × Addr) := []
def slotsUsed : Nat := 0
def theMethod : MethodId := ⟨1, 1⟩
def args0 : Array Value := #[.int 3, .int 4, .int 5, .int 6]
def aboutOver (below : List Frame) : State where
  vm := { classes := classes, interned := interned.toArray }
  heap := heap
  slotsUsed := slotsUsed
  threads := #[{ frames := .invoking theMethod args0 :: below }]
def below0 : List Frame := [.native { method := ⟨0, 0⟩, args := #[] }]
def about1 : State := aboutOver below0
def p0 : Program := .bare "" "" ""
def e0 : Env := launch0.env 0 0 0
theorem w_frames : about1.frames = Frame.invoking theMethod args0 :: below0 := rfl
set_option maxRecDepth 65536 in
theorem w_args : argsFit about1.vm theMethod args0 = true := by decide +kernel
set_option maxRecDepth 65536 in
theorem w_heap : heapFits about1 = true := by decide +kernel
set_option maxRecDepth 65536 in
theorem w_runnable : about1.curStatus? = some .runnable := by decide +kernel
set_option maxRecDepth 65536 in
theorem w_alone : about1.alone = true := by decide +kernel
set_option maxRecDepth 65536 in
theorem w_named : about1.methodNamed? x = some theMethod := by decide +kernel
set_option maxRecDepth 65536 in
theorem w_hears : about1.hears theMethod below0 = true := by decide +kernel
set_option maxRecDepth 65536 in
theorem w_ripe : about1.ripe theMethod args0 below0 = true := by decide +kernel
theorem w_running : about1.status = .running := rfl
set_option maxRecDepth 65536 in
theorem w_room : about1.hasRoom e0.platform room_1 = true :=
  launch0.hasRoom_least _ room_1 (by decide +kernel) (by decide +kernel) (by decide +kernel) (by decide +kernel) (by decide +kernel) (by decide +kernel)
theorem allAtoms_all (ts : List Jvm.Cond) (a : Array Jvm.Value) (st : Jvm.State) : (allAtoms ts).before a st = ts.all (fun c => c.before a st) := by
  induction ts with
  | nil => rfl
  | cons c t ih =>
    show (Jvm.Cond.and c (allAtoms t)).before a st = _
    rw [Jvm.Cond.before_and, ih, List.all_cons]
def words1 : List Jvm.Cond := Jvm.Cond.code x code maxLocals ret :: tables_1
/-- a 'code' word, met by the world's own term for the bytes: nothing is compared byte by byte -/
theorem code_word {y : MethodName} {bytes : ByteArray} {mx : Nat} {rt : Option FieldType} {a : Array Value} {s : State} {m : MethodId} {meth : Method} {c : Code} (h1 : s.methodNamed? y = some m) (h2 : s.vm.method? m = some meth) (h3 : meth.code = some c) (h4 : c.code = bytes)
    (h5 : (c.maxLocals == mx && c.exceptionTable.isEmpty && decide (c.maxStack ≤ mostOperands) && decide (meth.sig.returnType = rt) && !meth.locks && decide (parseMethodDescriptor y.desc = some meth.sig)) = true) : (Jvm.Cond.code y bytes mx rt).before a s = true := by
  simp only [Bool.and_eq_true, beq_iff_eq, Bool.not_eq_true', decide_eq_true_eq] at h5
  obtain ⟨⟨⟨⟨⟨g1, g2⟩, g3⟩, g4⟩, g5⟩, g6⟩ := h5
  simp [Cond.before, Cond.holds, Cond.value, h1, h2, h3, h4, g1, g2, g3, g4, g5, g6]
def isCode : Jvm.Cond → Bool
  | .code _ _ _ _ => true
  | _ => false
theorem all_split {L : List Jvm.Cond} {P : Jvm.Cond → Bool} (h1 : L.all (fun c => isCode c || P c) = true) (h2 : ∀ c ∈ L.filter isCode, P c = true) : L.all P = true := by
  refine List.all_eq_true.mpr fun c hc => ?_
  have h := List.all_eq_true.mp h1 c hc
  rcases Bool.eq_false_or_eq_true (isCode c) with hi | hi
  · exact h2 c (List.mem_filter.mpr ⟨hc, hi⟩)
  · simpa [hi] using h
set_option maxRecDepth 65536 in
theorem w_c0 : (Jvm.Cond.code x code maxLocals ret).before args0 about1 = true := code_word (m := ⟨1, 1⟩) (meth := k1m1) (c := k1c1) (by decide +kernel) rfl rfl rfl (by decide +kernel)
set_option maxRecDepth 65536 in
theorem w_c1 : (Jvm.Cond.code ({ cls := "com/example/quadratur/quadratur/method/GaussKronrod$FarEnd", name := "<init>", desc := "(DDD)V" } : Jvm.MethodName) prog_41_method_1_code (7 : Nat) (Option.none : Option Jvm.ClassFile.FieldType)).before args0 about1 = true := code_word (m := ⟨2, 0⟩) (meth := k2m0) (c := k2c0) (by decide +kernel) rfl rfl rfl (by decide +kernel)
set_option maxRecDepth 65536 in
theorem w_c2 : (Jvm.Cond.code ({ cls := "java/lang/Object", name := "<init>", desc := "()V" } : Jvm.MethodName) object_method_1_code (1 : Nat) (Option.none : Option Jvm.ClassFile.FieldType)).before args0 about1 = true := code_word (m := ⟨0, 0⟩) (meth := k0m0) (c := k0c0) (by decide +kernel) rfl rfl rfl (by decide +kernel)
set_option maxRecDepth 65536 in
theorem w_c3 : (Jvm.Cond.code ({ cls := "com/example/quadratur/quadratur/method/GaussKronrod$Piece", name := "<init>", desc := "(DDDDDDDDDDLcom/example/quadratur/quadratur/method/GaussKronrod$FarEnd;DDDDDDDDDDDDIIDDD)V" } : Jvm.MethodName) prog_42_method_1_code (54 : Nat) (Option.none : Option Jvm.ClassFile.FieldType)).before args0 about1 = true := code_word (m := ⟨3, 0⟩) (meth := k3m0) (c := k3c0) (by decide +kernel) rfl rfl rfl (by decide +kernel)
set_option maxRecDepth 65536 in
theorem w_c4 : (Jvm.Cond.code ({ cls := "com/example/quadratur/quadratur/method/GaussKronrod$Piece", name := "holds", desc := "(D)Z" } : Jvm.MethodName) prog_42_method_6_code (3 : Nat) (Option.some Jvm.ClassFile.FieldType.boolean)).before args0 about1 = true := code_word (m := ⟨3, 1⟩) (meth := k3m1) (c := k3c1) (by decide +kernel) rfl rfl rfl (by decide +kernel)
def codes1 : List Jvm.Cond := [Jvm.Cond.code x code maxLocals ret, Jvm.Cond.code ({ cls := "com/example/quadratur/quadratur/method/GaussKronrod$FarEnd", name := "<init>", desc := "(DDD)V" } : Jvm.MethodName) prog_41_method_1_code (7 : Nat) (Option.none : Option Jvm.ClassFile.FieldType), Jvm.Cond.code ({ cls := "java/lang/Object", name := "<init>", desc := "()V" } : Jvm.MethodName) object_method_1_code (1 : Nat) (Option.none : Option Jvm.ClassFile.FieldType), Jvm.Cond.code ({ cls := "com/example/quadratur/quadratur/method/GaussKronrod$Piece", name := "<init>", desc := "(DDDDDDDDDDLcom/example/quadratur/quadratur/method/GaussKronrod$FarEnd;DDDDDDDDDDDDIIDDD)V" } : Jvm.MethodName) prog_42_method_1_code (54 : Nat) (Option.none : Option Jvm.ClassFile.FieldType), Jvm.Cond.code ({ cls := "com/example/quadratur/quadratur/method/GaussKronrod$Piece", name := "holds", desc := "(D)Z" } : Jvm.MethodName) prog_42_method_6_code (3 : Nat) (Option.some Jvm.ClassFile.FieldType.boolean)]
set_option maxRecDepth 65536 in
theorem codes_eq : words1.filter isCode = codes1 := rfl
theorem w_codes : ∀ c ∈ words1.filter isCode, c.before args0 about1 = true := by
  rw [codes_eq]
  intro c hc
  simp only [codes1, List.mem_cons, List.not_mem_nil, or_false] at hc
  rcases hc with rfl | rfl | rfl | rfl | rfl
  · exact w_c0
  · exact w_c1
  · exact w_c2
  · exact w_c3
  · exact w_c4
set_option maxRecDepth 65536 in
theorem w_t1 : (words1.take 24).all (fun c => isCode c || c.before args0 about1) = true := by decide +kernel
set_option maxRecDepth 65536 in
theorem w_t2 : ((words1.drop 24).take 24).all (fun c => isCode c || c.before args0 about1) = true := by decide +kernel
set_option maxRecDepth 65536 in
theorem w_t3 : (((words1.drop 24).drop 24).take 24).all (fun c => isCode c || c.before args0 about1) = true := by decide +kernel
set_option maxRecDepth 65536 in
theorem w_t4 : (((words1.drop 24).drop 24).drop 24).all (fun c => isCode c || c.before args0 about1) = true := by decide +kernel
theorem w_tables : (allAtoms (Jvm.Cond.code x code maxLocals ret :: tables_1)).before args0 about1 = true := by
  rw [allAtoms_all]
  show words1.all (fun c => c.before args0 about1) = true
  refine all_split ?_ w_codes
  rw [← List.take_append_drop 24 words1, List.all_append, w_t1, ← List.take_append_drop 24 (words1.drop 24), List.all_append, w_t2, ← List.take_append_drop 24 ((words1.drop 24).drop 24), List.all_append, w_t3, w_t4]
  rfl
set_option maxRecDepth 65536 in
theorem w_case : (Jvm.Cond.and given_1 narrow_1).before args0 about1 = true := by decide +kernel
theorem w_applies : (headSpec (Jvm.Cond.code x code maxLocals ret :: tables_1) room_1).applies x e0.platform about1 = true :=
  (Spec.applies_iff w_frames).mpr ⟨w_running, w_runnable, w_alone, w_named, w_hears, w_ripe, w_room, w_tables⟩
theorem atStart : AtStart classFile x code maxLocals ret World_1 tables_1 room_1 Calls_1 rest_1 Pre_1 launch0 p0 e0 about1 theMethod args0 below0 :=
  ⟨lists_1, trivial, launch0.admits_env _ _ _, launch0.least_env, fairChoices_fair.cas, fairChoices_fair.clock, w_frames, w_args, w_heap, w_applies, trivial, trivial, w_case⟩
end start1
theorem witness_1 : WitnessClaimed_1 := ⟨start1.p0, start1.e0, start1.about1, start1.theMethod, start1.args0, start1.below0, start1.atStart⟩
end Jvm.Pilot.@@N@@
