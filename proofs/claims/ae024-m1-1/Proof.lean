import JvmDerived
import JvmDerived.Pilot.@@N@@Statement
import JvmDerived.Pilot.@@N@@Code
set_option linter.unusedVariables false
set_option linter.unusedSimpArgs false
namespace Jvm.RoadKit
open Sem ClassFile Op Lib Jvm.Stand Jvm.Free Jvm.LawKit
section New
variable {p : Program} {l : Launch} {e : Env} {R : Room} {s : State} {m : MethodId} {args : Array Value} {below : List Frame} {meth : Method} {c : Code} {T : State} {locs : List Loc} {cells slots : Nat}
theorem retI (X : Stand p l e R s m args below meth c T locs cells slots) (hx : p.tables.exec = Jvm.exec) {pc : Nat} {Ls : Array Slot} {z : Int32} {rest : List Value} (hret : meth.sig.returnType = some .int) (hd : decode c.code pc = .ok (.ireturn, 1)) {fs : List Frame}
    (hl : ∀ (f : JFrame) (acts : List Action), f.method = m → f.locked = none → f.entered = [] → (doReturn e (T.setTop f) acts (some (.int z))).1 = T.setFrames fs) : Steps p.tables e below (T.setTop (mkF m pc Ls (.int z :: rest))) (T.setFrames fs) := by
  have hm' : T.vm.method? m = some meth := X.method'
  have hn : narrow .int (.int z) = .int z := rfl
  show Steps p.tables e below (T.setTop { method := m, pc := pc, locals := Ls, stack := _ :: rest, locked := none }) _
  jvm_step X.here [X.here.top, hx, hd, hm', hret, hn]
  first | (intro acts; rw [hl _ acts rfl rfl rfl]) | rw [hl _ _ rfl rfl rfl]
  exact Steps.refl _
theorem retD (X : Stand p l e R s m args below meth c T locs cells slots) (hx : p.tables.exec = Jvm.exec) {pc : Nat} {Ls : Array Slot} {z : UInt64} {rest : List Value} (hret : meth.sig.returnType = some .double) (hd : decode c.code pc = .ok (.dreturn, 1)) {fs : List Frame}
    (hl : ∀ (f : JFrame) (acts : List Action), f.method = m → f.locked = none → f.entered = [] → (doReturn e (T.setTop f) acts (some (.double z))).1 = T.setFrames fs) : Steps p.tables e below (T.setTop (mkF m pc Ls (.double z :: rest))) (T.setFrames fs) := by
  have hm' : T.vm.method? m = some meth := X.method'
  show Steps p.tables e below (T.setTop { method := m, pc := pc, locals := Ls, stack := _ :: rest, locked := none }) _
  jvm_step X.here [X.here.top, hx, hd, hm', hret]
  first | (intro acts; rw [hl _ acts rfl rfl rfl]) | rw [hl _ _ rfl rfl rfl]
  exact Steps.refl _
end New
/-- a body that leaves the heap as it was -/
def QP (w : Value) (h0 : Heap) (n0 : Nat) (v : Option Value) (h : Heap) (L : List Loc) : Prop := v = some w ∧ Fr n0 L ∧ h = h0
/-- the law says true, and writes into nothing that stood at the start -/
def QL (n0 : Nat) (v : Option Value) (h : Heap) (L : List Loc) : Prop := v = some (.int 1) ∧ Fr n0 L
end Jvm.RoadKit

/-! OwnFP: rounding, in units of the least double. My own text, pasted into each proof. -/
namespace Jvm.Own
open Jvm.FP.Core Jvm.Free.Fl
/-- a power of two that nothing reckons out -/
def PN (j : Nat) : Nat := 2 ^ j
theorem PN_pos (j : Nat) : 0 < PN j := Nat.two_pow_pos _
theorem PN_posI (j : Nat) : (0 : Int) < (PN j : Int) := Int.ofNat_lt.mpr (PN_pos j)
theorem PN_add (i j : Nat) : PN (i + j) = PN i * PN j := Nat.pow_add ..
theorem PN_addI (i j : Nat) : (PN (i + j) : Int) = (PN i : Int) * (PN j : Int) := by rw [PN_add, Int.natCast_mul]
/-- a double as a whole number of 2^-1074 -/
def z (a : UInt64) : Int := zval b64 (val64 a)
theorem z_fin {a : UInt64} {s : Bool} {c : Nat} {q : Int} (h : val64 a = .fin s c q) : z a = signed s (inUnits c q b64.qmin) := by
  unfold z; rw [h]; rfl
/-- r is the rounding of N / D, in these units -/
def Rnd (N : Int) (D : Nat) (r : UInt64) : Prop := 0 < D ∧ ∃ s, signed s N.natAbs = N ∧ val64 r = roundRatio b64 s N.natAbs D b64.qmin
theorem DFin.fits {a : UInt64} {s : Bool} {c : Nat} {q : Int} (h : val64 a = .fin s c q) : Jvm.FP.Core.fits b64 (.fin s c q) := h ▸ val64_fits a
theorem rnd_dadd {a b : UInt64} (ha : DFin a) (hb : DFin b) : Rnd (z a + z b) 1 (dadd a b) := by
  obtain ⟨s, c, q, h1⟩ := ha
  obtain ⟨t, d, r, h2⟩ := hb
  obtain ⟨sg, n, e, hs, he, hu⟩ := sum_units (DFin.fits h1) (DFin.fits h2)
  have hz : z a + z b = signed sg (inUnits n e b64.qmin) := by unfold z; rw [h1, h2, hu]
  have hn : (z a + z b).natAbs = inUnits n e b64.qmin := by rw [hz, natAbs_signed]
  refine ⟨by decide, sg, by rw [hn, hz], ?_⟩
  rw [val64_dadd, h1, h2, hs, hn]
  show roundRatio b64 sg n 1 e = _
  refine roundRatio_congr (by decide) (by decide) ?_
  rw [show (b64.qmin - e).toNat = 0 by omega]
  simp [inUnits]
theorem z_neg {b : UInt64} : z (Jvm.FP.Core.dneg b) = - z b := by unfold z; rw [val64_dneg, zval_negate]
theorem fin_neg {b : UInt64} (hb : DFin b) : DFin (Jvm.FP.Core.dneg b) := by
  obtain ⟨t, d, r, h2⟩ := hb
  exact ⟨!t, d, r, by rw [val64_dneg, h2]; rfl⟩
theorem z_dneg {b : UInt64} : z (Jvm.FP.dneg b) = - z b := by unfold z; rw [Jvm.FP.val64_dneg, zval_negate]
theorem fin_dneg {b : UInt64} (hb : DFin b) : DFin (Jvm.FP.dneg b) := by
  obtain ⟨t, d, r, h2⟩ := hb
  exact ⟨!t, d, r, by rw [Jvm.FP.val64_dneg, h2]; rfl⟩
theorem rnd_dsub {a b : UInt64} (ha : DFin a) (hb : DFin b) : Rnd (z a - z b) 1 (dsub a b) := by
  have h := rnd_dadd ha (fin_neg hb)
  rw [z_neg] at h
  rw [dsub_eq, Int.sub_eq_add_neg]
  exact h
theorem qm : b64.qmin = -1074 := qmin_b64
theorem rnd_dmul {a b : UInt64} (ha : DFin a) (hb : DFin b) : Rnd (z a * z b) (PN 1074) (dmul a b) := by
  obtain ⟨s, c, q, h1⟩ := ha
  obtain ⟨t, d, r, h2⟩ := hb
  obtain ⟨hp, hq, hu⟩ := product_units (DFin.fits h1) (DFin.fits h2)
  have hz : z a * z b = signed (s != t) (inUnits (c * d) (q + r) (2 * b64.qmin)) := by
    rw [hu, signed_xor]; unfold z; rw [h1, h2]; rfl
  have hn : (z a * z b).natAbs = inUnits (c * d) (q + r) (2 * b64.qmin) := by rw [hz, natAbs_signed]
  refine ⟨PN_pos _, s != t, by rw [hn, hz], ?_⟩
  rw [val64_dmul, h1, h2, hp, hn]
  show roundRatio b64 (s != t) (c * d) 1 (q + r) = _
  refine roundRatio_congr (by decide) (PN_pos _) ?_
  unfold inUnits PN
  have := qm
  generalize hk : (1074 : Nat) = K at *
  calc c * d * 2 ^ K * 2 ^ (q + r - b64.qmin).toNat = c * d * 2 ^ (K + (q + r - b64.qmin).toNat) := by rw [Nat.pow_add]; ac_rfl
    _ = c * d * 2 ^ ((q + r - 2 * b64.qmin).toNat + (b64.qmin - (q + r)).toNat) := by congr 2; omega
    _ = _ := by rw [Nat.pow_add]; ac_rfl
theorem pos_sign {b : UInt64} {t : Bool} {d : Nat} {r : Int} (h2 : val64 b = .fin t d r) (hb : 0 < z b) : t = false ∧ d ≠ 0 ∧ (z b).natAbs = d * 2 ^ (r - b64.qmin).toNat := by
  have h := z_fin h2
  have hn : (z b).natAbs = d * 2 ^ (r - b64.qmin).toNat := by rw [h, natAbs_signed]; rfl
  refine ⟨?_, ?_, hn⟩
  · cases t
    · rfl
    · simp only [signed, if_true] at h; omega
  · rintro rfl
    rw [Nat.zero_mul] at hn; omega
theorem rnd_ddiv {a b : UInt64} (ha : DFin a) (hb : DFin b) (hp : 0 < z b) : Rnd (z a * (PN 1074 : Int)) (z b).natAbs (ddiv a b) := by
  obtain ⟨s, c, q, h1⟩ := ha
  obtain ⟨t, d, r, h2⟩ := hb
  obtain ⟨rfl, hd0, hD⟩ := pos_sign h2 hp
  have hza : z a * (PN 1074 : Int) = signed s (inUnits c q b64.qmin * PN 1074) := by rw [z_fin h1, signed_mul]
  have hn : (z a * (PN 1074 : Int)).natAbs = inUnits c q b64.qmin * PN 1074 := by rw [hza, natAbs_signed]
  refine ⟨by omega, s, by rw [hn, hza], ?_⟩
  rw [val64_ddiv, h1, h2, hn, hD]
  simp only [quotient, if_neg hd0]
  rw [show (s != false) = s by cases s <;> rfl]
  refine roundRatio_congr (by omega) (Nat.mul_pos (by omega) (Nat.two_pow_pos _)) ?_
  have f1 := (DFin.fits h1).2.1
  have f2 := (DFin.fits h2).2.1
  unfold inUnits PN
  have := qm
  generalize hk : (1074 : Nat) = K at *
  calc c * (d * 2 ^ (r - b64.qmin).toNat) * 2 ^ (q - r - b64.qmin).toNat = c * d * 2 ^ ((r - b64.qmin).toNat + (q - r - b64.qmin).toNat) := by rw [Nat.pow_add]; ac_rfl
    _ = c * d * 2 ^ ((q - b64.qmin).toNat + K + (b64.qmin - (q - r)).toNat) := by congr 2; omega
    _ = _ := by rw [Nat.pow_add, Nat.pow_add]; ac_rfl
theorem rnd_l2d (v : Int64) : Rnd (v.toInt * (PN 1074 : Int)) 1 (l2d v) := by
  have hP := PN_posI 1074
  have hn : (v.toInt * (PN 1074 : Int)).natAbs = v.toInt.natAbs * PN 1074 := by rw [Int.natAbs_mul, Int.natAbs_natCast]
  refine ⟨by decide, decide (v.toInt < 0), ?_, ?_⟩
  · rw [hn, signed_mul]
    congr 1
    by_cases h : v.toInt < 0
    · simp only [signed, h, decide_true, if_true]; omega
    · simp only [signed, h, decide_false, Bool.false_eq_true, if_false]; omega
  · rw [val64_l2d, hn]
    show roundRatio b64 (decide (v.toInt < 0)) v.toInt.natAbs 1 0 = _
    refine roundRatio_congr (by decide) (by decide) ?_
    have := qm
    rw [show (0 - b64.qmin).toNat = 1074 by omega, show (b64.qmin - 0).toNat = 0 by omega]
    show v.toInt.natAbs * 1 * PN 1074 = v.toInt.natAbs * PN 1074 * 1 * 2 ^ 0
    rw [Nat.pow_zero, Nat.mul_one, Nat.mul_one, Nat.mul_one]
theorem i2d_l2d' (v : Int32) : i2d v = l2d v.toInt64 := i2d_l2d v
theorem rnd_i2d (v : Int32) : Rnd (v.toInt * (PN 1074 : Int)) 1 (i2d v) := by
  have h := rnd_l2d v.toInt64
  rw [Int32.toInt_toInt64] at h
  rw [i2d_l2d]; exact h
theorem Rnd.ne_nan {N : Int} {D : Nat} {r : UInt64} (h : Rnd N D r) : val64 r ≠ .nan := by
  obtain ⟨-, s, -, h⟩ := h
  rw [h]; exact roundRatio_ne_nan _ _ _ _ _
/-- the quotient alone counts -/
theorem Rnd.scale {N : Int} {D : Nat} {r : UInt64} (k : Nat) (hk : 0 < k) (h : Rnd (N * (k : Int)) (D * k) r) : Rnd N D r := by
  obtain ⟨hD, s, hs, hv⟩ := h
  have hD' : 0 < D := Nat.pos_of_mul_pos_right hD
  have hn : (N * (k : Int)).natAbs = N.natAbs * k := by rw [Int.natAbs_mul, Int.natAbs_natCast]
  refine ⟨hD', s, ?_, ?_⟩
  · rw [hn, signed_mul] at hs
    exact Int.eq_of_mul_eq_mul_right (by omega) hs
  · rw [hv, hn]
    refine roundRatio_congr hD hD' ?_
    simp only [Int.sub_self, Int.toNat_zero, Nat.pow_zero, Nat.mul_one]
    ac_rfl
theorem Rnd.up {N : Int} {D : Nat} {r : UInt64} (k : Nat) (hk : 0 < k) (h : Rnd N D r) : Rnd (N * (k : Int)) (D * k) r := by
  obtain ⟨hD, s, hs, hv⟩ := h
  have hn : (N * (k : Int)).natAbs = N.natAbs * k := by rw [Int.natAbs_mul, Int.natAbs_natCast]
  refine ⟨Nat.mul_pos hD hk, s, ?_, ?_⟩
  · rw [hn, signed_mul, hs]
  · rw [hv, hn]
    refine roundRatio_congr hD (Nat.mul_pos hD hk) ?_
    simp only [Int.sub_self, Int.toNat_zero, Nat.pow_zero, Nat.mul_one]
    ac_rfl
theorem Rnd.z_eq {N : Int} {D : Nat} {r : UInt64} {s : Bool} (h : val64 r = roundRatio b64 s N.natAbs D b64.qmin) : z r = signed s (zmag b64 (val64 r)) := by
  unfold z zval
  rw [show sgn (val64 r) = s by rw [h, sgn_roundRatio]]
theorem DFin.ne {a : UInt64} (h : DFin a) : val64 a ≠ .nan := h.ne_nan
theorem Rnd.le {N : Int} {D : Nat} {r V : UInt64} (h : Rnd N D r) (hV : DFin V) (hle : N ≤ z V * (D : Int)) : z r ≤ z V := by
  obtain ⟨hD, s, hs, hv⟩ := h
  have h1 := zmag_roundRatio_le good_b64 (s := s) (A := N.natAbs) (e := b64.qmin) (e0 := b64.qmin) hD (val64_fits V) hV.ne_nan (Int.le_refl _) (Int.le_refl _)
  have h2 := zmag_roundRatio_ge good_b64 (s := s) (A := N.natAbs) (e := b64.qmin) (e0 := b64.qmin) hD (val64_fits V) (Int.le_refl _) (Int.le_refl _)
  rw [← hv] at h1 h2
  have e1 : inUnits N.natAbs b64.qmin b64.qmin = N.natAbs := by simp [inUnits]
  rw [e1, Int.sub_self, Int.toNat_zero, Nat.pow_zero, Nat.mul_one] at h1 h2
  rw [Rnd.z_eq hv]
  have hzV : z V = signed (sgn (val64 V)) (zmag b64 (val64 V)) := rfl
  rw [hzV, ← signed_mul] at hle
  rw [hzV]
  have hz : zmag b64 (val64 V) * D = 0 → zmag b64 (val64 V) = 0 := by
    intro h
    rcases Nat.mul_eq_zero.mp h with h | h <;> omega
  generalize zmag b64 (val64 V) * D = vP at *
  generalize zmag b64 (val64 V) = v at *
  generalize zmag b64 (val64 r) = x at *
  generalize sgn (val64 V) = t at *
  cases s <;> cases t <;> simp only [signed, if_true, Bool.false_eq_true, if_false] at hle hs ⊢
  · have := h1 (by omega); omega
  · have := h1 (by omega); have := hz (by omega); omega
  · omega
  · have := h2 (by omega); omega
theorem Rnd.ge {N : Int} {D : Nat} {r V : UInt64} (h : Rnd N D r) (hV : DFin V) (hle : z V * (D : Int) ≤ N) : z V ≤ z r := by
  obtain ⟨hD, s, hs, hv⟩ := h
  have h1 := zmag_roundRatio_le good_b64 (s := s) (A := N.natAbs) (e := b64.qmin) (e0 := b64.qmin) hD (val64_fits V) hV.ne_nan (Int.le_refl _) (Int.le_refl _)
  have h2 := zmag_roundRatio_ge good_b64 (s := s) (A := N.natAbs) (e := b64.qmin) (e0 := b64.qmin) hD (val64_fits V) (Int.le_refl _) (Int.le_refl _)
  rw [← hv] at h1 h2
  have e1 : inUnits N.natAbs b64.qmin b64.qmin = N.natAbs := by simp [inUnits]
  rw [e1, Int.sub_self, Int.toNat_zero, Nat.pow_zero, Nat.mul_one] at h1 h2
  rw [Rnd.z_eq hv]
  have hzV : z V = signed (sgn (val64 V)) (zmag b64 (val64 V)) := rfl
  rw [hzV, ← signed_mul] at hle
  rw [hzV]
  have hz : zmag b64 (val64 V) * D = 0 → zmag b64 (val64 V) = 0 := by
    intro h
    rcases Nat.mul_eq_zero.mp h with h | h <;> omega
  generalize zmag b64 (val64 V) * D = vP at *
  generalize zmag b64 (val64 V) = v at *
  generalize zmag b64 (val64 r) = x at *
  generalize sgn (val64 V) = t at *
  cases s <;> cases t <;> simp only [signed, if_true, Bool.false_eq_true, if_false] at hle hs ⊢
  · have := h2 (by omega); omega
  · omega
  · have := h1 (by omega); have := hz (by omega); omega
  · have := h1 (by omega); omega
/-- a double between two finite ones is finite -/
theorem fin_between {r L H : UInt64} (hn : val64 r ≠ .nan) (hL : DFin L) (hH : DFin H) (h1 : z L ≤ z r) (h2 : z r ≤ z H) : DFin r := by
  obtain ⟨s, c, q, a1⟩ := hL
  obtain ⟨t, d, k, b1⟩ := hH
  have l1 := zmag_lt_top good_b64 (DFin.fits a1)
  have l2 := zmag_lt_top good_b64 (DFin.fits b1)
  rw [z_fin a1] at h1
  rw [z_fin b1] at h2
  cases hr : val64 r with
  | nan => exact absurd hr hn
  | fin s' c' q' => exact ⟨s', c', q', hr⟩
  | inf s' =>
    exfalso
    have hzr : z r = signed s' (b64.tails * 2 ^ (b64.exps - 2)) := by unfold z; rw [hr]; rfl
    rw [hzr] at h1 h2
    generalize b64.tails * 2 ^ (b64.exps - 2) = top at *
    generalize inUnits c q b64.qmin = u at *
    generalize inUnits d k b64.qmin = w at *
    cases s' <;> cases s <;> cases t <;> simp only [signed, if_true, Bool.false_eq_true, if_false] at h1 h2 <;> omega
/-- numbers of at most 53 digits are doubles -/
theorem rep (m : Int) (j : Nat) (hm : m.natAbs ≤ 2 ^ 53) (hj : j ≤ 2000) : ∃ V : UInt64, DFin V ∧ z V = m * (PN j : Int) := by
  have key : ∀ (m : Int) (j : Nat), m.natAbs < 2 ^ 53 → j ≤ 2001 → ∃ V : UInt64, DFin V ∧ z V = m * (PN j : Int) := by
    intro m j hm hj
    have hq : b64.qmin = -1074 := qm
    have hx : b64.qmax = 971 := by decide
    obtain ⟨c', q', h1, h2⟩ := round_exact good_b64 (decide (m < 0)) (c := m.natAbs) (q := (j : Int) - 1074) hm (by omega) (by omega)
    have hf := round_fits good_b64 (.fin (decide (m < 0)) m.natAbs ((j : Int) - 1074))
    refine ⟨of64 (round b64 (.fin (decide (m < 0)) m.natAbs ((j : Int) - 1074))), ⟨_, _, _, by rw [val64_of64 hf, h1]⟩, ?_⟩
    rw [z_fin (by rw [val64_of64 hf, h1]), h2]
    unfold inUnits
    rw [show ((j : Int) - 1074 - b64.qmin).toNat = j by omega, signed_mul]
    show signed (decide (m < 0)) m.natAbs * (PN j : Int) = m * (PN j : Int)
    congr 1
    by_cases h : m < 0
    · simp only [signed, h, decide_true, if_true]; omega
    · simp only [signed, h, decide_false, Bool.false_eq_true, if_false]; omega
  by_cases h : m.natAbs < 2 ^ 53
  · exact key m j h (by omega)
  · obtain ⟨V, hV, hz⟩ := key (m / 2) (j + 1) (by omega) (by omega)
    refine ⟨V, hV, ?_⟩
    have h2 : m = 2 * (m / 2) := by omega
    rw [hz, PN_addI, show (PN 1 : Int) = 2 from rfl]
    conv => rhs; rw [h2]
    generalize (PN j : Int) = P
    rw [Int.mul_comm P, ← Int.mul_assoc]
    congr 1
    exact Int.mul_comm _ _
theorem Rnd.fin_of {N : Int} {D : Nat} {r L H : UInt64} (h : Rnd N D r) (hL : DFin L) (hH : DFin H) (h1 : z L * (D : Int) ≤ N) (h2 : N ≤ z H * (D : Int)) : DFin r :=
  fin_between h.ne_nan hL hH (h.ge hL h1) (h.le hH h2)
/-- an exact quotient isn't rounded -/
theorem Rnd.exact {N : Int} {D : Nat} {r : UInt64} (h : Rnd N D r) (m : Int) (j : Nat) (hm : m.natAbs ≤ 2 ^ 53) (hj : j ≤ 2000) (hN : N = m * (PN j : Int) * (D : Int)) : DFin r ∧ z r = m * (PN j : Int) := by
  obtain ⟨V, hV, hz⟩ := rep m j hm hj
  have e : N = z V * (D : Int) := by rw [hz]; exact hN
  exact ⟨h.fin_of hV hV (by omega) (by omega), by have := h.le hV (by omega); have := h.ge hV (by omega); omega⟩
/-- off by less than g = 2^j, where the quotient is at most 2^53 g -/
theorem Rnd.near {N : Int} {D : Nat} {r : UInt64} (h : Rnd N D r) (j : Nat) (hj : j ≤ 2000) (h1 : -(2 ^ 53 * (PN j : Int) * (D : Int)) ≤ N) (h2 : N ≤ (2 ^ 53 - 1) * (PN j : Int) * (D : Int)) :
    DFin r ∧ N - (PN j : Int) * (D : Int) < z r * (D : Int) ∧ z r * (D : Int) < N + (PN j : Int) * (D : Int) := by
  have hD : 0 < D := h.1
  have hg : (0 : Int) < (PN j : Int) * (D : Int) := Int.mul_pos (PN_posI j) (by omega)
  have e1 := Int.mul_ediv_add_emod N ((PN j : Int) * (D : Int))
  have e2 := Int.emod_nonneg N (b := (PN j : Int) * (D : Int)) (by omega)
  have e3 := Int.emod_lt_of_pos N hg
  rw [Int.mul_assoc] at h1 h2
  have l1 : -(2 ^ 53) ≤ N / ((PN j : Int) * (D : Int)) := by
    refine (Int.le_ediv_iff_mul_le hg).mpr ?_
    rw [Int.neg_mul]; exact h1
  have l2 : N / ((PN j : Int) * (D : Int)) ≤ 2 ^ 53 - 1 := by
    refine Int.le_trans (Int.ediv_le_ediv hg h2) ?_
    rw [Int.mul_ediv_cancel _ (by omega)]; exact Int.le_refl _
  obtain ⟨L, hL, zL⟩ := rep (N / ((PN j : Int) * (D : Int))) j (by omega) hj
  obtain ⟨H, hH, zH⟩ := rep (N / ((PN j : Int) * (D : Int)) + 1) j (by omega) hj
  generalize N / ((PN j : Int) * (D : Int)) = m at *
  generalize N % ((PN j : Int) * (D : Int)) = t at *
  have c1 : z L * (D : Int) ≤ N := by
    rw [zL, Int.mul_assoc, Int.mul_comm m]; omega
  have c2 : N ≤ z H * (D : Int) := by
    rw [zH, Int.mul_assoc, Int.add_mul, Int.one_mul, Int.mul_comm m]; omega
  have c3 := Int.mul_le_mul_of_nonneg_right (h.ge hL c1) (c := (D : Int)) (by omega)
  have c4 := Int.mul_le_mul_of_nonneg_right (h.le hH c2) (c := (D : Int)) (by omega)
  refine ⟨h.fin_of hL hH c1 c2, ?_, ?_⟩
  · rw [zL, Int.mul_assoc, Int.mul_comm m] at c3; omega
  · rw [zH, Int.mul_assoc, Int.add_mul, Int.one_mul, Int.mul_comm m] at c4
    by_cases t0 : t = 0
    · have c5 := Int.mul_le_mul_of_nonneg_right (h.le hL (by rw [zL, Int.mul_assoc, Int.mul_comm m]; omega)) (c := (D : Int)) (by omega)
      rw [zL, Int.mul_assoc, Int.mul_comm m] at c5; omega
    · omega
theorem z_inj_zero {a : UInt64} (h : DFin a) : z a = 0 ↔ DZero a := by
  obtain ⟨s, c, q, h1⟩ := h
  rw [z_fin h1, signed_eq_zero]
  constructor
  · intro h
    have : c = 0 := by
      rcases Nat.mul_eq_zero.mp (show c * _ = 0 from h) with h | h
      · exact h
      · have := Nat.two_pow_pos (q - b64.qmin).toNat; omega
    exact ⟨s, q, this ▸ h1⟩
  · rintro ⟨s', q', h2⟩
    rw [h1] at h2
    cases h2
    exact Nat.zero_mul _
/-- nothing is nearer -/
theorem Rnd.nearest {N : Int} {D : Nat} {r V : UInt64} (h : Rnd N D r) (f : DFin r) (hV : DFin V) : (N - z r * (D : Int)).natAbs ≤ (N - z V * (D : Int)).natAbs := by
  obtain ⟨hD, s, hs, hv⟩ := h
  obtain ⟨s1, c, q, h1⟩ := f
  obtain ⟨t, c', q', h2⟩ := hV
  have f2 := DFin.fits h2
  rw [h1] at hv
  have hsg : s1 = s := by
    have := sgn_roundRatio b64 s N.natAbs D b64.qmin
    rw [← hv] at this; exact this
  subst hsg
  have d1 := roundRatio_nearest good_b64 hD hv.symm f2.1 f2.2.1 (Int.le_refl b64.qmin) (Int.le_refl b64.qmin)
  have d0 := roundRatio_nearest good_b64 (c' := 0) (q' := b64.qmin) hD hv.symm (Nat.two_pow_pos _) (Int.le_refl _) (Int.le_refl b64.qmin) (Int.le_refl b64.qmin)
  unfold distance at d1 d0
  have e1 : inUnits N.natAbs b64.qmin b64.qmin = N.natAbs := by simp [inUnits]
  have e0 : inUnits 0 b64.qmin b64.qmin = 0 := by simp [inUnits]
  rw [e1] at d1 d0
  rw [e0] at d0
  rw [z_fin h1, z_fin h2]
  generalize inUnits c q b64.qmin = u at *
  generalize inUnits c' q' b64.qmin = w at *
  generalize N.natAbs = A at *
  subst hs
  rw [← signed_mul, ← signed_mul]
  rw [← Int.natCast_mul] at d1 d0
  rw [← Int.natCast_mul] at d1 d0
  generalize u * D = X at *
  generalize w * D = Y at *
  cases s1 <;> cases t <;> simp only [signed, if_true, Bool.false_eq_true, if_false] <;> omega
theorem Rnd.same' {X : Int} {P : Nat} {r r' : UInt64} (h : Rnd X P r) (h' : Rnd X P r') : z r = z r' := by
  obtain ⟨hD, s, hs, hv⟩ := h
  obtain ⟨-, s', hs', hv'⟩ := h'
  by_cases e : s = s'
  · subst e
    unfold z; rw [hv, hv']
  · have h0 : X.natAbs = 0 := by
      clear hv hv'
      generalize X.natAbs = A at *
      cases s <;> cases s' <;> simp only [signed, if_true, Bool.false_eq_true, if_false] at hs hs' <;> first | omega | exact absurd rfl e
    have k : ∀ (s : Bool) (r : UInt64), val64 r = roundRatio b64 s X.natAbs P b64.qmin → z r = 0 := by
      intro s r hr
      rw [h0] at hr
      unfold roundRatio at hr
      rw [if_pos rfl] at hr
      rw [z_fin hr, signed_eq_zero]
      exact Nat.zero_mul _
    rw [k s r hv, k s' r' hv']
theorem Rnd.same {N N' : Int} {D D' : Nat} {r r' : UInt64} (h : Rnd N D r) (h' : Rnd N' D' r') (e : N * (D' : Int) = N' * (D : Int)) : z r = z r' := by
  have a := h.up D' h'.1
  have b := h'.up D h.1
  rw [← e, Nat.mul_comm] at b
  exact Rnd.same' a b
/-- rounding keeps the order -/
theorem Rnd.mono {N N' : Int} {D D' : Nat} {r r' : UInt64} (h : Rnd N D r) (h' : Rnd N' D' r') (f : DFin r) (f' : DFin r') (hle : N * (D' : Int) ≤ N' * (D : Int)) : z r ≤ z r' := by
  refine Int.le_of_not_gt fun hlt => ?_
  have hD := h.1
  have hD' := h'.1
  have n1 := h.nearest f f'
  have n2 := h'.nearest f' f
  have a1 : z r' * (D : Int) < N := Int.lt_of_not_ge fun q => by have := h.le f' q; omega
  have a2 : N' < z r * (D' : Int) := Int.lt_of_not_ge fun q => by have := h'.ge f q; omega
  have b1 : N < z r * (D : Int) := by
    have c1 := Int.mul_lt_mul_of_pos_right a2 (c := (D : Int)) (by omega)
    have c2 : N * (D' : Int) < z r * (D : Int) * (D' : Int) := by rw [Int.mul_right_comm]; omega
    exact Int.lt_of_mul_lt_mul_right c2 (by omega)
  have b2 : z r' * (D' : Int) < N' := by
    have c1 := Int.mul_lt_mul_of_pos_right a1 (c := (D' : Int)) (by omega)
    have c2 : z r' * (D' : Int) * (D : Int) < N' * (D : Int) := by rw [Int.mul_right_comm]; omega
    exact Int.lt_of_mul_lt_mul_right c2 (by omega)
  have m1 : z r * (D : Int) + z r' * (D : Int) ≤ 2 * N := by omega
  have m2 : 2 * N' ≤ z r * (D' : Int) + z r' * (D' : Int) := by omega
  have k1 := Int.mul_le_mul_of_nonneg_right m1 (c := (D' : Int)) (by omega)
  have k2 := Int.mul_le_mul_of_nonneg_right m2 (c := (D : Int)) (by omega)
  rw [Int.add_mul, Int.mul_assoc] at k1
  rw [Int.add_mul, Int.mul_assoc] at k2
  rw [Int.mul_right_comm (z r), Int.mul_right_comm (z r')] at k2
  rw [← Int.mul_assoc] at k1 k2
  have e : N * (D' : Int) = N' * (D : Int) := by
    rw [Int.mul_assoc 2] at k1
    have k2' : 2 * (N' * (D : Int)) ≤ z r * (D : Int) * (D' : Int) + z r' * (D : Int) * (D' : Int) := by
      rw [← Int.mul_assoc]; omega
    have k1' : z r * (D : Int) * (D' : Int) + z r' * (D : Int) * (D' : Int) ≤ 2 * (N * (D' : Int)) := by
      omega
    omega
  have := h.same h' e
  omega
/-! comparisons -/
theorem nn {a : UInt64} (h : DFin a) : NoNaN64 a := (fin64_core.mpr h).noNaN
theorem cmp_z {a b : UInt64} (ha : DFin a) (hb : DFin b) : Jvm.FP.dcmp a b = some (compare (z a) (z b)) := dcmp_zval ha.ne_nan hb.ne_nan
theorem cmp_lt {a b : UInt64} (ha : DFin a) (hb : DFin b) (h : z a < z b) (o : Jvm.ClassFile.CmpOp) : Jvm.Op.cmpValue (Jvm.FP.dcmp a b) o = -1 := by
  rw [cmp_z ha hb, (compare_lt_iff _ _).mpr h]; rfl
theorem cmp_eq {a b : UInt64} (ha : DFin a) (hb : DFin b) (h : z a = z b) (o : Jvm.ClassFile.CmpOp) : Jvm.Op.cmpValue (Jvm.FP.dcmp a b) o = 0 := by
  rw [cmp_z ha hb, (compare_eq_iff _ _).mpr h]; rfl
theorem cmp_gt {a b : UInt64} (ha : DFin a) (hb : DFin b) (h : z b < z a) (o : Jvm.ClassFile.CmpOp) : Jvm.Op.cmpValue (Jvm.FP.dcmp a b) o = 1 := by
  rw [cmp_z ha hb, (compare_gt_iff _ _).mpr h]; rfl
/-! whole numbers -/
theorem z_i2d (v : Int32) : DFin (i2d v) ∧ z (i2d v) = v.toInt * (PN 1074 : Int) := by
  have h1 := Int32.toInt_lt v
  have h2 := Int32.le_toInt v
  exact (rnd_i2d v).exact v.toInt 1074 (by omega) (by omega) (by simp)
theorem z_l2d {v : Int64} (h : v.toInt.natAbs ≤ 2 ^ 53) : DFin (l2d v) ∧ z (l2d v) = v.toInt * (PN 1074 : Int) :=
  (rnd_l2d v).exact v.toInt 1074 h (by omega) (by simp)
theorem fin_zero : DFin (0 : UInt64) := (fin_bits 0).mpr (by decide)
theorem z_zero : z (0 : UInt64) = 0 := by decide +kernel
theorem fin_one : DFin (4607182418800017408 : UInt64) := (fin_bits _).mpr (by decide)
theorem z_one : z (4607182418800017408 : UInt64) = (PN 1074 : Int) := by decide +kernel
end Jvm.Own

/-! OwnRel: what a branch asks, in whole numbers. -/
namespace Jvm.Own
open Jvm.ClassFile Jvm.Op
def rel : Jvm.ClassFile.Cond → Int → Int → Bool
  | .eq, a, b => decide (a = b)
  | .ne, a, b => decide (¬ a = b)
  | .lt, a, b => decide (a < b)
  | .ge, a, b => decide (b ≤ a)
  | .gt, a, b => decide (b < a)
  | .le, a, b => decide (a ≤ b)
theorem holdsII (cd : Jvm.ClassFile.Cond) (x y : Int32) : if_icmp.holds cd x y = rel cd x.toInt y.toInt := by
  have e : (x = y) ↔ (x.toInt = y.toInt) := Int32.toInt_inj.symm
  cases cd
  · show (x == y) = decide (x.toInt = y.toInt)
    rw [Bool.eq_iff_iff, beq_iff_eq, decide_eq_true_iff]; exact e
  · show (x != y) = decide (¬ x.toInt = y.toInt)
    rw [Bool.eq_iff_iff, bne_iff_ne, decide_eq_true_iff]; exact not_congr e
  all_goals
    simp only [if_icmp.holds, rel, GE.ge, GT.gt]
    rw [Bool.eq_iff_iff, decide_eq_true_iff, decide_eq_true_iff]
    first | exact Int32.lt_iff_toInt_lt | exact Int32.le_iff_toInt_le
theorem holdsI (cd : Jvm.ClassFile.Cond) (x : Int32) : ifCond.holds cd x = rel cd x.toInt 0 := by
  rw [Jvm.RoadKit.if0, holdsII]; rfl
theorem holdsL (cd : Jvm.ClassFile.Cond) (x y : Int64) : ifCond.holds cd (Jvm.RoadKit.lcmpW x y) = rel cd x.toInt y.toInt := by
  have h := Jvm.RoadKit.c_lcmp x y
  rw [holdsI]
  rcases Int.lt_trichotomy x.toInt y.toInt with q | q | q
  · rw [h.1 q]; cases cd <;> simp [rel] <;> omega
  · rw [h.2.1 q]; cases cd <;> simp [rel] <;> omega
  · rw [h.2.2 q]; cases cd <;> simp [rel] <;> omega
theorem holdsD {a b : UInt64} (ha : Jvm.FP.Core.DFin a) (hb : Jvm.FP.Core.DFin b) (cd : Jvm.ClassFile.Cond) (o : CmpOp) : ifCond.holds cd (Jvm.Op.cmpValue (Jvm.FP.dcmp a b) o) = rel cd (z a) (z b) := by
  rw [holdsI]
  rcases Int.lt_trichotomy (z a) (z b) with q | q | q
  · rw [cmp_lt ha hb q]; cases cd <;> simp [rel] <;> omega
  · rw [cmp_eq ha hb q]; cases cd <;> simp [rel] <;> omega
  · rw [cmp_gt ha hb q]; cases cd <;> simp [rel] <;> omega
theorem dT {p : Prop} [Decidable p] (h : p) : decide p = true := decide_eq_true h
theorem dF {p : Prop} [Decidable p] (h : ¬ p) : decide p = false := decide_eq_false h
theorem dup2X1 {tb : Tables} [Ours tb] {e : Env} {below : List Frame} {T target : State} {m : MethodId} {c : Code} {g : JFrame} (h : At T m c below) (hx : tb.exec = Jvm.exec) (hg : g.method = m) {x : Int64} {y : Value} {rest : List Value} (hd : decode c.code g.pc = .ok (.dup2_x1, 1)) (hs : g.stack = .long x :: y :: rest) (hc : y.category = 1)
    (hr : Steps tb e below (T.setTop { g with pc := g.pc + 1, stack := .long x :: y :: .long x :: rest }) target) : Steps tb e below (T.setTop g) target := by
  subst hg
  jvm_step h [h.top, hx, hd, hs, hc]
  exact hr
theorem irem_mod (x y : Int32) : x - (x / y) * y = x % y := by
  apply Int32.toInt_inj.mp
  have h1 := Int32.le_toInt (x % y)
  have h2 := Int32.toInt_lt (x % y)
  rw [Int32.toInt_sub, Int32.toInt_mul, Int32.toInt_div, Int.bmod_mul_bmod, Int.sub_bmod_bmod, Int.mul_comm (x.toInt.tdiv y.toInt), ← Int.tmod_def, ← Int32.toInt_mod]
  exact Int.bmod_eq_of_le_mul_two (by omega) (by omega)
end Jvm.Own

/-! OwnInt: a double cut to a long. -/
namespace Jvm.Own
open Jvm.FP.Core Jvm.Free.Fl
theorem d2l_floor {a : UInt64} (h : DFin a) {o : Int} (h1 : o * (PN 1074 : Int) ≤ z a) (h2 : z a < (o + 1) * (PN 1074 : Int)) (h0 : 0 ≤ o) (h3 : o < 9223372036854775808) : (Jvm.FP.d2l a).toInt = o := by
  have hP := PN_pos 1074
  have e : (Jvm.FP.d2l a) = Int64.ofInt (toInt (-2 ^ 63) (2 ^ 63 - 1) (val64 a)) := rfl
  have t := toInt_zmag good_b64 (val64_fits a) h.ne_nan (lo := -2 ^ 63) (hi := 2 ^ 63 - 1) (by
      have : (2 : Nat) ^ 63 ≤ 2 ^ (b64.emax + 1) := Nat.pow_le_pow_right (by decide) (by decide)
      have q : ((2 ^ 63 : Nat) : Int) ≤ ((2 ^ (b64.emax + 1) : Nat) : Int) := Int.ofNat_le.mpr this
      generalize ((2 ^ (b64.emax + 1) : Nat) : Int) = B at *
      omega) (by
      have : (2 : Nat) ^ 63 ≤ 2 ^ (b64.emax + 1) := Nat.pow_le_pow_right (by decide) (by decide)
      have q : ((2 ^ 63 : Nat) : Int) ≤ ((2 ^ (b64.emax + 1) : Nat) : Int) := Int.ofNat_le.mpr this
      generalize ((2 ^ (b64.emax + 1) : Nat) : Int) = B at *
      omega) (by omega)
  have hq : (-b64.qmin).toNat = 1074 := by rw [qm]; rfl
  rw [hq, show (2 : Nat) ^ 1074 = PN 1074 from rfl] at t
  have hz : z a = signed (sgn (val64 a)) (zmag b64 (val64 a)) := rfl
  have key : signed (sgn (val64 a)) (zmag b64 (val64 a) / PN 1074) = o := by
    rw [hz] at h1 h2
    generalize zmag b64 (val64 a) = x at *
    have d1 := Nat.div_add_mod x (PN 1074)
    have d2 := Nat.mod_lt x hP
    generalize x / PN 1074 = k at *
    generalize x % PN 1074 = y at *
    have ek : ((PN 1074 * k : Nat) : Int) = (PN 1074 : Int) * (k : Int) := Int.natCast_mul _ _
    cases hsg : sgn (val64 a)
    · rw [hsg] at h1 h2
      simp only [signed, Bool.false_eq_true, if_false] at h1 h2 ⊢
      have a1 : (o : Int) < (k : Int) + 1 := by
        refine Int.lt_of_mul_lt_mul_right (a := (PN 1074 : Int)) ?_ (by omega)
        rw [Int.add_mul, Int.one_mul, Int.mul_comm (k : Int)]; omega
      have a2 : (k : Int) < o + 1 := by
        refine Int.lt_of_mul_lt_mul_right (a := (PN 1074 : Int)) ?_ (by omega)
        rw [Int.mul_comm (k : Int)]; omega
      omega
    · rw [hsg] at h1 h2
      simp only [signed, if_true] at h1 h2 ⊢
      have b1 : 0 ≤ o * (PN 1074 : Int) := Int.mul_nonneg h0 (by omega)
      have b2 : o * (PN 1074 : Int) = 0 := by omega
      have b3 : o = 0 := by
        rcases Int.mul_eq_zero.mp b2 with q | q
        · exact q
        · omega
      have b4 : PN 1074 * k = 0 := by omega
      have b5 : k = 0 := by
        rcases Nat.mul_eq_zero.mp b4 with q | q <;> omega
      omega
  rw [e, t, key, Int64.toInt_ofInt, show Int64.size = 18446744073709551616 from rfl]
  have : max (-2 ^ 63) (min (2 ^ 63 - 1) o) = o := by omega
  rw [this]
  exact Int.bmod_eq_of_le_mul_two (by omega) (by omega)
end Jvm.Own

namespace Jvm.Pilot.@@N@@
open Jvm Jvm.ClassFile Sem Op Lib Jvm.Free Jvm.Stand Jvm.LawKit Jvm.RoadKit Bundle Jvm.Pilot.@@N@@.Jvm.D

theorem d1_0 : decode prog_10_method_1_code 0 = .ok (.aload_n 0, 1) := by decide +kernel
theorem d1_1 : decode prog_10_method_1_code 1 = .ok (.invokespecial 1, 3) := by decide +kernel
theorem d1_4 : decode prog_10_method_1_code 4 = .ok (.aload_n 0, 1) := by decide +kernel
theorem d1_5 : decode prog_10_method_1_code 5 = .ok (.dload_n 1, 1) := by decide +kernel
theorem d1_6 : decode prog_10_method_1_code 6 = .ok (.putfield 7, 3) := by decide +kernel
theorem d1_9 : decode prog_10_method_1_code 9 = .ok (.aload_n 0, 1) := by decide +kernel
theorem d1_10 : decode prog_10_method_1_code 10 = .ok (.lload_n 3, 1) := by decide +kernel
theorem d1_11 : decode prog_10_method_1_code 11 = .ok (.putfield 13, 3) := by decide +kernel
theorem d1_14 : decode prog_10_method_1_code 14 = .ok (.return_, 1) := by decide +kernel
theorem d3_0 : decode prog_10_method_2_code 0 = .ok (.aload_n 0, 1) := by decide +kernel
theorem d3_1 : decode prog_10_method_2_code 1 = .ok (.getfield 13, 3) := by decide +kernel
theorem d3_4 : decode prog_10_method_2_code 4 = .ok (.aload_n 0, 1) := by decide +kernel
theorem d3_5 : decode prog_10_method_2_code 5 = .ok (.aload_n 0, 1) := by decide +kernel
theorem d3_6 : decode prog_10_method_2_code 6 = .ok (.dup, 1) := by decide +kernel
theorem d3_7 : decode prog_10_method_2_code 7 = .ok (.getfield 17, 3) := by decide +kernel
theorem d3_10 : decode prog_10_method_2_code 10 = .ok (.dup2_x1, 1) := by decide +kernel
theorem d3_11 : decode prog_10_method_2_code 11 = .ok (.lconst 1, 1) := by decide +kernel
theorem d3_12 : decode prog_10_method_2_code 12 = .ok (.ladd, 1) := by decide +kernel
theorem d3_13 : decode prog_10_method_2_code 13 = .ok (.putfield 17, 3) := by decide +kernel
theorem d3_16 : decode prog_10_method_2_code 16 = .ok (.invokevirtual 20, 3) := by decide +kernel
theorem d3_19 : decode prog_10_method_2_code 19 = .ok (.ladd, 1) := by decide +kernel
theorem d3_20 : decode prog_10_method_2_code 20 = .ok (.lreturn, 1) := by decide +kernel
theorem d4_0 : decode prog_10_method_4_code 0 = .ok (.lload_n 1, 1) := by decide +kernel
theorem d4_1 : decode prog_10_method_4_code 1 = .ok (.l2d, 1) := by decide +kernel
theorem d4_2 : decode prog_10_method_4_code 2 = .ok (.ldc2_w 28, 3) := by decide +kernel
theorem d4_5 : decode prog_10_method_4_code 5 = .ok (.dmul, 1) := by decide +kernel
theorem d4_6 : decode prog_10_method_4_code 6 = .ok (.aload_n 0, 1) := by decide +kernel
theorem d4_7 : decode prog_10_method_4_code 7 = .ok (.getfield 7, 3) := by decide +kernel
theorem d4_10 : decode prog_10_method_4_code 10 = .ok (.ddiv, 1) := by decide +kernel
theorem d4_11 : decode prog_10_method_4_code 11 = .ok (.d2l, 1) := by decide +kernel
theorem d4_12 : decode prog_10_method_4_code 12 = .ok (.lreturn, 1) := by decide +kernel
theorem pd_0 : parseMethodDescriptor "(J)J" = some ⟨[.long], some .long⟩ := by decide +kernel
theorem pd_1 : parseMethodDescriptor "(DJ)V" = some ⟨[.double, .long], none⟩ := by decide +kernel
theorem pd_2 : parseMethodDescriptor "()J" = some ⟨[], some .long⟩ := by decide +kernel
theorem pn_0 : plainName "com/example/earnest_load/earnestload/run/Schedule" = true := by first | (simp [plainName, overriddenIn]; done) | decide +kernel
theorem pn_1 : plainName "com/example/earnest_load/earnestload/run/ScheduleNextPinLaw" = true := by first | (simp [plainName, overriddenIn]; done) | decide +kernel
theorem ef_rmOff (m : MethodId) (a : Addr) (cnt : Int64) : entryFrame m #[(.ref a), (.long cnt)] 3 = mkF m 0 #[.val (.ref a), .val (.long cnt), .second] [] := by first | (simp [entryFrame, mkF, argsToLocals, Value.category]; done) | rfl
set_option maxRecDepth 65536 in
set_option maxHeartbeats 40000000 in
theorem rmOff (l : Launch) (Z : State) (a0 : Array Value) (hw : ∀ d ∈ tables_1, d.before a0 Z = true) (ws : List Jvm.Cond) (a : Addr) (cnt : Int64) (h0 : Heap) (n0 : Nat) (Z0 : n0 ≤ h0.size) (rt : UInt64) (o : Int64) (Fr0 : Fld Z h0 a "com/example/earnest_load/earnestload/run/Schedule" "rate" "D" (.double rt)) (hn1 : Jvm.Free.Fl.NoNaN64 (FP.dmul (FP.l2d cnt) (4741671816366391296 : UInt64))) (hn2 : Jvm.Free.Fl.NoNaN64 (FP.ddiv (FP.dmul (FP.l2d cnt) (4741671816366391296 : UInt64)) rt)) (hov : FP.d2l (FP.ddiv (FP.dmul (FP.l2d cnt) (4741671816366391296 : UInt64)) rt) = o) :
    MetFree l (⟨"com/example/earnest_load/earnestload/run/Schedule", "offset", "(J)J"⟩ : MethodName) (head1 (Jvm.Cond.code (⟨"com/example/earnest_load/earnestload/run/Schedule", "offset", "(J)J"⟩ : MethodName) prog_10_method_4_code 3 (some .long) :: ws) ({ frames := 0, cells := 0, slots := 0, locals := 0 } : Room)) (fun a_ U_ => a_ = #[(.ref a), (.long cnt)] ∧ Z.Warmed39 U_.vm ∧ U_.heap = h0) (fun _ _ _ _ _ => True) (fun _ U_ o_ V_ => ∃ v_ L_, o_ = .returned v_ ∧ QP (.long o) h0 n0 v_ V_.heap L_ ∧ FrameEnd U_ o_ V_ L_ ({ frames := 0, cells := 0, slots := 0, locals := 0 } : Room).cells ({ frames := 0, cells := 0, slots := 0, locals := 0 } : Room).slots) := by
  refine MetFree.of_bodySF (plainFor_of_name pn_0) hisR ?_
  intro p e s m args below meth c s₁ Bd hml0 hP hK
  obtain ⟨rfl, hZ, hh⟩ := hP
  have hx := Bd.exec
  have hby := Bd.bytes
  have hml : c.maxLocals = 3 := hml0
  have hown : s.vm.findClass "com/example/earnest_load/earnestload/run/Schedule" = some m.cls := findClass_of_methodNamed Bd.named
  have hnm := (name_of_methodNamed Bd.named Bd.method).1
  have X0 : Stand p l e ({ frames := 0, cells := 0, slots := 0, locals := 0 } : Room) s m #[(.ref a), (.long cnt)] below meth c s₁ [] 0 0 := Stand.of_body Bd
  have e0 : s₁.heap = h0 := by rw [← hh, Bd.state]; rfl
  have N0 := Fr.nil n0
  have pre0 : ∀ t, Steps p.tables e below (s₁.setTop (mkF m 0 #[.val (.ref a), .val (.long cnt), .second] [])) t → Steps p.tables e below (s₁.setTop (entryFrame m #[(.ref a), (.long cnt)] 3)) t := fun t_ k_ => castTop (ef_rmOff m a cnt) k_
  obtain ⟨T1, X1, e1, st1⟩ := getF X0 hx hZ hown (host := "") (Or.inl (hw _ (List.mem_of_getElem? (i := 10) rfl))) Via.refl e0 Fr0 (g := (mkF m 7 #[.val (.ref a), .val (.long cnt), .second] [(.ref a), (.double (FP.dmul (FP.l2d cnt) (4741671816366391296 : UInt64)))])) rfl rfl (hb hby d4_7)
  obtain ⟨fs, hr, hrun, hended, hW, hsame⟩ := X1.leave (v := some (.long o)) (fun h => by rw [Bd.returns] at h; cases h)
  refine ⟨_, _, pre0 _ ?_, hrun, hended, _, _, rfl, ?_, ⟨_, rfl⟩, hW, hsame.mono (by decide) (by decide)⟩
  · show Steps p.tables e below (s₁.setTop (mkF m 0 #[.val (.ref a), .val (.long cnt), .second] [])) _
    refine XS.lloadN X0.here hx rfl (hb hby d4_0) rfl ?_
    show Steps p.tables e below (s₁.setTop (mkF m 1 #[.val (.ref a), .val (.long cnt), .second] [(.long cnt)])) _
    refine XS.l2dS X0.here hx rfl (hb hby d4_1) rfl (v := FP.l2d cnt) rfl ?_
    show Steps p.tables e below (s₁.setTop (mkF m 2 #[.val (.ref a), .val (.long cnt), .second] [(.double (FP.l2d cnt))])) _
    refine X0.ldc2DoubleC hx hown (mvT hZ (hw _ (List.mem_of_getElem? (i := 25) rfl))) (g := (mkF m 2 #[.val (.ref a), .val (.long cnt), .second] [(.double (FP.l2d cnt))])) rfl (hb hby d4_2) _ ?_
    show Steps p.tables e below (s₁.setTop (mkF m 5 #[.val (.ref a), .val (.long cnt), .second] [(.double (4741671816366391296 : UInt64)), (.double (FP.l2d cnt))])) _
    refine XS.dmulS X0.here hx rfl (hb hby d4_5) rfl hn1 (v := FP.dmul (FP.l2d cnt) (4741671816366391296 : UInt64)) rfl ?_
    show Steps p.tables e below (s₁.setTop (mkF m 6 #[.val (.ref a), .val (.long cnt), .second] [(.double (FP.dmul (FP.l2d cnt) (4741671816366391296 : UInt64)))])) _
    refine XS.aloadN X0.here hx rfl (hb hby d4_6) rfl rfl ?_
    show Steps p.tables e below (s₁.setTop (mkF m 7 #[.val (.ref a), .val (.long cnt), .second] [(.ref a), (.double (FP.dmul (FP.l2d cnt) (4741671816366391296 : UInt64)))])) _
    refine st1 _ ?_
    show Steps p.tables e below (T1.setTop (mkF m 10 #[.val (.ref a), .val (.long cnt), .second] [(.double rt), (.double (FP.dmul (FP.l2d cnt) (4741671816366391296 : UInt64)))])) _
    refine XS.ddivS X1.here hx rfl (hb hby d4_10) rfl hn2 (v := FP.ddiv (FP.dmul (FP.l2d cnt) (4741671816366391296 : UInt64)) rt) rfl ?_
    show Steps p.tables e below (T1.setTop (mkF m 11 #[.val (.ref a), .val (.long cnt), .second] [(.double (FP.ddiv (FP.dmul (FP.l2d cnt) (4741671816366391296 : UInt64)) rt))])) _
    refine XS.d2lS X1.here hx rfl (hb hby d4_11) rfl (v := o) hov ?_
    show Steps p.tables e below (T1.setTop (mkF m 12 #[.val (.ref a), .val (.long cnt), .second] [(.long o)])) _
    exact X1.lreturnOut hx Bd.returns (hb hby d4_12) hr
  · show QP (.long o) h0 n0 _ T1.heap _
    rw [e1]
    exact ⟨rfl, N0, rfl⟩
def QN (Z : State) (a : Addr) (st cnt o : Int64) (rt : UInt64) (h0 : Heap) (n0 : Nat) (v : Option Value) (h : Heap) (L : List Loc) : Prop := v = some (.long (st + o)) ∧ Fr n0 L ∧ Keep h0 h [a] ∧ Exa Z h a "com/example/earnest_load/earnestload/run/Schedule" ∧ Fld Z h a "com/example/earnest_load/earnestload/run/Schedule" "start" "J" (.long st) ∧ Fld Z h a "com/example/earnest_load/earnestload/run/Schedule" "count" "J" (.long (cnt + (1 : Int64))) ∧ Fld Z h a "com/example/earnest_load/earnestload/run/Schedule" "rate" "D" (.double rt)
theorem ef_rmNext (m : MethodId) (a : Addr) : entryFrame m #[(.ref a)] 1 = mkF m 0 #[.val (.ref a)] [] := by first | (simp [entryFrame, mkF, argsToLocals, Value.category]; done) | rfl
set_option maxRecDepth 65536 in
set_option maxHeartbeats 40000000 in
theorem rmNext (l : Launch) (Z : State) (a0 : Array Value) (hw : ∀ d ∈ tables_1, d.before a0 Z = true) (ws : List Jvm.Cond) (a : Addr) (h0 : Heap) (n0 : Nat) (Z0 : n0 ≤ h0.size) (st cnt o : Int64) (rt : UInt64) (Fs : Fld Z h0 a "com/example/earnest_load/earnestload/run/Schedule" "start" "J" (.long st)) (Fc : Fld Z h0 a "com/example/earnest_load/earnestload/run/Schedule" "count" "J" (.long cnt)) (Fr0 : Fld Z h0 a "com/example/earnest_load/earnestload/run/Schedule" "rate" "D" (.double rt)) (E : Exa Z h0 a "com/example/earnest_load/earnestload/run/Schedule") (ga : n0 ≤ a) (hn1 : Jvm.Free.Fl.NoNaN64 (FP.dmul (FP.l2d cnt) (4741671816366391296 : UInt64))) (hn2 : Jvm.Free.Fl.NoNaN64 (FP.ddiv (FP.dmul (FP.l2d cnt) (4741671816366391296 : UInt64)) rt)) (hov : FP.d2l (FP.ddiv (FP.dmul (FP.l2d cnt) (4741671816366391296 : UInt64)) rt) = o) :
    MetFree l (⟨"com/example/earnest_load/earnestload/run/Schedule", "next", "()J"⟩ : MethodName) (head1 (Jvm.Cond.code (⟨"com/example/earnest_load/earnestload/run/Schedule", "next", "()J"⟩ : MethodName) prog_10_method_2_code 1 (some .long) :: ws) ({ frames := 1, cells := 0, slots := 0, locals := 16 } : Room)) (fun a_ U_ => a_ = #[(.ref a)] ∧ Z.Warmed39 U_.vm ∧ U_.heap = h0) (fun _ _ _ _ _ => True) (fun _ U_ o_ V_ => ∃ v_ L_, o_ = .returned v_ ∧ QN Z a st cnt o rt h0 n0 v_ V_.heap L_ ∧ FrameEnd U_ o_ V_ L_ ({ frames := 1, cells := 0, slots := 0, locals := 16 } : Room).cells ({ frames := 1, cells := 0, slots := 0, locals := 16 } : Room).slots) := by
  refine MetFree.of_bodySF (plainFor_of_name pn_0) hisR ?_
  intro p e s m args below meth c s₁ Bd hml0 hP hK
  obtain ⟨rfl, hZ, hh⟩ := hP
  have hx := Bd.exec
  have hby := Bd.bytes
  have hml : c.maxLocals = 1 := hml0
  have hown : s.vm.findClass "com/example/earnest_load/earnestload/run/Schedule" = some m.cls := findClass_of_methodNamed Bd.named
  have hnm := (name_of_methodNamed Bd.named Bd.method).1
  have X0 : Stand p l e ({ frames := 1, cells := 0, slots := 0, locals := 16 } : Room) s m #[(.ref a)] below meth c s₁ [] 0 0 := Stand.of_body Bd
  have e0 : s₁.heap = h0 := by rw [← hh, Bd.state]; rfl
  have N0 := Fr.nil n0
  have pre0 : ∀ t, Steps p.tables e below (s₁.setTop (mkF m 0 #[.val (.ref a)] [])) t → Steps p.tables e below (s₁.setTop (entryFrame m #[(.ref a)] 1)) t := fun t_ k_ => castTop (ef_rmNext m a) k_
  obtain ⟨T1, X1, e1, st1⟩ := getF X0 hx hZ hown (host := "") (Or.inl (hw _ (List.mem_of_getElem? (i := 12) rfl))) Via.refl e0 Fs (g := (mkF m 1 #[.val (.ref a)] [(.ref a)])) rfl rfl (hb hby d3_1)
  obtain ⟨T2, X2, e2, st2⟩ := getF X1 hx hZ hown (host := "") (Or.inl (hw _ (List.mem_of_getElem? (i := 19) rfl))) Via.refl e1 Fc (g := (mkF m 7 #[.val (.ref a)] [(.ref a), (.ref a), (.ref a), (.long st)])) rfl rfl (hb hby d3_7)
  obtain ⟨T3, h3, X3, e3, W3, st3⟩ := putF X2 hx hZ hown (host := "") (Or.inl (hw _ (List.mem_of_getElem? (i := 19) rfl))) Via.refl e2 Fc E (Or.inl (hw _ (List.mem_of_getElem? (i := 20) rfl))) (hw _ (List.mem_of_getElem? (i := 2) rfl)) (ty := .long) (by decide) rfl rfl (g := (mkF m 13 #[.val (.ref a)] [(.long (cnt + (1 : Int64))), (.ref a), (.long cnt), (.ref a), (.long st)])) rfl rfl (hb hby d3_13)
  have F1 : Fld Z h3 a "com/example/earnest_load/earnestload/run/Schedule" "count" "J" (.long (cnt + (1 : Int64))) := Fc.same W3
  have F2 : Fld Z h3 a "com/example/earnest_load/earnestload/run/Schedule" "start" "J" (.long st) := Fs.other W3 (Or.inr (slot_ne (Or.inl (hw _ (List.mem_of_getElem? (i := 13) rfl))) (Or.inl (hw _ (List.mem_of_getElem? (i := 20) rfl))) (by decide) (t := .long) (t' := .long) (by decide) (by decide)))
  have F3 : Fld Z h3 a "com/example/earnest_load/earnestload/run/Schedule" "rate" "D" (.double rt) := Fr0.other W3 (Or.inr (slot_ne (Or.inr (hw _ (List.mem_of_getElem? (i := 11) rfl))) (Or.inl (hw _ (List.mem_of_getElem? (i := 20) rfl))) (by decide) (t := .double) (t' := .long) (by decide) (by decide)))
  have K3 : Keep h0 h3 [a] := (Keep.refl h0 [a]).wr W3 (Or.inl (List.mem_of_getElem? (i := 0) rfl))
  have N3 := Fr.snoc X3 N0 ga
  have Z3 : n0 ≤ h3.size := Nat.le_trans Z0 K3.1
  have hselP : (Cond.selects "com/example/earnest_load/earnestload/run/Schedule" (⟨"com/example/earnest_load/earnestload/run/Schedule", "offset", "(J)J"⟩ : MethodName) (⟨"com/example/earnest_load/earnestload/run/Schedule", "offset", "(J)J"⟩ : MethodName)).before #[(.ref a)] s = true := by
    obtain ⟨c2, r2, m2, q1, -, q3, -, kP, hkP, hkPi⟩ := Cond.selects_spec (mvT hZ (hw _ (List.mem_of_getElem? (i := 17) rfl)) (args := #[(.ref a)]))
    exact Stand.selects_self_of_private (y := (⟨"com/example/earnest_load/earnestload/run/Schedule", "offset", "(J)J"⟩ : MethodName)) (show s.vm.findClass "com/example/earnest_load/earnestload/run/Schedule" = some _ from findClass_of_methodNamed q3) hkP hkPi (Cond.privateMethod_at (mvP hZ (hw _ (List.mem_of_getElem? (i := 23) rfl)) (args := #[]))) (mvT hZ (hw _ (List.mem_of_getElem? (i := 22) rfl))) (by decide)
  obtain ⟨cq4, q4, q4'⟩ := (E.wr W3).cell
  obtain ⟨_, _, ⟨T4, L4, k4, n4⟩, -, X4, ⟨Lc4, hQ4, l4, y4, z4⟩, st4⟩ := X3.privateBack hx (y := (⟨"com/example/earnest_load/earnestload/run/Schedule", "offset", "(J)J"⟩ : MethodName)) hown (mvT hZ (hw _ (List.mem_of_getElem? (i := 21) rfl))) (mvT hZ (hw _ (List.mem_of_getElem? (i := 22) rfl))) hselP (Cond.privateMethod_at (mvP hZ (hw _ (List.mem_of_getElem? (i := 23) rfl)) (args := #[]))) (mvT hZ (hw _ (List.mem_of_getElem? (i := 24) rfl))) (by decide) (backOf (W := 2) (rmOff l Z a0 hw [] a cnt h3 n0 Z3 rt o F3 hn1 hn2 hov) hZ (hw _ (List.mem_of_getElem? (i := 24) rfl)) (hw _ (List.mem_of_getElem? (i := 3) rfl)) (by decide) (by decide)) (g := (mkF m 16 #[.val (.ref a)] [(.long cnt), (.ref a), (.long st)])) rfl (by rw [hml]; rfl) (Steps.refl _) (a := a) (by rw [e3]; exact q4) q4' (argsL := [(.long cnt)]) (rest := [(.long st)]) (lenOf pd_0 rfl) rfl (by show 2 * 0 + _ ≤ _; exact Nat.le_of_eq rfl) (hb hby d3_16) (fun _ _ => ⟨rfl, e3, (by decide : 0 + 0 ≤ _), (by decide : 0 + 0 ≤ _)⟩)
  dsimp only [Pt.U, Pt.locs, Pt.cells, Pt.slots] at X4 l4 y4 z4 st4 hQ4
  subst l4 y4 z4
  obtain ⟨rfl, N4, e4⟩ := hQ4
  obtain ⟨fs, hr, hrun, hended, hW, hsame⟩ := X4.leave (v := some (.long (st + o))) (fun h => by rw [Bd.returns] at h; cases h)
  refine ⟨_, _, pre0 _ ?_, hrun, hended, _, _, rfl, ?_, ⟨_, rfl⟩, hW, hsame.mono (by decide) (by decide)⟩
  · show Steps p.tables e below (s₁.setTop (mkF m 0 #[.val (.ref a)] [])) _
    refine XS.aloadN X0.here hx rfl (hb hby d3_0) rfl rfl ?_
    show Steps p.tables e below (s₁.setTop (mkF m 1 #[.val (.ref a)] [(.ref a)])) _
    refine st1 _ ?_
    show Steps p.tables e below (T1.setTop (mkF m 4 #[.val (.ref a)] [(.long st)])) _
    refine XS.aloadN X1.here hx rfl (hb hby d3_4) rfl rfl ?_
    show Steps p.tables e below (T1.setTop (mkF m 5 #[.val (.ref a)] [(.ref a), (.long st)])) _
    refine XS.aloadN X1.here hx rfl (hb hby d3_5) rfl rfl ?_
    show Steps p.tables e below (T1.setTop (mkF m 6 #[.val (.ref a)] [(.ref a), (.ref a), (.long st)])) _
    refine XS.dup X1.here hx rfl (hb hby d3_6) rfl rfl ?_
    show Steps p.tables e below (T1.setTop (mkF m 7 #[.val (.ref a)] [(.ref a), (.ref a), (.ref a), (.long st)])) _
    refine st2 _ ?_
    show Steps p.tables e below (T2.setTop (mkF m 10 #[.val (.ref a)] [(.long cnt), (.ref a), (.ref a), (.long st)])) _
    refine Jvm.Own.dup2X1 X2.here hx rfl (hb hby d3_10) rfl rfl ?_
    show Steps p.tables e below (T2.setTop (mkF m 11 #[.val (.ref a)] [(.long cnt), (.ref a), (.long cnt), (.ref a), (.long st)])) _
    refine XS.lconst X2.here hx rfl (hb hby d3_11) ?_
    show Steps p.tables e below (T2.setTop (mkF m 12 #[.val (.ref a)] [(.long (1 : Int64)), (.long cnt), (.ref a), (.long cnt), (.ref a), (.long st)])) _
    refine XS.ladd X2.here hx rfl (hb hby d3_12) rfl ?_
    show Steps p.tables e below (T2.setTop (mkF m 13 #[.val (.ref a)] [(.long (cnt + (1 : Int64))), (.ref a), (.long cnt), (.ref a), (.long st)])) _
    refine st3 _ ?_
    show Steps p.tables e below (T3.setTop (mkF m 16 #[.val (.ref a)] [(.long cnt), (.ref a), (.long st)])) _
    refine st4.trans ?_
    show Steps p.tables e below (T4.setTop (mkF m 19 #[.val (.ref a)] [(.long o), (.long st)])) _
    refine XS.ladd X4.here hx rfl (hb hby d3_19) rfl ?_
    show Steps p.tables e below (T4.setTop (mkF m 20 #[.val (.ref a)] [(.long (st + o))])) _
    exact X4.lreturnOut hx Bd.returns (hb hby d3_20) hr
  · show QN Z a st cnt o rt h0 n0 _ T4.heap _
    rw [e4]
    exact ⟨rfl, Fr.app N3 N4, K3, E.wr W3, F2, F1, F3⟩
def QI (Z : State) (a : Addr) (r : UInt64) (st : Int64) (h0 : Heap) (n0 : Nat) (v : Option Value) (h : Heap) (L : List Loc) : Prop := v = none ∧ Fr n0 L ∧ Keep h0 h [a] ∧ Exa Z h a "com/example/earnest_load/earnestload/run/Schedule" ∧ Fld Z h a "com/example/earnest_load/earnestload/run/Schedule" "start" "J" (.long st) ∧ Fld Z h a "com/example/earnest_load/earnestload/run/Schedule" "count" "J" (.long 0) ∧ Fld Z h a "com/example/earnest_load/earnestload/run/Schedule" "rate" "D" (.double r)
theorem ef_rmInit (m : MethodId) (a : Addr) (r : UInt64) (st : Int64) : entryFrame m #[(.ref a), (.double r), (.long st)] 5 = mkF m 0 #[.val (.ref a), .val (.double r), .second, .val (.long st), .second] [] := by first | (simp [entryFrame, mkF, argsToLocals, Value.category]; done) | rfl
set_option maxRecDepth 65536 in
set_option maxHeartbeats 40000000 in
theorem rmInit (l : Launch) (Z : State) (a0 : Array Value) (hw : ∀ d ∈ tables_1, d.before a0 Z = true) (ws : List Jvm.Cond) (a : Addr) (r : UInt64) (st : Int64) (h0 : Heap) (n0 : Nat) (Z0 : n0 ≤ h0.size) (E : Exa Z h0 a "com/example/earnest_load/earnestload/run/Schedule") (ga : n0 ≤ a) (Fs : Fld Z h0 a "com/example/earnest_load/earnestload/run/Schedule" "start" "J" (.long 0)) (Fc : Fld Z h0 a "com/example/earnest_load/earnestload/run/Schedule" "count" "J" (.long 0)) (Fr0 : Fld Z h0 a "com/example/earnest_load/earnestload/run/Schedule" "rate" "D" (.double 0)) :
    MetFree l (⟨"com/example/earnest_load/earnestload/run/Schedule", "<init>", "(DJ)V"⟩ : MethodName) (head1 (Jvm.Cond.code (⟨"com/example/earnest_load/earnestload/run/Schedule", "<init>", "(DJ)V"⟩ : MethodName) prog_10_method_1_code 5 none :: ws) ({ frames := 1, cells := 0, slots := 0, locals := 12 } : Room)) (fun a_ U_ => a_ = #[(.ref a), (.double r), (.long st)] ∧ Z.Warmed39 U_.vm ∧ U_.heap = h0) (fun _ _ _ _ _ => True) (fun _ U_ o_ V_ => ∃ v_ L_, o_ = .returned v_ ∧ QI Z a r st h0 n0 v_ V_.heap L_ ∧ FrameEnd U_ o_ V_ L_ ({ frames := 1, cells := 0, slots := 0, locals := 12 } : Room).cells ({ frames := 1, cells := 0, slots := 0, locals := 12 } : Room).slots) := by
  refine MetFree.of_bodySF (plainFor_of_name pn_0) hisR ?_
  intro p e s m args below meth c s₁ Bd hml0 hP hK
  obtain ⟨rfl, hZ, hh⟩ := hP
  have hx := Bd.exec
  have hby := Bd.bytes
  have hml : c.maxLocals = 5 := hml0
  have hown : s.vm.findClass "com/example/earnest_load/earnestload/run/Schedule" = some m.cls := findClass_of_methodNamed Bd.named
  have hnm := (name_of_methodNamed Bd.named Bd.method).1
  have X0 : Stand p l e ({ frames := 1, cells := 0, slots := 0, locals := 12 } : Room) s m #[(.ref a), (.double r), (.long st)] below meth c s₁ [] 0 0 := Stand.of_body Bd
  have e0 : s₁.heap = h0 := by rw [← hh, Bd.state]; rfl
  have N0 := Fr.nil n0
  have pre0 : ∀ t, Steps p.tables e below (s₁.setTop (mkF m 0 #[.val (.ref a), .val (.double r), .second, .val (.long st), .second] [])) t → Steps p.tables e below (s₁.setTop (entryFrame m #[(.ref a), (.double r), (.long st)] 5)) t := fun t_ k_ => castTop (ef_rmInit m a r st) k_
  obtain ⟨T1, X1, e1, st1⟩ := initO X0 hx hZ hown (hw _ (List.mem_of_getElem? (i := 7) rfl)) (hw _ (List.mem_of_getElem? (i := 8) rfl)) (hw _ (List.mem_of_getElem? (i := 9) rfl)) e0 (g := (mkF m 1 #[.val (.ref a), .val (.double r), .second, .val (.long st), .second] [(.ref a)])) rfl (by rw [hml]; rfl) rfl (hb hby d1_1) (by decide) (W := 0) (by show 2 * 0 + _ ≤ _; exact Nat.le_of_eq rfl) (by decide)
  obtain ⟨T2, h2, X2, e2, W2, st2⟩ := putF X1 hx hZ hown (host := "") (Or.inl (hw _ (List.mem_of_getElem? (i := 10) rfl))) Via.refl e1 Fr0 E (Or.inr ⟨(hw _ (List.mem_of_getElem? (i := 11) rfl)), rfl, hnm⟩) (hw _ (List.mem_of_getElem? (i := 2) rfl)) (ty := .double) (by decide) rfl rfl (g := (mkF m 6 #[.val (.ref a), .val (.double r), .second, .val (.long st), .second] [(.double r), (.ref a)])) rfl rfl (hb hby d1_6)
  have Fs2 : Fld Z h2 a "com/example/earnest_load/earnestload/run/Schedule" "start" "J" (.long 0) := Fs.other W2 (Or.inr (slot_ne (Or.inl (hw _ (List.mem_of_getElem? (i := 13) rfl))) (Or.inr (hw _ (List.mem_of_getElem? (i := 11) rfl))) (by decide) (t := .long) (t' := .double) (by decide) (by decide)))
  obtain ⟨T3, h3, X3, e3, W3, st3⟩ := putF X2 hx hZ hown (host := "") (Or.inl (hw _ (List.mem_of_getElem? (i := 12) rfl))) Via.refl e2 Fs2 (E.wr W2) (Or.inl (hw _ (List.mem_of_getElem? (i := 13) rfl))) (hw _ (List.mem_of_getElem? (i := 2) rfl)) (ty := .long) (by decide) rfl rfl (g := (mkF m 11 #[.val (.ref a), .val (.double r), .second, .val (.long st), .second] [(.long st), (.ref a)])) rfl rfl (hb hby d1_11)
  have K3 : Keep h0 h3 [a] := ((Keep.refl h0 [a]).wr W2 (Or.inl (List.mem_of_getElem? (i := 0) rfl))).wr W3 (Or.inl (List.mem_of_getElem? (i := 0) rfl))
  have N3 := Fr.snoc X3 (Fr.snoc X2 N0 ga) ga
  have F1 : Fld Z h3 a "com/example/earnest_load/earnestload/run/Schedule" "start" "J" (.long st) := Fs2.same W3
  have F2 : Fld Z h3 a "com/example/earnest_load/earnestload/run/Schedule" "count" "J" (.long 0) := (Fc.other W2 (Or.inr (slot_ne (Or.inl (hw _ (List.mem_of_getElem? (i := 20) rfl))) (Or.inr (hw _ (List.mem_of_getElem? (i := 11) rfl))) (by decide) (t := .long) (t' := .double) (by decide) (by decide)))).other W3 (Or.inr (slot_ne (Or.inl (hw _ (List.mem_of_getElem? (i := 20) rfl))) (Or.inl (hw _ (List.mem_of_getElem? (i := 13) rfl))) (by decide) (t := .long) (t' := .long) (by decide) (by decide)))
  have F3 : Fld Z h3 a "com/example/earnest_load/earnestload/run/Schedule" "rate" "D" (.double r) := (Fr0.same W2).other W3 (Or.inr (slot_ne (Or.inr (hw _ (List.mem_of_getElem? (i := 11) rfl))) (Or.inl (hw _ (List.mem_of_getElem? (i := 13) rfl))) (by decide) (t := .double) (t' := .long) (by decide) (by decide)))
  obtain ⟨fs, hr, hrun, hended, hW, hsame⟩ := X3.leave (v := none) (fun _ => rfl)
  refine ⟨_, _, pre0 _ ?_, hrun, hended, _, _, rfl, ?_, ⟨_, rfl⟩, hW, hsame.mono (by decide) (by decide)⟩
  · show Steps p.tables e below (s₁.setTop (mkF m 0 #[.val (.ref a), .val (.double r), .second, .val (.long st), .second] [])) _
    refine XS.aloadN X0.here hx rfl (hb hby d1_0) rfl rfl ?_
    show Steps p.tables e below (s₁.setTop (mkF m 1 #[.val (.ref a), .val (.double r), .second, .val (.long st), .second] [(.ref a)])) _
    refine st1 _ ?_
    show Steps p.tables e below (T1.setTop (mkF m 4 #[.val (.ref a), .val (.double r), .second, .val (.long st), .second] [])) _
    refine XS.aloadN X1.here hx rfl (hb hby d1_4) rfl rfl ?_
    show Steps p.tables e below (T1.setTop (mkF m 5 #[.val (.ref a), .val (.double r), .second, .val (.long st), .second] [(.ref a)])) _
    refine XS.dloadN X1.here hx rfl (hb hby d1_5) rfl ?_
    show Steps p.tables e below (T1.setTop (mkF m 6 #[.val (.ref a), .val (.double r), .second, .val (.long st), .second] [(.double r), (.ref a)])) _
    refine st2 _ ?_
    show Steps p.tables e below (T2.setTop (mkF m 9 #[.val (.ref a), .val (.double r), .second, .val (.long st), .second] [])) _
    refine XS.aloadN X2.here hx rfl (hb hby d1_9) rfl rfl ?_
    show Steps p.tables e below (T2.setTop (mkF m 10 #[.val (.ref a), .val (.double r), .second, .val (.long st), .second] [(.ref a)])) _
    refine XS.lloadN X2.here hx rfl (hb hby d1_10) rfl ?_
    show Steps p.tables e below (T2.setTop (mkF m 11 #[.val (.ref a), .val (.double r), .second, .val (.long st), .second] [(.long st), (.ref a)])) _
    refine st3 _ ?_
    show Steps p.tables e below (T3.setTop (mkF m 14 #[.val (.ref a), .val (.double r), .second, .val (.long st), .second] [])) _
    exact X3.returnOut hx Bd.returns (hb hby d1_14) hr
  · show QI Z a r st h0 n0 _ T3.heap _
    rw [e3]
    exact ⟨rfl, N3, K3, (E.wr W2).wr W3, F1, F2, F3⟩

theorem own_r (x : Int32) : ∃ r : Int32, (x &&& (65535 : Int32)) + (1 : Int32) = r ∧ 1 ≤ r.toInt ∧ r.toInt ≤ 65536 := by
  refine ⟨_, rfl, ?_⟩
  have h1 := c_mask x 65535 16 (by decide) (by decide)
  have h2 := c_iadd (x &&& (65535 : Int32)) 1
  have h3 := rng32 ((x &&& (65535 : Int32)) + 1)
  have h4 : (1 : Int32).toInt = 1 := by decide
  rw [h1, h4] at h2
  omega
theorem z_K9 : Jvm.Own.z (4741671816366391296 : UInt64) = 1000000000 * (Jvm.Own.PN 1074 : Int) := by decide +kernel
theorem fin_K9 : Jvm.FP.Core.DFin (4741671816366391296 : UInt64) := (Jvm.FP.Core.fin_bits _).mpr (by decide)
theorem own_off (cnt : Int64) (r : Int32) (o : Int64) (c0 : 0 ≤ cnt.toInt) (c3 : cnt.toInt ≤ 3) (r1 : 1 ≤ r.toInt) (r2 : r.toInt ≤ 65536) (ho : o.toInt = cnt.toInt * 1000000000 / r.toInt) :
    Jvm.Free.Fl.NoNaN64 (FP.dmul (FP.l2d cnt) (4741671816366391296 : UInt64)) ∧ Jvm.Free.Fl.NoNaN64 (FP.ddiv (FP.dmul (FP.l2d cnt) (4741671816366391296 : UInt64)) (FP.i2d r)) ∧ FP.d2l (FP.ddiv (FP.dmul (FP.l2d cnt) (4741671816366391296 : UInt64)) (FP.i2d r)) = o := by
  obtain ⟨f1, z1⟩ := Jvm.Own.z_l2d (v := cnt) (by omega)
  obtain ⟨f2, z2⟩ := Jvm.Own.z_i2d r
  have hP := Jvm.Own.PN_posI 1074
  obtain ⟨f3, z3⟩ := (Jvm.Own.rnd_dmul f1 fin_K9).exact (cnt.toInt * 1000000000) 1074 (by omega) (by omega) (by
    rw [z1, z_K9]; generalize (Jvm.Own.PN 1074 : Int) = P; ac_rfl)
  have hp : 0 < Jvm.Own.z (FP.Core.i2d r) := by rw [z2]; exact Int.mul_pos (by omega) hP
  have h4 := Jvm.Own.rnd_ddiv f3 f2 hp
  have hD : (Jvm.Own.z (FP.Core.i2d r)).natAbs = r.toInt.natAbs * Jvm.Own.PN 1074 := by rw [z2, Int.natAbs_mul, Int.natAbs_natCast]
  rw [hD, z3] at h4
  have h5 := h4.scale (Jvm.Own.PN 1074) (Jvm.Own.PN_pos _)
  have hr : ((r.toInt.natAbs : Nat) : Int) = r.toInt := by omega
  have hq := Int.mul_ediv_add_emod (cnt.toInt * 1000000000) r.toInt
  have hm1 := Int.emod_nonneg (cnt.toInt * 1000000000) (b := r.toInt) (by omega)
  have hm2 := Int.emod_lt_of_pos (cnt.toInt * 1000000000) (b := r.toInt) (by omega)
  have o0 : 0 ≤ o.toInt := by rw [ho]; exact Int.ediv_nonneg (by omega) (by omega)
  have o1 : o.toInt ≤ 3000000000 := by
    rw [ho]
    refine Int.le_trans (Int.ediv_le_self _ (by omega)) (by omega)
  rw [← ho] at hq
  generalize cnt.toInt * 1000000000 % r.toInt = md at *
  obtain ⟨L, fL, zL⟩ := Jvm.Own.rep o.toInt 1074 (by omega) (by omega)
  obtain ⟨H, fH, zH⟩ := Jvm.Own.rep ((o.toInt + 1) * 2097152 - 1) 1053 (by omega) (by omega)
  have hS : (Jvm.Own.PN 1074 : Int) = 2097152 * (Jvm.Own.PN 1053 : Int) := by rw [show 1074 = 21 + 1053 from rfl, Jvm.Own.PN_addI]; rfl
  have hP' := Jvm.Own.PN_posI 1053
  have lo : Jvm.Own.z L * ((r.toInt.natAbs : Nat) : Int) ≤ cnt.toInt * 1000000000 * (Jvm.Own.PN 1074 : Int) := by
    rw [hr, zL, Int.mul_right_comm]
    refine Int.mul_le_mul_of_nonneg_right ?_ (by omega)
    rw [Int.mul_comm]; omega
  have hi : cnt.toInt * 1000000000 * (Jvm.Own.PN 1074 : Int) ≤ Jvm.Own.z H * ((r.toInt.natAbs : Nat) : Int) := by
    rw [hr, zH, hS, Int.mul_right_comm _ (Jvm.Own.PN 1053 : Int), ← Int.mul_assoc]
    refine Int.mul_le_mul_of_nonneg_right ?_ (by omega)
    have e1 : ((o.toInt + 1) * 2097152 - 1) * r.toInt = 2097152 * (r.toInt * o.toInt) + 2097152 * r.toInt - r.toInt := by
      rw [Int.sub_mul, Int.one_mul, Int.add_mul, Int.add_mul, Int.mul_comm o.toInt 2097152, Int.mul_assoc, Int.mul_comm o.toInt]; simp
    rw [e1]; omega
  have f5 := h5.fin_of fL fH lo hi
  have g1 := h5.ge fL lo
  have g2 := h5.le fH hi
  refine ⟨Jvm.Own.nn f3, Jvm.Own.nn f5, ?_⟩
  refine Int64.toInt_inj.mp (Jvm.Own.d2l_floor f5 ?_ ?_ o0 (by omega))
  · rw [← zL]; exact g1
  · rw [zH] at g2
    rw [hS]
    refine Int.lt_of_le_of_lt g2 ?_
    rw [Int.sub_mul, ← Int.mul_assoc]; omega

theorem ef_rm0 (m : MethodId) (xr : Int32) (st : Int64) : entryFrame m #[(.int xr), (.long st)] maxLocals = mkF m 0 #[.val (.int xr), .val (.long st), .second, .unset, .unset, .unset, .unset, .unset, .unset, .unset, .unset, .unset, .unset, .unset, .unset] [] := by first | (simp [entryFrame, mkF, argsToLocals, Value.category, maxLocals]; done) | rfl
set_option maxRecDepth 65536 in
set_option maxHeartbeats 40000000 in
theorem rm0 (l : Launch) (Z : State) (a0 : Array Value) (hw : ∀ d ∈ tables_1, d.before a0 Z = true) (ws : List Jvm.Cond) (xr : Int32) (st : Int64) (h0 : Heap) (n0 : Nat) (Z0 : n0 ≤ h0.size)  :
    MetFree l x (head1 (Jvm.Cond.code x code maxLocals ret :: ws) room_1) (fun a_ U_ => a_ = #[(.int xr), (.long st)] ∧ Z.Warmed39 U_.vm ∧ U_.heap = h0) (fun _ _ _ _ _ => True) (fun _ U_ o_ V_ => ∃ v_ L_, o_ = .returned v_ ∧ QL n0 v_ V_.heap L_ ∧ FrameEnd U_ o_ V_ L_ room_1.cells room_1.slots) := by
  refine MetFree.of_bodySF (plainFor_of_name pn_1) hisR ?_
  intro p e s m args below meth c s₁ Bd hml0 hP hK
  obtain ⟨rfl, hZ, hh⟩ := hP
  have hx := Bd.exec
  have hby := Bd.bytes
  have hml : c.maxLocals = 15 := hml0
  have hown : s.vm.findClass "com/example/earnest_load/earnestload/run/ScheduleNextPinLaw" = some m.cls := findClass_of_methodNamed Bd.named
  have hnm := (name_of_methodNamed Bd.named Bd.method).1
  have X0 : Stand p l e room_1 s m #[(.int xr), (.long st)] below meth c s₁ [] 0 0 := Stand.of_body Bd
  have e0 : s₁.heap = h0 := by rw [← hh, Bd.state]; rfl
  have N0 := Fr.nil n0
  have pre0 : ∀ t, Steps p.tables e below (s₁.setTop (mkF m 0 #[.val (.int xr), .val (.long st), .second, .unset, .unset, .unset, .unset, .unset, .unset, .unset, .unset, .unset, .unset, .unset, .unset] [])) t → Steps p.tables e below (s₁.setTop (entryFrame m #[(.int xr), (.long st)] maxLocals)) t := fun t_ k_ => castTop (ef_rm0 m xr st) k_
  obtain ⟨r, hrr, r1, r2⟩ := own_r xr
  have hnz : r.toInt64 ≠ 0 := fun q => by have := c_i2l r; rw [q] at this; have : (0 : Int64).toInt = 0 := by decide
                                          omega
  have hn1 : r.toInt64 ≠ -1 := fun q => by have := c_i2l r; rw [q] at this; have : (-1 : Int64).toInt = -1 := by decide
                                           omega
  obtain ⟨o0, q0⟩ : ∃ v, (0 : Int64) = v := ⟨_, rfl⟩
  obtain ⟨o1, q1⟩ : ∃ v, (1000000000 : Int64) / r.toInt64 = v := ⟨_, rfl⟩
  obtain ⟨o2, q2⟩ : ∃ v, (2 : Int64) * (1000000000 : Int64) / r.toInt64 = v := ⟨_, rfl⟩
  obtain ⟨o3, q3⟩ : ∃ v, (3 : Int64) * (1000000000 : Int64) / r.toInt64 = v := ⟨_, rfl⟩
  have t0 : o0.toInt = 0 := by rw [← q0]; decide
  have t1 : o1.toInt = 1 * 1000000000 / r.toInt := by rw [← q1]; exact (c_ldiv _ _ r.toInt (c_i2l r) hn1).1 (by decide)
  have t2 : o2.toInt = 2 * 1000000000 / r.toInt := by rw [← q2]; exact (c_ldiv _ _ r.toInt (c_i2l r) hn1).1 (by decide)
  have t3 : o3.toInt = 3 * 1000000000 / r.toInt := by rw [← q3]; exact (c_ldiv _ _ r.toInt (c_i2l r) hn1).1 (by decide)
  have p0 := own_off (0 : Int64) r o0 (by decide) (by decide) r1 r2 (by rw [t0]; simp)
  have p1 := own_off (0 + (1 : Int64)) r o1 (by decide) (by decide) r1 r2 t1
  have p2 := own_off (0 + (1 : Int64) + (1 : Int64)) r o2 (by decide) (by decide) r1 r2 t2
  have p3 := own_off (0 + (1 : Int64) + (1 : Int64) + (1 : Int64)) r o3 (by decide) (by decide) r1 r2 t3
  have w0 : (st + o0).toInt = st.toInt := by rw [← q0]; simp
  obtain ⟨T1, h1, X1, e1, E1, A1, D1, -, st1⟩ := newO X0 hx hZ hown (hw _ (List.mem_of_getElem? (i := 1) rfl)) (hw _ (List.mem_of_getElem? (i := 2) rfl)) (hw _ (List.mem_of_getElem? (i := 3) rfl)) e0 (g := (mkF m 7 #[.val (.int xr), .val (.long st), .second, .val (.int r), .unset, .unset, .unset, .unset, .unset, .unset, .unset, .unset, .unset, .unset, .unset] [])) rfl (hb hby at_7) (by decide) (by decide)
  obtain ⟨a1, g1⟩ : ∃ z, z = h0.size := ⟨_, rfl⟩
  rw [← g1] at A1 D1 st1
  have D_start := D1 (Or.inl (hw _ (List.mem_of_getElem? (i := 13) rfl))) (ty := .long) (by decide)
  have D_count := D1 (Or.inl (hw _ (List.mem_of_getElem? (i := 20) rfl))) (ty := .long) (by decide)
  have D_rate := D1 (Or.inr (hw _ (List.mem_of_getElem? (i := 11) rfl))) (ty := .double) (by decide)
  have Z1 : n0 ≤ h1.size := Nat.le_trans Z0 E1.1
  have ga : n0 ≤ a1 := Nat.le_trans Z0 (Nat.le_of_eq g1.symm)
  obtain ⟨_, _, ⟨T2, L2, k2, n2⟩, -, X2, ⟨Lc2, hQ2, l2, y2, z2⟩, st2⟩ := X1.specialBack hx (y := (⟨"com/example/earnest_load/earnestload/run/Schedule", "<init>", "(DJ)V"⟩ : MethodName)) rfl hown (mvT hZ (hw _ (List.mem_of_getElem? (i := 4) rfl))) (mvT hZ (hw _ (List.mem_of_getElem? (i := 5) rfl))) (mvT hZ (hw _ (List.mem_of_getElem? (i := 6) rfl))) (by decide) (backOf (W := 1) (rmInit l Z a0 hw [] a1 (FP.i2d r) st h1 n0 Z1 A1 ga D_start D_count D_rate) hZ (hw _ (List.mem_of_getElem? (i := 6) rfl)) (hw _ (List.mem_of_getElem? (i := 3) rfl)) (by decide) (by decide)) (g := (mkF m 14 #[.val (.int xr), .val (.long st), .second, .val (.int r), .unset, .unset, .unset, .unset, .unset, .unset, .unset, .unset, .unset, .unset, .unset] [(.long st), (.double (FP.i2d r)), (.ref a1), (.ref a1)])) rfl (by rw [hml]; rfl) (Steps.refl _) (a := a1) (argsL := [(.double (FP.i2d r)), (.long st)]) (rest := [(.ref a1)]) (lenOf pd_1 rfl) rfl (by show 2 * 0 + _ ≤ _; exact Nat.le_of_eq rfl) (hb hby at_14) (fun _ _ => ⟨rfl, e1, (by decide : 1 + 0 ≤ _), (by decide : 3 + 0 ≤ _)⟩)
  dsimp only [Pt.U, Pt.locs, Pt.cells, Pt.slots] at X2 l2 y2 z2 st2 hQ2
  subst l2 y2 z2
  obtain ⟨rfl, N2, K2, E2, Fs2, Fc2, Fr2⟩ := hQ2
  have Z2 : n0 ≤ T2.heap.size := Nat.le_trans Z1 K2.1
  obtain ⟨cq3, kq3, q3a, q3b, q3c⟩ := isOf hZ rfl E2
  obtain ⟨_, _, ⟨T3, L3, k3, n3⟩, -, X3, ⟨Lc3, hQ3, l3, y3, z3⟩, st3⟩ := X2.virtualBack hx (y := (⟨"com/example/earnest_load/earnestload/run/Schedule", "next", "()J"⟩ : MethodName)) (z := (⟨"com/example/earnest_load/earnestload/run/Schedule", "next", "()J"⟩ : MethodName)) hown (mvT hZ (hw _ (List.mem_of_getElem? (i := 14) rfl))) (mvT hZ (hw _ (List.mem_of_getElem? (i := 15) rfl))) (notFace_of_selects (args := #[]) (mvT hZ (hw _ (List.mem_of_getElem? (i := 17) rfl)))) (mvT hZ (hw _ (List.mem_of_getElem? (i := 17) rfl))) (mvT hZ (hw _ (List.mem_of_getElem? (i := 16) rfl))) (by decide) (backOf (W := 0) (rmNext l Z a0 hw [] a1 T2.heap n0 Z2 st (0 : Int64) o0 (FP.i2d r) Fs2 Fc2 Fr2 E2 ga p0.1 p0.2.1 p0.2.2) hZ (hw _ (List.mem_of_getElem? (i := 18) rfl)) (hw _ (List.mem_of_getElem? (i := 3) rfl)) (by decide) (by decide)) q3a q3c (g := (mkF m 21 #[.val (.int xr), .val (.long st), .second, .val (.int r), .val (.ref a1), .unset, .unset, .unset, .unset, .unset, .unset, .unset, .unset, .unset, .unset] [(.ref a1)])) rfl (by rw [hml]; rfl) (Steps.refl _) (argsL := []) (rest := []) (lenOf pd_2 rfl) rfl (by show 2 * 0 + _ ≤ _; exact Nat.le_of_eq rfl) (hb hby at_21) (fun _ _ => ⟨rfl, rfl, (by decide : 1 + 0 ≤ _), (by decide : 3 + 0 ≤ _)⟩)
  dsimp only [Pt.U, Pt.locs, Pt.cells, Pt.slots] at X3 l3 y3 z3 st3 hQ3
  subst l3 y3 z3
  obtain ⟨rfl, N3, K3, E3, Fs3, Fc3, Fr3⟩ := hQ3
  have Z3 : n0 ≤ T3.heap.size := Nat.le_trans Z2 K3.1
  obtain ⟨cq4, kq4, q4a, q4b, q4c⟩ := isOf hZ rfl E3
  obtain ⟨_, _, ⟨T4, L4, k4, n4⟩, -, X4, ⟨Lc4, hQ4, l4, y4, z4⟩, st4⟩ := X3.virtualBack hx (y := (⟨"com/example/earnest_load/earnestload/run/Schedule", "next", "()J"⟩ : MethodName)) (z := (⟨"com/example/earnest_load/earnestload/run/Schedule", "next", "()J"⟩ : MethodName)) hown (mvT hZ (hw _ (List.mem_of_getElem? (i := 14) rfl))) (mvT hZ (hw _ (List.mem_of_getElem? (i := 15) rfl))) (notFace_of_selects (args := #[]) (mvT hZ (hw _ (List.mem_of_getElem? (i := 17) rfl)))) (mvT hZ (hw _ (List.mem_of_getElem? (i := 17) rfl))) (mvT hZ (hw _ (List.mem_of_getElem? (i := 16) rfl))) (by decide) (backOf (W := 0) (rmNext l Z a0 hw [] a1 T3.heap n0 Z3 st (0 + (1 : Int64)) o1 (FP.i2d r) Fs3 Fc3 Fr3 E3 ga p1.1 p1.2.1 p1.2.2) hZ (hw _ (List.mem_of_getElem? (i := 18) rfl)) (hw _ (List.mem_of_getElem? (i := 3) rfl)) (by decide) (by decide)) q4a q4c (g := (mkF m 28 #[.val (.int xr), .val (.long st), .second, .val (.int r), .val (.ref a1), .val (.long (st + o0)), .second, .unset, .unset, .unset, .unset, .unset, .unset, .unset, .unset] [(.ref a1)])) rfl (by rw [hml]; rfl) (Steps.refl _) (argsL := []) (rest := []) (lenOf pd_2 rfl) rfl (by show 2 * 0 + _ ≤ _; exact Nat.le_of_eq rfl) (hb hby at_28) (fun _ _ => ⟨rfl, rfl, (by decide : 1 + 0 ≤ _), (by decide : 3 + 0 ≤ _)⟩)
  dsimp only [Pt.U, Pt.locs, Pt.cells, Pt.slots] at X4 l4 y4 z4 st4 hQ4
  subst l4 y4 z4
  obtain ⟨rfl, N4, K4, E4, Fs4, Fc4, Fr4⟩ := hQ4
  have Z4 : n0 ≤ T4.heap.size := Nat.le_trans Z3 K4.1
  obtain ⟨cq5, kq5, q5a, q5b, q5c⟩ := isOf hZ rfl E4
  obtain ⟨_, _, ⟨T5, L5, k5, n5⟩, -, X5, ⟨Lc5, hQ5, l5, y5, z5⟩, st5⟩ := X4.virtualBack hx (y := (⟨"com/example/earnest_load/earnestload/run/Schedule", "next", "()J"⟩ : MethodName)) (z := (⟨"com/example/earnest_load/earnestload/run/Schedule", "next", "()J"⟩ : MethodName)) hown (mvT hZ (hw _ (List.mem_of_getElem? (i := 14) rfl))) (mvT hZ (hw _ (List.mem_of_getElem? (i := 15) rfl))) (notFace_of_selects (args := #[]) (mvT hZ (hw _ (List.mem_of_getElem? (i := 17) rfl)))) (mvT hZ (hw _ (List.mem_of_getElem? (i := 17) rfl))) (mvT hZ (hw _ (List.mem_of_getElem? (i := 16) rfl))) (by decide) (backOf (W := 0) (rmNext l Z a0 hw [] a1 T4.heap n0 Z4 st (0 + (1 : Int64) + (1 : Int64)) o2 (FP.i2d r) Fs4 Fc4 Fr4 E4 ga p2.1 p2.2.1 p2.2.2) hZ (hw _ (List.mem_of_getElem? (i := 18) rfl)) (hw _ (List.mem_of_getElem? (i := 3) rfl)) (by decide) (by decide)) q5a q5c (g := (mkF m 35 #[.val (.int xr), .val (.long st), .second, .val (.int r), .val (.ref a1), .val (.long (st + o0)), .second, .val (.long (st + o1)), .second, .unset, .unset, .unset, .unset, .unset, .unset] [(.ref a1)])) rfl (by rw [hml]; rfl) (Steps.refl _) (argsL := []) (rest := []) (lenOf pd_2 rfl) rfl (by show 2 * 0 + _ ≤ _; exact Nat.le_of_eq rfl) (hb hby at_35) (fun _ _ => ⟨rfl, rfl, (by decide : 1 + 0 ≤ _), (by decide : 3 + 0 ≤ _)⟩)
  dsimp only [Pt.U, Pt.locs, Pt.cells, Pt.slots] at X5 l5 y5 z5 st5 hQ5
  subst l5 y5 z5
  obtain ⟨rfl, N5, K5, E5, Fs5, Fc5, Fr5⟩ := hQ5
  have Z5 : n0 ≤ T5.heap.size := Nat.le_trans Z4 K5.1
  obtain ⟨cq6, kq6, q6a, q6b, q6c⟩ := isOf hZ rfl E5
  obtain ⟨_, _, ⟨T6, L6, k6, n6⟩, -, X6, ⟨Lc6, hQ6, l6, y6, z6⟩, st6⟩ := X5.virtualBack hx (y := (⟨"com/example/earnest_load/earnestload/run/Schedule", "next", "()J"⟩ : MethodName)) (z := (⟨"com/example/earnest_load/earnestload/run/Schedule", "next", "()J"⟩ : MethodName)) hown (mvT hZ (hw _ (List.mem_of_getElem? (i := 14) rfl))) (mvT hZ (hw _ (List.mem_of_getElem? (i := 15) rfl))) (notFace_of_selects (args := #[]) (mvT hZ (hw _ (List.mem_of_getElem? (i := 17) rfl)))) (mvT hZ (hw _ (List.mem_of_getElem? (i := 17) rfl))) (mvT hZ (hw _ (List.mem_of_getElem? (i := 16) rfl))) (by decide) (backOf (W := 0) (rmNext l Z a0 hw [] a1 T5.heap n0 Z5 st (0 + (1 : Int64) + (1 : Int64) + (1 : Int64)) o3 (FP.i2d r) Fs5 Fc5 Fr5 E5 ga p3.1 p3.2.1 p3.2.2) hZ (hw _ (List.mem_of_getElem? (i := 18) rfl)) (hw _ (List.mem_of_getElem? (i := 3) rfl)) (by decide) (by decide)) q6a q6c (g := (mkF m 42 #[.val (.int xr), .val (.long st), .second, .val (.int r), .val (.ref a1), .val (.long (st + o0)), .second, .val (.long (st + o1)), .second, .val (.long (st + o2)), .second, .unset, .unset, .unset, .unset] [(.ref a1)])) rfl (by rw [hml]; rfl) (Steps.refl _) (argsL := []) (rest := []) (lenOf pd_2 rfl) rfl (by show 2 * 0 + _ ≤ _; exact Nat.le_of_eq rfl) (hb hby at_42) (fun _ _ => ⟨rfl, rfl, (by decide : 1 + 0 ≤ _), (by decide : 3 + 0 ≤ _)⟩)
  dsimp only [Pt.U, Pt.locs, Pt.cells, Pt.slots] at X6 l6 y6 z6 st6 hQ6
  subst l6 y6 z6
  obtain ⟨rfl, N6, K6, E6, Fs6, Fc6, Fr6⟩ := hQ6
  have Z6 : n0 ≤ T6.heap.size := Nat.le_trans Z5 K6.1
  obtain ⟨fs, hr, hrun, hended, hW, hsame⟩ := X6.leave (v := some (.int (1 : Int32))) (fun h => by rw [Bd.returns] at h; cases h)
  refine ⟨_, _, pre0 _ ?_, hrun, hended, _, _, rfl, ?_, ⟨_, rfl⟩, hW, hsame.mono (by decide) (by decide)⟩
  · show Steps p.tables e below (s₁.setTop (mkF m 0 #[.val (.int xr), .val (.long st), .second, .unset, .unset, .unset, .unset, .unset, .unset, .unset, .unset, .unset, .unset, .unset, .unset] [])) _
    refine XS.iloadN X0.here hx rfl (hb hby at_0) rfl ?_
    show Steps p.tables e below (s₁.setTop (mkF m 1 #[.val (.int xr), .val (.long st), .second, .unset, .unset, .unset, .unset, .unset, .unset, .unset, .unset, .unset, .unset, .unset, .unset] [(.int xr)])) _
    refine X0.ldcInt hx hown (mvT hZ (hw _ (List.mem_of_getElem? (i := 0) rfl))) (g := (mkF m 1 #[.val (.int xr), .val (.long st), .second, .unset, .unset, .unset, .unset, .unset, .unset, .unset, .unset, .unset, .unset, .unset, .unset] [(.int xr)])) rfl (hb hby at_1) _ ?_
    show Steps p.tables e below (s₁.setTop (mkF m 3 #[.val (.int xr), .val (.long st), .second, .unset, .unset, .unset, .unset, .unset, .unset, .unset, .unset, .unset, .unset, .unset, .unset] [(.int (65535 : Int32)), (.int xr)])) _
    refine XS.iand X0.here hx rfl (hb hby at_3) rfl ?_
    show Steps p.tables e below (s₁.setTop (mkF m 4 #[.val (.int xr), .val (.long st), .second, .unset, .unset, .unset, .unset, .unset, .unset, .unset, .unset, .unset, .unset, .unset, .unset] [(.int (xr &&& (65535 : Int32)))])) _
    refine XS.iconst X0.here hx rfl (hb hby at_4) ?_
    show Steps p.tables e below (s₁.setTop (mkF m 5 #[.val (.int xr), .val (.long st), .second, .unset, .unset, .unset, .unset, .unset, .unset, .unset, .unset, .unset, .unset, .unset, .unset] [(.int (1 : Int32)), (.int (xr &&& (65535 : Int32)))])) _
    refine XS.iadd X0.here hx rfl (hb hby at_5) rfl ?_
    rw [hrr]
    show Steps p.tables e below (s₁.setTop (mkF m 6 #[.val (.int xr), .val (.long st), .second, .unset, .unset, .unset, .unset, .unset, .unset, .unset, .unset, .unset, .unset, .unset, .unset] [(.int r)])) _
    refine XS.istoreN X0.here hx rfl (hb hby at_6) rfl (l' := #[.val (.int xr), .val (.long st), .second, .val (.int r), .unset, .unset, .unset, .unset, .unset, .unset, .unset, .unset, .unset, .unset, .unset]) rfl ?_
    show Steps p.tables e below (s₁.setTop (mkF m 7 #[.val (.int xr), .val (.long st), .second, .val (.int r), .unset, .unset, .unset, .unset, .unset, .unset, .unset, .unset, .unset, .unset, .unset] [])) _
    refine st1 _ ?_
    show Steps p.tables e below (T1.setTop (mkF m 10 #[.val (.int xr), .val (.long st), .second, .val (.int r), .unset, .unset, .unset, .unset, .unset, .unset, .unset, .unset, .unset, .unset, .unset] [(.ref a1)])) _
    refine XS.dup X1.here hx rfl (hb hby at_10) rfl rfl ?_
    show Steps p.tables e below (T1.setTop (mkF m 11 #[.val (.int xr), .val (.long st), .second, .val (.int r), .unset, .unset, .unset, .unset, .unset, .unset, .unset, .unset, .unset, .unset, .unset] [(.ref a1), (.ref a1)])) _
    refine XS.iloadN X1.here hx rfl (hb hby at_11) rfl ?_
    show Steps p.tables e below (T1.setTop (mkF m 12 #[.val (.int xr), .val (.long st), .second, .val (.int r), .unset, .unset, .unset, .unset, .unset, .unset, .unset, .unset, .unset, .unset, .unset] [(.int r), (.ref a1), (.ref a1)])) _
    refine XS.i2dS X1.here hx rfl (hb hby at_12) rfl (v := FP.i2d r) rfl ?_
    show Steps p.tables e below (T1.setTop (mkF m 13 #[.val (.int xr), .val (.long st), .second, .val (.int r), .unset, .unset, .unset, .unset, .unset, .unset, .unset, .unset, .unset, .unset, .unset] [(.double (FP.i2d r)), (.ref a1), (.ref a1)])) _
    refine XS.lloadN X1.here hx rfl (hb hby at_13) rfl ?_
    show Steps p.tables e below (T1.setTop (mkF m 14 #[.val (.int xr), .val (.long st), .second, .val (.int r), .unset, .unset, .unset, .unset, .unset, .unset, .unset, .unset, .unset, .unset, .unset] [(.long st), (.double (FP.i2d r)), (.ref a1), (.ref a1)])) _
    refine st2.trans ?_
    show Steps p.tables e below (T2.setTop (mkF m 17 #[.val (.int xr), .val (.long st), .second, .val (.int r), .unset, .unset, .unset, .unset, .unset, .unset, .unset, .unset, .unset, .unset, .unset] [(.ref a1)])) _
    refine XS.astore X2.here hx rfl (hb hby at_17) rfl rfl (l' := #[.val (.int xr), .val (.long st), .second, .val (.int r), .val (.ref a1), .unset, .unset, .unset, .unset, .unset, .unset, .unset, .unset, .unset, .unset]) rfl ?_
    show Steps p.tables e below (T2.setTop (mkF m 19 #[.val (.int xr), .val (.long st), .second, .val (.int r), .val (.ref a1), .unset, .unset, .unset, .unset, .unset, .unset, .unset, .unset, .unset, .unset] [])) _
    refine XS.aload X2.here hx rfl (hb hby at_19) rfl rfl ?_
    show Steps p.tables e below (T2.setTop (mkF m 21 #[.val (.int xr), .val (.long st), .second, .val (.int r), .val (.ref a1), .unset, .unset, .unset, .unset, .unset, .unset, .unset, .unset, .unset, .unset] [(.ref a1)])) _
    refine st3.trans ?_
    show Steps p.tables e below (T3.setTop (mkF m 24 #[.val (.int xr), .val (.long st), .second, .val (.int r), .val (.ref a1), .unset, .unset, .unset, .unset, .unset, .unset, .unset, .unset, .unset, .unset] [(.long (st + o0))])) _
    refine XS.lstore X3.here hx rfl (hb hby at_24) rfl (l' := #[.val (.int xr), .val (.long st), .second, .val (.int r), .val (.ref a1), .val (.long (st + o0)), .second, .unset, .unset, .unset, .unset, .unset, .unset, .unset, .unset]) rfl ?_
    show Steps p.tables e below (T3.setTop (mkF m 26 #[.val (.int xr), .val (.long st), .second, .val (.int r), .val (.ref a1), .val (.long (st + o0)), .second, .unset, .unset, .unset, .unset, .unset, .unset, .unset, .unset] [])) _
    refine XS.aload X3.here hx rfl (hb hby at_26) rfl rfl ?_
    show Steps p.tables e below (T3.setTop (mkF m 28 #[.val (.int xr), .val (.long st), .second, .val (.int r), .val (.ref a1), .val (.long (st + o0)), .second, .unset, .unset, .unset, .unset, .unset, .unset, .unset, .unset] [(.ref a1)])) _
    refine st4.trans ?_
    show Steps p.tables e below (T4.setTop (mkF m 31 #[.val (.int xr), .val (.long st), .second, .val (.int r), .val (.ref a1), .val (.long (st + o0)), .second, .unset, .unset, .unset, .unset, .unset, .unset, .unset, .unset] [(.long (st + o1))])) _
    refine XS.lstore X4.here hx rfl (hb hby at_31) rfl (l' := #[.val (.int xr), .val (.long st), .second, .val (.int r), .val (.ref a1), .val (.long (st + o0)), .second, .val (.long (st + o1)), .second, .unset, .unset, .unset, .unset, .unset, .unset]) rfl ?_
    show Steps p.tables e below (T4.setTop (mkF m 33 #[.val (.int xr), .val (.long st), .second, .val (.int r), .val (.ref a1), .val (.long (st + o0)), .second, .val (.long (st + o1)), .second, .unset, .unset, .unset, .unset, .unset, .unset] [])) _
    refine XS.aload X4.here hx rfl (hb hby at_33) rfl rfl ?_
    show Steps p.tables e below (T4.setTop (mkF m 35 #[.val (.int xr), .val (.long st), .second, .val (.int r), .val (.ref a1), .val (.long (st + o0)), .second, .val (.long (st + o1)), .second, .unset, .unset, .unset, .unset, .unset, .unset] [(.ref a1)])) _
    refine st5.trans ?_
    show Steps p.tables e below (T5.setTop (mkF m 38 #[.val (.int xr), .val (.long st), .second, .val (.int r), .val (.ref a1), .val (.long (st + o0)), .second, .val (.long (st + o1)), .second, .unset, .unset, .unset, .unset, .unset, .unset] [(.long (st + o2))])) _
    refine XS.lstore X5.here hx rfl (hb hby at_38) rfl (l' := #[.val (.int xr), .val (.long st), .second, .val (.int r), .val (.ref a1), .val (.long (st + o0)), .second, .val (.long (st + o1)), .second, .val (.long (st + o2)), .second, .unset, .unset, .unset, .unset]) rfl ?_
    show Steps p.tables e below (T5.setTop (mkF m 40 #[.val (.int xr), .val (.long st), .second, .val (.int r), .val (.ref a1), .val (.long (st + o0)), .second, .val (.long (st + o1)), .second, .val (.long (st + o2)), .second, .unset, .unset, .unset, .unset] [])) _
    refine XS.aload X5.here hx rfl (hb hby at_40) rfl rfl ?_
    show Steps p.tables e below (T5.setTop (mkF m 42 #[.val (.int xr), .val (.long st), .second, .val (.int r), .val (.ref a1), .val (.long (st + o0)), .second, .val (.long (st + o1)), .second, .val (.long (st + o2)), .second, .unset, .unset, .unset, .unset] [(.ref a1)])) _
    refine st6.trans ?_
    show Steps p.tables e below (T6.setTop (mkF m 45 #[.val (.int xr), .val (.long st), .second, .val (.int r), .val (.ref a1), .val (.long (st + o0)), .second, .val (.long (st + o1)), .second, .val (.long (st + o2)), .second, .unset, .unset, .unset, .unset] [(.long (st + o3))])) _
    refine XS.lstore X6.here hx rfl (hb hby at_45) rfl (l' := #[.val (.int xr), .val (.long st), .second, .val (.int r), .val (.ref a1), .val (.long (st + o0)), .second, .val (.long (st + o1)), .second, .val (.long (st + o2)), .second, .val (.long (st + o3)), .second, .unset, .unset]) rfl ?_
    show Steps p.tables e below (T6.setTop (mkF m 47 #[.val (.int xr), .val (.long st), .second, .val (.int r), .val (.ref a1), .val (.long (st + o0)), .second, .val (.long (st + o1)), .second, .val (.long (st + o2)), .second, .val (.long (st + o3)), .second, .unset, .unset] [])) _
    refine X6.ldc2Long hx hown (mvT hZ (hw _ (List.mem_of_getElem? (i := 26) rfl))) (g := (mkF m 47 #[.val (.int xr), .val (.long st), .second, .val (.int r), .val (.ref a1), .val (.long (st + o0)), .second, .val (.long (st + o1)), .second, .val (.long (st + o2)), .second, .val (.long (st + o3)), .second, .unset, .unset] [])) rfl (hb hby at_47) _ ?_
    show Steps p.tables e below (T6.setTop (mkF m 50 #[.val (.int xr), .val (.long st), .second, .val (.int r), .val (.ref a1), .val (.long (st + o0)), .second, .val (.long (st + o1)), .second, .val (.long (st + o2)), .second, .val (.long (st + o3)), .second, .unset, .unset] [(.long (1000000000 : Int64))])) _
    refine XS.lstore X6.here hx rfl (hb hby at_50) rfl (l' := #[.val (.int xr), .val (.long st), .second, .val (.int r), .val (.ref a1), .val (.long (st + o0)), .second, .val (.long (st + o1)), .second, .val (.long (st + o2)), .second, .val (.long (st + o3)), .second, .val (.long (1000000000 : Int64)), .second]) rfl ?_
    show Steps p.tables e below (T6.setTop (mkF m 52 #[.val (.int xr), .val (.long st), .second, .val (.int r), .val (.ref a1), .val (.long (st + o0)), .second, .val (.long (st + o1)), .second, .val (.long (st + o2)), .second, .val (.long (st + o3)), .second, .val (.long (1000000000 : Int64)), .second] [])) _
    refine XS.lload X6.here hx rfl (hb hby at_52) rfl ?_
    show Steps p.tables e below (T6.setTop (mkF m 54 #[.val (.int xr), .val (.long st), .second, .val (.int r), .val (.ref a1), .val (.long (st + o0)), .second, .val (.long (st + o1)), .second, .val (.long (st + o2)), .second, .val (.long (st + o3)), .second, .val (.long (1000000000 : Int64)), .second] [(.long (st + o0))])) _
    refine XS.lloadN X6.here hx rfl (hb hby at_54) rfl ?_
    show Steps p.tables e below (T6.setTop (mkF m 55 #[.val (.int xr), .val (.long st), .second, .val (.int r), .val (.ref a1), .val (.long (st + o0)), .second, .val (.long (st + o1)), .second, .val (.long (st + o2)), .second, .val (.long (st + o3)), .second, .val (.long (1000000000 : Int64)), .second] [(.long st), (.long (st + o0))])) _
    refine XS.lcmp X6.here hx rfl (hb hby at_55) rfl ?_
    show Steps p.tables e below (T6.setTop (mkF m 56 #[.val (.int xr), .val (.long st), .second, .val (.int r), .val (.ref a1), .val (.long (st + o0)), .second, .val (.long (st + o1)), .second, .val (.long (st + o2)), .second, .val (.long (st + o3)), .second, .val (.long (1000000000 : Int64)), .second] [(.int (lcmpW (st + o0) st))])) _
    refine XS.ifNo X6.here hx rfl (hb hby at_56) rfl ((Jvm.Own.holdsL _ _ _).trans (Jvm.Own.dF (by rw [w0]; omega))) ?_
    show Steps p.tables e below (T6.setTop (mkF m 59 #[.val (.int xr), .val (.long st), .second, .val (.int r), .val (.ref a1), .val (.long (st + o0)), .second, .val (.long (st + o1)), .second, .val (.long (st + o2)), .second, .val (.long (st + o3)), .second, .val (.long (1000000000 : Int64)), .second] [])) _
    refine XS.lload X6.here hx rfl (hb hby at_59) rfl ?_
    show Steps p.tables e below (T6.setTop (mkF m 61 #[.val (.int xr), .val (.long st), .second, .val (.int r), .val (.ref a1), .val (.long (st + o0)), .second, .val (.long (st + o1)), .second, .val (.long (st + o2)), .second, .val (.long (st + o3)), .second, .val (.long (1000000000 : Int64)), .second] [(.long (st + o1))])) _
    refine XS.lloadN X6.here hx rfl (hb hby at_61) rfl ?_
    show Steps p.tables e below (T6.setTop (mkF m 62 #[.val (.int xr), .val (.long st), .second, .val (.int r), .val (.ref a1), .val (.long (st + o0)), .second, .val (.long (st + o1)), .second, .val (.long (st + o2)), .second, .val (.long (st + o3)), .second, .val (.long (1000000000 : Int64)), .second] [(.long st), (.long (st + o1))])) _
    refine XS.lload X6.here hx rfl (hb hby at_62) rfl ?_
    show Steps p.tables e below (T6.setTop (mkF m 64 #[.val (.int xr), .val (.long st), .second, .val (.int r), .val (.ref a1), .val (.long (st + o0)), .second, .val (.long (st + o1)), .second, .val (.long (st + o2)), .second, .val (.long (st + o3)), .second, .val (.long (1000000000 : Int64)), .second] [(.long (1000000000 : Int64)), (.long st), (.long (st + o1))])) _
    refine XS.iloadN X6.here hx rfl (hb hby at_64) rfl ?_
    show Steps p.tables e below (T6.setTop (mkF m 65 #[.val (.int xr), .val (.long st), .second, .val (.int r), .val (.ref a1), .val (.long (st + o0)), .second, .val (.long (st + o1)), .second, .val (.long (st + o2)), .second, .val (.long (st + o3)), .second, .val (.long (1000000000 : Int64)), .second] [(.int r), (.long (1000000000 : Int64)), (.long st), (.long (st + o1))])) _
    refine XS.i2l X6.here hx rfl (hb hby at_65) rfl ?_
    show Steps p.tables e below (T6.setTop (mkF m 66 #[.val (.int xr), .val (.long st), .second, .val (.int r), .val (.ref a1), .val (.long (st + o0)), .second, .val (.long (st + o1)), .second, .val (.long (st + o2)), .second, .val (.long (st + o3)), .second, .val (.long (1000000000 : Int64)), .second] [(.long r.toInt64), (.long (1000000000 : Int64)), (.long st), (.long (st + o1))])) _
    refine XS.ldiv X6.here hx rfl (hb hby at_66) rfl hnz ?_
    rw [q1]
    show Steps p.tables e below (T6.setTop (mkF m 67 #[.val (.int xr), .val (.long st), .second, .val (.int r), .val (.ref a1), .val (.long (st + o0)), .second, .val (.long (st + o1)), .second, .val (.long (st + o2)), .second, .val (.long (st + o3)), .second, .val (.long (1000000000 : Int64)), .second] [(.long o1), (.long st), (.long (st + o1))])) _
    refine XS.ladd X6.here hx rfl (hb hby at_67) rfl ?_
    show Steps p.tables e below (T6.setTop (mkF m 68 #[.val (.int xr), .val (.long st), .second, .val (.int r), .val (.ref a1), .val (.long (st + o0)), .second, .val (.long (st + o1)), .second, .val (.long (st + o2)), .second, .val (.long (st + o3)), .second, .val (.long (1000000000 : Int64)), .second] [(.long (st + o1)), (.long (st + o1))])) _
    refine XS.lcmp X6.here hx rfl (hb hby at_68) rfl ?_
    show Steps p.tables e below (T6.setTop (mkF m 69 #[.val (.int xr), .val (.long st), .second, .val (.int r), .val (.ref a1), .val (.long (st + o0)), .second, .val (.long (st + o1)), .second, .val (.long (st + o2)), .second, .val (.long (st + o3)), .second, .val (.long (1000000000 : Int64)), .second] [(.int (lcmpW (st + o1) (st + o1)))])) _
    refine XS.ifNo X6.here hx rfl (hb hby at_69) rfl ((Jvm.Own.holdsL _ _ _).trans (Jvm.Own.dF (by omega))) ?_
    show Steps p.tables e below (T6.setTop (mkF m 72 #[.val (.int xr), .val (.long st), .second, .val (.int r), .val (.ref a1), .val (.long (st + o0)), .second, .val (.long (st + o1)), .second, .val (.long (st + o2)), .second, .val (.long (st + o3)), .second, .val (.long (1000000000 : Int64)), .second] [])) _
    refine XS.lload X6.here hx rfl (hb hby at_72) rfl ?_
    show Steps p.tables e below (T6.setTop (mkF m 74 #[.val (.int xr), .val (.long st), .second, .val (.int r), .val (.ref a1), .val (.long (st + o0)), .second, .val (.long (st + o1)), .second, .val (.long (st + o2)), .second, .val (.long (st + o3)), .second, .val (.long (1000000000 : Int64)), .second] [(.long (st + o2))])) _
    refine XS.lloadN X6.here hx rfl (hb hby at_74) rfl ?_
    show Steps p.tables e below (T6.setTop (mkF m 75 #[.val (.int xr), .val (.long st), .second, .val (.int r), .val (.ref a1), .val (.long (st + o0)), .second, .val (.long (st + o1)), .second, .val (.long (st + o2)), .second, .val (.long (st + o3)), .second, .val (.long (1000000000 : Int64)), .second] [(.long st), (.long (st + o2))])) _
    refine X6.ldc2Long hx hown (mvT hZ (hw _ (List.mem_of_getElem? (i := 27) rfl))) (g := (mkF m 75 #[.val (.int xr), .val (.long st), .second, .val (.int r), .val (.ref a1), .val (.long (st + o0)), .second, .val (.long (st + o1)), .second, .val (.long (st + o2)), .second, .val (.long (st + o3)), .second, .val (.long (1000000000 : Int64)), .second] [(.long st), (.long (st + o2))])) rfl (hb hby at_75) _ ?_
    show Steps p.tables e below (T6.setTop (mkF m 78 #[.val (.int xr), .val (.long st), .second, .val (.int r), .val (.ref a1), .val (.long (st + o0)), .second, .val (.long (st + o1)), .second, .val (.long (st + o2)), .second, .val (.long (st + o3)), .second, .val (.long (1000000000 : Int64)), .second] [(.long (2 : Int64)), (.long st), (.long (st + o2))])) _
    refine XS.lload X6.here hx rfl (hb hby at_78) rfl ?_
    show Steps p.tables e below (T6.setTop (mkF m 80 #[.val (.int xr), .val (.long st), .second, .val (.int r), .val (.ref a1), .val (.long (st + o0)), .second, .val (.long (st + o1)), .second, .val (.long (st + o2)), .second, .val (.long (st + o3)), .second, .val (.long (1000000000 : Int64)), .second] [(.long (1000000000 : Int64)), (.long (2 : Int64)), (.long st), (.long (st + o2))])) _
    refine XS.lmul X6.here hx rfl (hb hby at_80) rfl ?_
    show Steps p.tables e below (T6.setTop (mkF m 81 #[.val (.int xr), .val (.long st), .second, .val (.int r), .val (.ref a1), .val (.long (st + o0)), .second, .val (.long (st + o1)), .second, .val (.long (st + o2)), .second, .val (.long (st + o3)), .second, .val (.long (1000000000 : Int64)), .second] [(.long ((2 : Int64) * (1000000000 : Int64))), (.long st), (.long (st + o2))])) _
    refine XS.iloadN X6.here hx rfl (hb hby at_81) rfl ?_
    show Steps p.tables e below (T6.setTop (mkF m 82 #[.val (.int xr), .val (.long st), .second, .val (.int r), .val (.ref a1), .val (.long (st + o0)), .second, .val (.long (st + o1)), .second, .val (.long (st + o2)), .second, .val (.long (st + o3)), .second, .val (.long (1000000000 : Int64)), .second] [(.int r), (.long ((2 : Int64) * (1000000000 : Int64))), (.long st), (.long (st + o2))])) _
    refine XS.i2l X6.here hx rfl (hb hby at_82) rfl ?_
    show Steps p.tables e below (T6.setTop (mkF m 83 #[.val (.int xr), .val (.long st), .second, .val (.int r), .val (.ref a1), .val (.long (st + o0)), .second, .val (.long (st + o1)), .second, .val (.long (st + o2)), .second, .val (.long (st + o3)), .second, .val (.long (1000000000 : Int64)), .second] [(.long r.toInt64), (.long ((2 : Int64) * (1000000000 : Int64))), (.long st), (.long (st + o2))])) _
    refine XS.ldiv X6.here hx rfl (hb hby at_83) rfl hnz ?_
    rw [q2]
    show Steps p.tables e below (T6.setTop (mkF m 84 #[.val (.int xr), .val (.long st), .second, .val (.int r), .val (.ref a1), .val (.long (st + o0)), .second, .val (.long (st + o1)), .second, .val (.long (st + o2)), .second, .val (.long (st + o3)), .second, .val (.long (1000000000 : Int64)), .second] [(.long o2), (.long st), (.long (st + o2))])) _
    refine XS.ladd X6.here hx rfl (hb hby at_84) rfl ?_
    show Steps p.tables e below (T6.setTop (mkF m 85 #[.val (.int xr), .val (.long st), .second, .val (.int r), .val (.ref a1), .val (.long (st + o0)), .second, .val (.long (st + o1)), .second, .val (.long (st + o2)), .second, .val (.long (st + o3)), .second, .val (.long (1000000000 : Int64)), .second] [(.long (st + o2)), (.long (st + o2))])) _
    refine XS.lcmp X6.here hx rfl (hb hby at_85) rfl ?_
    show Steps p.tables e below (T6.setTop (mkF m 86 #[.val (.int xr), .val (.long st), .second, .val (.int r), .val (.ref a1), .val (.long (st + o0)), .second, .val (.long (st + o1)), .second, .val (.long (st + o2)), .second, .val (.long (st + o3)), .second, .val (.long (1000000000 : Int64)), .second] [(.int (lcmpW (st + o2) (st + o2)))])) _
    refine XS.ifNo X6.here hx rfl (hb hby at_86) rfl ((Jvm.Own.holdsL _ _ _).trans (Jvm.Own.dF (by omega))) ?_
    show Steps p.tables e below (T6.setTop (mkF m 89 #[.val (.int xr), .val (.long st), .second, .val (.int r), .val (.ref a1), .val (.long (st + o0)), .second, .val (.long (st + o1)), .second, .val (.long (st + o2)), .second, .val (.long (st + o3)), .second, .val (.long (1000000000 : Int64)), .second] [])) _
    refine XS.lload X6.here hx rfl (hb hby at_89) rfl ?_
    show Steps p.tables e below (T6.setTop (mkF m 91 #[.val (.int xr), .val (.long st), .second, .val (.int r), .val (.ref a1), .val (.long (st + o0)), .second, .val (.long (st + o1)), .second, .val (.long (st + o2)), .second, .val (.long (st + o3)), .second, .val (.long (1000000000 : Int64)), .second] [(.long (st + o3))])) _
    refine XS.lloadN X6.here hx rfl (hb hby at_91) rfl ?_
    show Steps p.tables e below (T6.setTop (mkF m 92 #[.val (.int xr), .val (.long st), .second, .val (.int r), .val (.ref a1), .val (.long (st + o0)), .second, .val (.long (st + o1)), .second, .val (.long (st + o2)), .second, .val (.long (st + o3)), .second, .val (.long (1000000000 : Int64)), .second] [(.long st), (.long (st + o3))])) _
    refine X6.ldc2Long hx hown (mvT hZ (hw _ (List.mem_of_getElem? (i := 28) rfl))) (g := (mkF m 92 #[.val (.int xr), .val (.long st), .second, .val (.int r), .val (.ref a1), .val (.long (st + o0)), .second, .val (.long (st + o1)), .second, .val (.long (st + o2)), .second, .val (.long (st + o3)), .second, .val (.long (1000000000 : Int64)), .second] [(.long st), (.long (st + o3))])) rfl (hb hby at_92) _ ?_
    show Steps p.tables e below (T6.setTop (mkF m 95 #[.val (.int xr), .val (.long st), .second, .val (.int r), .val (.ref a1), .val (.long (st + o0)), .second, .val (.long (st + o1)), .second, .val (.long (st + o2)), .second, .val (.long (st + o3)), .second, .val (.long (1000000000 : Int64)), .second] [(.long (3 : Int64)), (.long st), (.long (st + o3))])) _
    refine XS.lload X6.here hx rfl (hb hby at_95) rfl ?_
    show Steps p.tables e below (T6.setTop (mkF m 97 #[.val (.int xr), .val (.long st), .second, .val (.int r), .val (.ref a1), .val (.long (st + o0)), .second, .val (.long (st + o1)), .second, .val (.long (st + o2)), .second, .val (.long (st + o3)), .second, .val (.long (1000000000 : Int64)), .second] [(.long (1000000000 : Int64)), (.long (3 : Int64)), (.long st), (.long (st + o3))])) _
    refine XS.lmul X6.here hx rfl (hb hby at_97) rfl ?_
    show Steps p.tables e below (T6.setTop (mkF m 98 #[.val (.int xr), .val (.long st), .second, .val (.int r), .val (.ref a1), .val (.long (st + o0)), .second, .val (.long (st + o1)), .second, .val (.long (st + o2)), .second, .val (.long (st + o3)), .second, .val (.long (1000000000 : Int64)), .second] [(.long ((3 : Int64) * (1000000000 : Int64))), (.long st), (.long (st + o3))])) _
    refine XS.iloadN X6.here hx rfl (hb hby at_98) rfl ?_
    show Steps p.tables e below (T6.setTop (mkF m 99 #[.val (.int xr), .val (.long st), .second, .val (.int r), .val (.ref a1), .val (.long (st + o0)), .second, .val (.long (st + o1)), .second, .val (.long (st + o2)), .second, .val (.long (st + o3)), .second, .val (.long (1000000000 : Int64)), .second] [(.int r), (.long ((3 : Int64) * (1000000000 : Int64))), (.long st), (.long (st + o3))])) _
    refine XS.i2l X6.here hx rfl (hb hby at_99) rfl ?_
    show Steps p.tables e below (T6.setTop (mkF m 100 #[.val (.int xr), .val (.long st), .second, .val (.int r), .val (.ref a1), .val (.long (st + o0)), .second, .val (.long (st + o1)), .second, .val (.long (st + o2)), .second, .val (.long (st + o3)), .second, .val (.long (1000000000 : Int64)), .second] [(.long r.toInt64), (.long ((3 : Int64) * (1000000000 : Int64))), (.long st), (.long (st + o3))])) _
    refine XS.ldiv X6.here hx rfl (hb hby at_100) rfl hnz ?_
    rw [q3]
    show Steps p.tables e below (T6.setTop (mkF m 101 #[.val (.int xr), .val (.long st), .second, .val (.int r), .val (.ref a1), .val (.long (st + o0)), .second, .val (.long (st + o1)), .second, .val (.long (st + o2)), .second, .val (.long (st + o3)), .second, .val (.long (1000000000 : Int64)), .second] [(.long o3), (.long st), (.long (st + o3))])) _
    refine XS.ladd X6.here hx rfl (hb hby at_101) rfl ?_
    show Steps p.tables e below (T6.setTop (mkF m 102 #[.val (.int xr), .val (.long st), .second, .val (.int r), .val (.ref a1), .val (.long (st + o0)), .second, .val (.long (st + o1)), .second, .val (.long (st + o2)), .second, .val (.long (st + o3)), .second, .val (.long (1000000000 : Int64)), .second] [(.long (st + o3)), (.long (st + o3))])) _
    refine XS.lcmp X6.here hx rfl (hb hby at_102) rfl ?_
    show Steps p.tables e below (T6.setTop (mkF m 103 #[.val (.int xr), .val (.long st), .second, .val (.int r), .val (.ref a1), .val (.long (st + o0)), .second, .val (.long (st + o1)), .second, .val (.long (st + o2)), .second, .val (.long (st + o3)), .second, .val (.long (1000000000 : Int64)), .second] [(.int (lcmpW (st + o3) (st + o3)))])) _
    refine XS.ifNo X6.here hx rfl (hb hby at_103) rfl ((Jvm.Own.holdsL _ _ _).trans (Jvm.Own.dF (by omega))) ?_
    show Steps p.tables e below (T6.setTop (mkF m 106 #[.val (.int xr), .val (.long st), .second, .val (.int r), .val (.ref a1), .val (.long (st + o0)), .second, .val (.long (st + o1)), .second, .val (.long (st + o2)), .second, .val (.long (st + o3)), .second, .val (.long (1000000000 : Int64)), .second] [])) _
    refine XS.iconst X6.here hx rfl (hb hby at_106) ?_
    show Steps p.tables e below (T6.setTop (mkF m 107 #[.val (.int xr), .val (.long st), .second, .val (.int r), .val (.ref a1), .val (.long (st + o0)), .second, .val (.long (st + o1)), .second, .val (.long (st + o2)), .second, .val (.long (st + o3)), .second, .val (.long (1000000000 : Int64)), .second] [(.int (1 : Int32))])) _
    refine XS.goto X6.here hx rfl (pc0 := 107) (pc' := 111) rfl (hb hby at_107) (by decide) (by decide) ?_
    show Steps p.tables e below (T6.setTop (mkF m 111 #[.val (.int xr), .val (.long st), .second, .val (.int r), .val (.ref a1), .val (.long (st + o0)), .second, .val (.long (st + o1)), .second, .val (.long (st + o2)), .second, .val (.long (st + o3)), .second, .val (.long (1000000000 : Int64)), .second] [(.int (1 : Int32))])) _
    exact retN X6 hx (t := .boolean) Bd.returns (by simp) (hb hby at_111) hr
  · show QL n0 _ T6.heap _
    exact ⟨rfl, Fr.app (Fr.app (Fr.app (Fr.app (Fr.app N0 N2) N3) N4) N5) N6⟩
set_option maxRecDepth 65536 in
set_option maxHeartbeats 40000000 in
theorem comes_1 {Post : Tables → Env → Array Value → State → Outcome → State → Prop} (hpost : ∀ tb e args s v u, (limb_1_1.after args s (.returned v) u = true ∧ limb_1_2.after args s (.returned v) u = true ∧ True) → FrameEnd s (.returned v) u (Jvm.fieldLocs frame_1_writes args s ++ Jvm.arrayLocs frame_1_arrays args s ++ Jvm.staticLocs frame_1_statics s) 16 128 → Post tb e args s (.returned v) u) :
    ArmFor flags0 classFile x code maxLocals ret World_1 tables_1 room_1 Calls_1 rest_1 Pre_1 Post := by
  intro l hfl _ _ p e ha hc hk s m args below hf hA hF happ hP
  obtain ⟨hcalls, hrest, hpre⟩ := hP
  obtain ⟨-, -, -, hnamed, -, -, -, hat⟩ := (Spec.applies_iff hf).mp happ
  obtain ⟨hg, hn⟩ := and_e (Cond.before_iff.mp (show (Jvm.Cond.and given_1 narrow_1).before args s = true from hpre))
  obtain ⟨hcnt, g0⟩ := and_e hg
  obtain ⟨a0, g1⟩ := and_e g0
  obtain ⟨w0, w1, rfl⟩ : ∃ w0 w1 : Value, args = #[w0, w1] := by
    have hs : args.size = 2 := by simpa [Cond.value, given_1] using hcnt
    obtain ⟨L⟩ := args
    match L, hs with
    | [w0, w1], _ => exact ⟨w0, w1, rfl⟩
  have hw := fun d (hd : d ∈ tables_1) => atoms_spec (ws := Jvm.Cond.code x code maxLocals ret :: tables_1) hat d (List.mem_cons_of_mem _ hd)
  have hfit : Fit s := fun {y c} hc i hi => by
    obtain ⟨ha, rfl⟩ := Array.getElem?_eq_some_iff.mp hc
    have q := List.all_eq_true.mp ((Array.all_eq_true_iff_forall_mem.mp hF) _ (Array.getElem_mem ha)) i (List.mem_range.mpr hi)
    simpa [Array.getElem?_eq_getElem hi] using q
  obtain ⟨v0, e0⟩ := is_v a0
  obtain rfl : w0 = (.int v0) := Option.some.inj e0
  obtain ⟨v1, e1⟩ := isL_v g1
  obtain rfl : w1 = (.long v1) := Option.some.inj e1
  obtain ⟨n, o, h1, h2, h3, _, L, rfl, ⟨rfl, N⟩, hq⟩ := rm0 l s _ hw tables_1 v0 v1 s.heap s.heap.size (Nat.le_refl _)  p e ha hc hk s m _ below hf ((Spec.applies_iff_loose hf).mp happ).1 ⟨rfl, State.Warmed39.refl s, rfl⟩ trivial
  refine ⟨n, _, h1, h2, h3, hpost _ _ _ _ _ _ ⟨Cond.after_iff.mpr rfl, Cond.after_iff.mpr (eq_i res_at (Term.int_eval (1)) rfl), trivial⟩ ⟨hq.1, hq.2.1, (hq.2.2.sift fun y hy => Or.inr (N y hy)).mono (by decide) (by decide)⟩⟩
theorem main_1_1 : Claimed_1_1 := comes_1 fun _ _ _ _ _ _ h hF => ⟨h.1, hF⟩
theorem main_1_2 : Claimed_1_2 := comes_1 fun _ _ _ _ _ _ h hF => ⟨h.2.1, hF⟩
end Jvm.Pilot.@@N@@
namespace Jvm.Pilot.@@N@@
open Jvm Jvm.ClassFile Sem Op Lib Jvm.Free Jvm.Stand Jvm.Pilot.@@N@@.Jvm.D
/-! MADE BY PROGRAM (witnessworld.py) out of the Statement's table words and the real class files: 9 classes; the members and pool entries that the words name. The judged class is class 1, her method 1. -/
namespace start1
open Jvm.ClassFile
def u (s : String) : CpInfo := .utf8 (stringToUtf16 s)
/-- a pool by its gaps: so many unusable entries, then the entry; so many at the end -/
def gap : Nat → List CpInfo → List CpInfo
  | 0, r => r
  | n + 1, r => .unusable :: gap n r
def poolList (es : List (Nat × CpInfo)) (last : Nat) : List CpInfo := es.foldr (fun e r => gap e.1 (e.2 :: r)) (gap last [])
def pool (es : List (Nat × CpInfo)) (last : Nat) : Array CpInfo := ⟨poolList es last⟩
def fileOf (pool : Array CpInfo) (this : Nat) (attrs : Array Attribute := #[]) (ms : Array MethodInfo := #[]) (fl : Nat := 33) (sup : Nat := 0) (ifs : Array Nat := #[]) (fds : Array FieldInfo := #[]) : ClassFile where
  minorVersion := 0
  majorVersion := 65
  constantPool := pool
  accessFlags := fl
  thisClass := this
  superClass := sup
  interfaces := ifs
  fields := fds
  methods := ms
  attributes := attrs
def plain (name : String) (sup : Option ClassId) : Class where
  name := name
  kind := .ordinary
  loader := none
  accessFlags := 33
  super := sup
  interfaces := #[]
  cf := none
  fields := #[]
  methods := #[]
  instanceTypes := #[]
  staticTypes := #[]
  resolved := #[]
  callSites := []
  init := .initialized
  statics := none
  mirror := none

def pool0 : Array CpInfo := pool [(5, u "<init>"), (0, u "()V"), (1, .class_ 10), (1, u "java/lang/Object")] 113

def k0c0 : Code := { maxStack := 0, maxLocals := 1, code := object_method_1_code, exceptionTable := #[], attributes := #[] }
def k0m0 : Method := { name := "<init>", desc := "()V", sig := { parameters := [], returnType := none }, accessFlags := 1, code := some k0c0 }
/-- java/lang/Object -/
def k0 : Class := { plain "java/lang/Object" none with
  accessFlags := 33
  interfaces := #[]
  cf := some (fileOf pool0 8 #[] #[{ accessFlags := 1, nameIndex := 5, descriptorIndex := 6, attributes := #[] }] 33 0 #[] #[])
  fields := #[]
  methods := #[k0m0]
  instanceTypes := #[]
  staticTypes := #[]
  resolved := Array.replicate 124 none
  statics := none }

def pool1 : Array CpInfo := pool [(2, .class_ 4), (1, u "java/lang/Object"), (0, u "<init>"), (0, u "()V"), (0, .integer 65535), (0, .class_ 9), (0, u "com/example/earnest_load/earnestload/run/Schedule"), (0, .methodref 8 11), (0, .nameAndType 5 12), (0, u "(DJ)V"), (0, .methodref 8 14), (0, .nameAndType 15 16), (0, u "next"), (0, u "()J"), (0, .long 1000000000), (1, .long 2), (1, .long 3), (1, .class_ 24), (0, u "com/example/earnest_load/earnestload/run/ScheduleNextPinLaw"), (2, u "law"), (0, u "(IJ)Z")] 3

def k1m0 : Method := { name := "<init>", desc := "()V", sig := { parameters := [], returnType := none }, accessFlags := 1, code := none }
def k1c1 : Code := { maxStack := 8, maxLocals := 15, code := code, exceptionTable := #[], attributes := #[] }
def k1m1 : Method := { name := "law", desc := "(IJ)Z", sig := { parameters := [.int, .long], returnType := some .boolean }, accessFlags := 9, code := some k1c1 }
/-- com/example/earnest_load/earnestload/run/ScheduleNextPinLaw -/
def k1 : Class := { plain "com/example/earnest_load/earnestload/run/ScheduleNextPinLaw" (some 0) with
  accessFlags := 49
  interfaces := #[]
  cf := some (fileOf pool1 23 #[] #[{ accessFlags := 1, nameIndex := 5, descriptorIndex := 6, attributes := #[] }, { accessFlags := 9, nameIndex := 27, descriptorIndex := 28, attributes := #[] }] 49 2 #[] #[])
  fields := #[]
  methods := #[k1m0, k1m1]
  instanceTypes := #[]
  staticTypes := #[]
  resolved := Array.replicate 32 none
  statics := none }

def pool2 : Array CpInfo := pool [(1, .methodref 2 3), (0, .class_ 4), (0, .nameAndType 5 6), (0, u "java/lang/Object"), (0, u "<init>"), (0, u "()V"), (0, .fieldref 8 9), (0, .class_ 10), (0, .nameAndType 11 12), (0, u "com/example/earnest_load/earnestload/run/Schedule"), (0, u "rate"), (0, u "D"), (0, .fieldref 8 14), (0, .nameAndType 15 16), (0, u "start"), (0, u "J"), (0, .fieldref 8 18), (0, .nameAndType 19 16), (0, u "count"), (0, .methodref 8 21), (0, .nameAndType 22 23), (0, u "offset"), (0, u "(J)J"), (2, u "next"), (0, u "()J"), (0, .double 4741671816366391296), (1, u "NANOS_PER_S"), (1, u "(DJ)V")] 6

def k2c0 : Code := { maxStack := 3, maxLocals := 5, code := prog_10_method_1_code, exceptionTable := #[], attributes := #[] }
def k2m0 : Method := { name := "<init>", desc := "(DJ)V", sig := { parameters := [.double, .long], returnType := none }, accessFlags := 0, code := some k2c0 }
def k2c1 : Code := { maxStack := 10, maxLocals := 1, code := prog_10_method_2_code, exceptionTable := #[], attributes := #[] }
def k2m1 : Method := { name := "next", desc := "()J", sig := { parameters := [], returnType := some .long }, accessFlags := 0, code := some k2c1 }
def k2c2 : Code := { maxStack := 4, maxLocals := 3, code := prog_10_method_4_code, exceptionTable := #[], attributes := #[] }
def k2m2 : Method := { name := "offset", desc := "(J)J", sig := { parameters := [.long], returnType := some .long }, accessFlags := 2, code := some k2c2 }
/-- com/example/earnest_load/earnestload/run/Schedule -/
def k2 : Class := { plain "com/example/earnest_load/earnestload/run/Schedule" (some 0) with
  accessFlags := 48
  interfaces := #[]
  cf := some (fileOf pool2 8 #[] #[{ accessFlags := 0, nameIndex := 5, descriptorIndex := 32, attributes := #[] }, { accessFlags := 0, nameIndex := 26, descriptorIndex := 27, attributes := #[] }, { accessFlags := 2, nameIndex := 22, descriptorIndex := 23, attributes := #[] }] 48 2 #[] #[{ accessFlags := 26, nameIndex := 30, descriptorIndex := 12, attributes := #[] }, { accessFlags := 18, nameIndex := 11, descriptorIndex := 12, attributes := #[] }, { accessFlags := 2, nameIndex := 15, descriptorIndex := 16, attributes := #[] }, { accessFlags := 2, nameIndex := 19, descriptorIndex := 16, attributes := #[] }])
  fields := #[{ name := "NANOS_PER_S", type := .double, accessFlags := 26, slot := 0, constantValue := 0 }, { name := "rate", type := .double, accessFlags := 18, slot := 0, constantValue := 0 }, { name := "start", type := .long, accessFlags := 2, slot := 1, constantValue := 0 }, { name := "count", type := .long, accessFlags := 2, slot := 2, constantValue := 0 }]
  methods := #[k2m0, k2m1, k2m2]
  instanceTypes := #[.double, .long, .long]
  staticTypes := #[.double]
  resolved := Array.replicate 39 none
  statics := none }

def pool3 : Array CpInfo := pool [(1, u "java/lang/Cloneable"), (0, .class_ 1), (0, u "java/lang/Object"), (0, .class_ 3)] 3

/-- java/lang/Cloneable -/
def k3 : Class := { plain "java/lang/Cloneable" (some 0) with
  accessFlags := 1537
  interfaces := #[]
  cf := some (fileOf pool3 2 #[] #[] 1537 4 #[] #[])
  fields := #[]
  methods := #[]
  instanceTypes := #[]
  staticTypes := #[]
  resolved := Array.replicate 8 none
  statics := none }

def pool4 : Array CpInfo := pool [(1, u "java/io/Serializable"), (0, .class_ 1), (0, u "java/lang/Object"), (0, .class_ 3)] 3

/-- java/io/Serializable -/
def k4 : Class := { plain "java/io/Serializable" (some 0) with
  accessFlags := 1537
  interfaces := #[]
  cf := some (fileOf pool4 2 #[] #[] 1537 4 #[] #[])
  fields := #[]
  methods := #[]
  instanceTypes := #[]
  staticTypes := #[]
  resolved := Array.replicate 8 none
  statics := none }

/-- the primitive byte -/
def k5 : Class := { plain "byte" none with kind := .primitive 'B', accessFlags := 0x411 }
/-- [B -/
def k6 : Class := { plain "[B" (some 0) with kind := .array 5 .byte, interfaces := #[3, 4], accessFlags := 1041 }

/-- the primitive int -/
def k7 : Class := { plain "int" none with kind := .primitive 'I', accessFlags := 0x411 }
/-- [I -/
def k8 : Class := { plain "[I" (some 0) with kind := .array 7 .int, interfaces := #[3, 4], accessFlags := 1041 }

def heap : Heap := #[]
def classes : Array Class := #[k0, k1, k2, k3, k4, k5, k6, k7, k8]
def interned : List (Array UInt16 × Addr) := []
def slotsUsed : Nat := 0
def theMethod : MethodId := ⟨1, 1⟩
def args0 : Array Value := #[.int 5, .long 3]
def aboutOver (below : List Frame) : State where
  vm := { classes := classes, interned := interned.toArray }
  heap := heap
  slotsUsed := slotsUsed
  threads := #[{ frames := .invoking theMethod args0 :: below }]
def below0 : List Frame := [.native { method := ⟨0, 0⟩, args := #[] }]
def about1 : State := aboutOver below0
def p0 : Program := .bare "" "" ""
def e0 : Env := launch0.env 0 0 0
theorem w_frames : about1.frames = Frame.invoking theMethod args0 :: below0 := rfl
set_option maxRecDepth 65536 in
theorem w_args : argsFit about1.vm theMethod args0 = true := by decide +kernel
set_option maxRecDepth 65536 in
theorem w_heap : heapFits about1 = true := by decide +kernel
set_option maxRecDepth 65536 in
theorem w_runnable : about1.curStatus? = some .runnable := by decide +kernel
set_option maxRecDepth 65536 in
theorem w_alone : about1.alone = true := by decide +kernel
set_option maxRecDepth 65536 in
theorem w_named : about1.methodNamed? x = some theMethod := by decide +kernel
set_option maxRecDepth 65536 in
theorem w_hears : about1.hears theMethod below0 = true := by decide +kernel
set_option maxRecDepth 65536 in
theorem w_ripe : about1.ripe theMethod args0 below0 = true := by decide +kernel
theorem w_running : about1.status = .running := rfl
set_option maxRecDepth 65536 in
theorem w_room : about1.hasRoom e0.platform room_1 = true :=
  launch0.hasRoom_least _ room_1 (by decide +kernel) (by decide +kernel) (by decide +kernel) (by decide +kernel) (by decide +kernel) (by decide +kernel)
theorem allAtoms_all (ts : List Jvm.Cond) (a : Array Jvm.Value) (st : Jvm.State) : (allAtoms ts).before a st = ts.all (fun c => c.before a st) := by
  induction ts with
  | nil => rfl
  | cons c t ih =>
    show (Jvm.Cond.and c (allAtoms t)).before a st = _
    rw [Jvm.Cond.before_and, ih, List.all_cons]
def words1 : List Jvm.Cond := Jvm.Cond.code x code maxLocals ret :: tables_1
/-- a 'code' word, met by the world's own term for the bytes: nothing is compared byte by byte -/
theorem code_word {y : MethodName} {bytes : ByteArray} {mx : Nat} {rt : Option FieldType} {a : Array Value} {s : State} {m : MethodId} {meth : Method} {c : Code} (h1 : s.methodNamed? y = some m) (h2 : s.vm.method? m = some meth) (h3 : meth.code = some c) (h4 : c.code = bytes)
    (h5 : (c.maxLocals == mx && c.exceptionTable.isEmpty && decide (c.maxStack ≤ mostOperands) && decide (meth.sig.returnType = rt) && !meth.locks && decide (parseMethodDescriptor y.desc = some meth.sig)) = true) : (Jvm.Cond.code y bytes mx rt).before a s = true := by
  simp only [Bool.and_eq_true, beq_iff_eq, Bool.not_eq_true', decide_eq_true_eq] at h5
  obtain ⟨⟨⟨⟨⟨g1, g2⟩, g3⟩, g4⟩, g5⟩, g6⟩ := h5
  simp [Cond.before, Cond.holds, Cond.value, h1, h2, h3, h4, g1, g2, g3, g4, g5, g6]
def isCode : Jvm.Cond → Bool
  | .code _ _ _ _ => true
  | _ => false
theorem all_split {L : List Jvm.Cond} {P : Jvm.Cond → Bool} (h1 : L.all (fun c => isCode c || P c) = true) (h2 : ∀ c ∈ L.filter isCode, P c = true) : L.all P = true := by
  refine List.all_eq_true.mpr fun c hc => ?_
  have h := List.all_eq_true.mp h1 c hc
  rcases Bool.eq_false_or_eq_true (isCode c) with hi | hi
  · exact h2 c (List.mem_filter.mpr ⟨hc, hi⟩)
  · simpa [hi] using h
set_option maxRecDepth 65536 in
theorem w_c0 : (Jvm.Cond.code x code maxLocals ret).before args0 about1 = true := code_word (m := ⟨1, 1⟩) (meth := k1m1) (c := k1c1) (by decide +kernel) rfl rfl rfl (by decide +kernel)
set_option maxRecDepth 65536 in
theorem w_c1 : (Jvm.Cond.code ({ cls := "com/example/earnest_load/earnestload/run/Schedule", name := "<init>", desc := "(DJ)V" } : Jvm.MethodName) prog_10_method_1_code (5 : Nat) (Option.none : Option Jvm.ClassFile.FieldType)).before args0 about1 = true := code_word (m := ⟨2, 0⟩) (meth := k2m0) (c := k2c0) (by decide +kernel) rfl rfl rfl (by decide +kernel)
set_option maxRecDepth 65536 in
theorem w_c2 : (Jvm.Cond.code ({ cls := "java/lang/Object", name := "<init>", desc := "()V" } : Jvm.MethodName) object_method_1_code (1 : Nat) (Option.none : Option Jvm.ClassFile.FieldType)).before args0 about1 = true := code_word (m := ⟨0, 0⟩) (meth := k0m0) (c := k0c0) (by decide +kernel) rfl rfl rfl (by decide +kernel)
set_option maxRecDepth 65536 in
theorem w_c3 : (Jvm.Cond.code ({ cls := "com/example/earnest_load/earnestload/run/Schedule", name := "next", desc := "()J" } : Jvm.MethodName) prog_10_method_2_code (1 : Nat) (Option.some Jvm.ClassFile.FieldType.long)).before args0 about1 = true := code_word (m := ⟨2, 1⟩) (meth := k2m1) (c := k2c1) (by decide +kernel) rfl rfl rfl (by decide +kernel)
set_option maxRecDepth 65536 in
theorem w_c4 : (Jvm.Cond.code ({ cls := "com/example/earnest_load/earnestload/run/Schedule", name := "offset", desc := "(J)J" } : Jvm.MethodName) prog_10_method_4_code (3 : Nat) (Option.some Jvm.ClassFile.FieldType.long)).before args0 about1 = true := code_word (m := ⟨2, 2⟩) (meth := k2m2) (c := k2c2) (by decide +kernel) rfl rfl rfl (by decide +kernel)
def codes1 : List Jvm.Cond := [Jvm.Cond.code x code maxLocals ret, Jvm.Cond.code ({ cls := "com/example/earnest_load/earnestload/run/Schedule", name := "<init>", desc := "(DJ)V" } : Jvm.MethodName) prog_10_method_1_code (5 : Nat) (Option.none : Option Jvm.ClassFile.FieldType), Jvm.Cond.code ({ cls := "java/lang/Object", name := "<init>", desc := "()V" } : Jvm.MethodName) object_method_1_code (1 : Nat) (Option.none : Option Jvm.ClassFile.FieldType), Jvm.Cond.code ({ cls := "com/example/earnest_load/earnestload/run/Schedule", name := "next", desc := "()J" } : Jvm.MethodName) prog_10_method_2_code (1 : Nat) (Option.some Jvm.ClassFile.FieldType.long), Jvm.Cond.code ({ cls := "com/example/earnest_load/earnestload/run/Schedule", name := "offset", desc := "(J)J" } : Jvm.MethodName) prog_10_method_4_code (3 : Nat) (Option.some Jvm.ClassFile.FieldType.long)]
set_option maxRecDepth 65536 in
theorem codes_eq : words1.filter isCode = codes1 := rfl
theorem w_codes : ∀ c ∈ words1.filter isCode, c.before args0 about1 = true := by
  rw [codes_eq]
  intro c hc
  simp only [codes1, List.mem_cons, List.not_mem_nil, or_false] at hc
  rcases hc with rfl | rfl | rfl | rfl | rfl
  · exact w_c0
  · exact w_c1
  · exact w_c2
  · exact w_c3
  · exact w_c4
set_option maxRecDepth 65536 in
theorem w_t1 : (words1.take 24).all (fun c => isCode c || c.before args0 about1) = true := by decide +kernel
set_option maxRecDepth 65536 in
theorem w_t2 : (words1.drop 24).all (fun c => isCode c || c.before args0 about1) = true := by decide +kernel
theorem w_tables : (allAtoms (Jvm.Cond.code x code maxLocals ret :: tables_1)).before args0 about1 = true := by
  rw [allAtoms_all]
  show words1.all (fun c => c.before args0 about1) = true
  refine all_split ?_ w_codes
  rw [← List.take_append_drop 24 words1, List.all_append, w_t1, w_t2]
  rfl
set_option maxRecDepth 65536 in
theorem w_case : (Jvm.Cond.and given_1 narrow_1).before args0 about1 = true := by decide +kernel
theorem w_applies : (headSpec (Jvm.Cond.code x code maxLocals ret :: tables_1) room_1).applies x e0.platform about1 = true :=
  (Spec.applies_iff w_frames).mpr ⟨w_running, w_runnable, w_alone, w_named, w_hears, w_ripe, w_room, w_tables⟩
theorem atStart : AtStart classFile x code maxLocals ret World_1 tables_1 room_1 Calls_1 rest_1 Pre_1 launch0 p0 e0 about1 theMethod args0 below0 :=
  ⟨lists_1, trivial, launch0.admits_env _ _ _, launch0.least_env, fairChoices_fair.cas, fairChoices_fair.clock, w_frames, w_args, w_heap, w_applies, trivial, trivial, w_case⟩
end start1
theorem witness_1 : WitnessClaimed_1 := ⟨start1.p0, start1.e0, start1.about1, start1.theMethod, start1.args0, start1.below0, start1.atStart⟩
end Jvm.Pilot.@@N@@
