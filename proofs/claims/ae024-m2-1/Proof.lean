import JvmDerived
import JvmDerived.Pilot.@@N@@Statement
import JvmDerived.Pilot.@@N@@Code
set_option linter.unusedVariables false
set_option linter.unusedSimpArgs false
namespace Jvm.RoadKit
open Sem ClassFile Op Lib Jvm.Stand Jvm.Free Jvm.LawKit
section New
variable {p : Program} {l : Launch} {e : Env} {R : Room} {s : State} {m : MethodId} {args : Array Value} {below : List Frame} {meth : Method} {c : Code} {T : State} {locs : List Loc} {cells slots : Nat}
theorem retI (X : Stand p l e R s m args below meth c T locs cells slots) (hx : p.tables.exec = Jvm.exec) {pc : Nat} {Ls : Array Slot} {z : Int32} {rest : List Value} (hret : meth.sig.returnType = some .int) (hd : decode c.code pc = .ok (.ireturn, 1)) {fs : List Frame}
    (hl : ∀ (f : JFrame) (acts : List Action), f.method = m → f.locked = none → f.entered = [] → (doReturn e (T.setTop f) acts (some (.int z))).1 = T.setFrames fs) : Steps p.tables e below (T.setTop (mkF m pc Ls (.int z :: rest))) (T.setFrames fs) := by
  have hm' : T.vm.method? m = some meth := X.method'
  have hn : narrow .int (.int z) = .int z := rfl
  show Steps p.tables e below (T.setTop { method := m, pc := pc, locals := Ls, stack := _ :: rest, locked := none }) _
  jvm_step X.here [X.here.top, hx, hd, hm', hret, hn]
  first | (intro acts; rw [hl _ acts rfl rfl rfl]) | rw [hl _ _ rfl rfl rfl]
  exact Steps.refl _
theorem retD (X : Stand p l e R s m args below meth c T locs cells slots) (hx : p.tables.exec = Jvm.exec) {pc : Nat} {Ls : Array Slot} {z : UInt64} {rest : List Value} (hret : meth.sig.returnType = some .double) (hd : decode c.code pc = .ok (.dreturn, 1)) {fs : List Frame}
    (hl : ∀ (f : JFrame) (acts : List Action), f.method = m → f.locked = none → f.entered = [] → (doReturn e (T.setTop f) acts (some (.double z))).1 = T.setFrames fs) : Steps p.tables e below (T.setTop (mkF m pc Ls (.double z :: rest))) (T.setFrames fs) := by
  have hm' : T.vm.method? m = some meth := X.method'
  show Steps p.tables e below (T.setTop { method := m, pc := pc, locals := Ls, stack := _ :: rest, locked := none }) _
  jvm_step X.here [X.here.top, hx, hd, hm', hret]
  first | (intro acts; rw [hl _ acts rfl rfl rfl]) | rw [hl _ _ rfl rfl rfl]
  exact Steps.refl _
end New
/-- a body that leaves the heap as it was -/
def QP (w : Value) (h0 : Heap) (n0 : Nat) (v : Option Value) (h : Heap) (L : List Loc) : Prop := v = some w ∧ Fr n0 L ∧ h = h0
/-- the law says true, and writes into nothing that stood at the start -/
def QL (n0 : Nat) (v : Option Value) (h : Heap) (L : List Loc) : Prop := v = some (.int 1) ∧ Fr n0 L
end Jvm.RoadKit

/-! OwnFP: rounding, in units of the least double. My own text, pasted into each proof. -/
namespace Jvm.Own
open Jvm.FP.Core Jvm.Free.Fl
/-- a power of two that nothing reckons out -/
def PN (j : Nat) : Nat := 2 ^ j
theorem PN_pos (j : Nat) : 0 < PN j := Nat.two_pow_pos _
theorem PN_posI (j : Nat) : (0 : Int) < (PN j : Int) := Int.ofNat_lt.mpr (PN_pos j)
theorem PN_add (i j : Nat) : PN (i + j) = PN i * PN j := Nat.pow_add ..
theorem PN_addI (i j : Nat) : (PN (i + j) : Int) = (PN i : Int) * (PN j : Int) := by rw [PN_add, Int.natCast_mul]
/-- a double as a whole number of 2^-1074 -/
def z (a : UInt64) : Int := zval b64 (val64 a)
theorem z_fin {a : UInt64} {s : Bool} {c : Nat} {q : Int} (h : val64 a = .fin s c q) : z a = signed s (inUnits c q b64.qmin) := by
  unfold z; rw [h]; rfl
/-- r is the rounding of N / D, in these units -/
def Rnd (N : Int) (D : Nat) (r : UInt64) : Prop := 0 < D ∧ ∃ s, signed s N.natAbs = N ∧ val64 r = roundRatio b64 s N.natAbs D b64.qmin
theorem DFin.fits {a : UInt64} {s : Bool} {c : Nat} {q : Int} (h : val64 a = .fin s c q) : Jvm.FP.Core.fits b64 (.fin s c q) := h ▸ val64_fits a
theorem rnd_dadd {a b : UInt64} (ha : DFin a) (hb : DFin b) : Rnd (z a + z b) 1 (dadd a b) := by
  obtain ⟨s, c, q, h1⟩ := ha
  obtain ⟨t, d, r, h2⟩ := hb
  obtain ⟨sg, n, e, hs, he, hu⟩ := sum_units (DFin.fits h1) (DFin.fits h2)
  have hz : z a + z b = signed sg (inUnits n e b64.qmin) := by unfold z; rw [h1, h2, hu]
  have hn : (z a + z b).natAbs = inUnits n e b64.qmin := by rw [hz, natAbs_signed]
  refine ⟨by decide, sg, by rw [hn, hz], ?_⟩
  rw [val64_dadd, h1, h2, hs, hn]
  show roundRatio b64 sg n 1 e = _
  refine roundRatio_congr (by decide) (by decide) ?_
  rw [show (b64.qmin - e).toNat = 0 by omega]
  simp [inUnits]
theorem z_neg {b : UInt64} : z (Jvm.FP.Core.dneg b) = - z b := by unfold z; rw [val64_dneg, zval_negate]
theorem fin_neg {b : UInt64} (hb : DFin b) : DFin (Jvm.FP.Core.dneg b) := by
  obtain ⟨t, d, r, h2⟩ := hb
  exact ⟨!t, d, r, by rw [val64_dneg, h2]; rfl⟩
theorem z_dneg {b : UInt64} : z (Jvm.FP.dneg b) = - z b := by unfold z; rw [Jvm.FP.val64_dneg, zval_negate]
theorem fin_dneg {b : UInt64} (hb : DFin b) : DFin (Jvm.FP.dneg b) := by
  obtain ⟨t, d, r, h2⟩ := hb
  exact ⟨!t, d, r, by rw [Jvm.FP.val64_dneg, h2]; rfl⟩
theorem rnd_dsub {a b : UInt64} (ha : DFin a) (hb : DFin b) : Rnd (z a - z b) 1 (dsub a b) := by
  have h := rnd_dadd ha (fin_neg hb)
  rw [z_neg] at h
  rw [dsub_eq, Int.sub_eq_add_neg]
  exact h
theorem qm : b64.qmin = -1074 := qmin_b64
theorem rnd_dmul {a b : UInt64} (ha : DFin a) (hb : DFin b) : Rnd (z a * z b) (PN 1074) (dmul a b) := by
  obtain ⟨s, c, q, h1⟩ := ha
  obtain ⟨t, d, r, h2⟩ := hb
  obtain ⟨hp, hq, hu⟩ := product_units (DFin.fits h1) (DFin.fits h2)
  have hz : z a * z b = signed (s != t) (inUnits (c * d) (q + r) (2 * b64.qmin)) := by
    rw [hu, signed_xor]; unfold z; rw [h1, h2]; rfl
  have hn : (z a * z b).natAbs = inUnits (c * d) (q + r) (2 * b64.qmin) := by rw [hz, natAbs_signed]
  refine ⟨PN_pos _, s != t, by rw [hn, hz], ?_⟩
  rw [val64_dmul, h1, h2, hp, hn]
  show roundRatio b64 (s != t) (c * d) 1 (q + r) = _
  refine roundRatio_congr (by decide) (PN_pos _) ?_
  unfold inUnits PN
  have := qm
  generalize hk : (1074 : Nat) = K at *
  calc c * d * 2 ^ K * 2 ^ (q + r - b64.qmin).toNat = c * d * 2 ^ (K + (q + r - b64.qmin).toNat) := by rw [Nat.pow_add]; ac_rfl
    _ = c * d * 2 ^ ((q + r - 2 * b64.qmin).toNat + (b64.qmin - (q + r)).toNat) := by congr 2; omega
    _ = _ := by rw [Nat.pow_add]; ac_rfl
theorem pos_sign {b : UInt64} {t : Bool} {d : Nat} {r : Int} (h2 : val64 b = .fin t d r) (hb : 0 < z b) : t = false ∧ d ≠ 0 ∧ (z b).natAbs = d * 2 ^ (r - b64.qmin).toNat := by
  have h := z_fin h2
  have hn : (z b).natAbs = d * 2 ^ (r - b64.qmin).toNat := by rw [h, natAbs_signed]; rfl
  refine ⟨?_, ?_, hn⟩
  · cases t
    · rfl
    · simp only [signed, if_true] at h; omega
  · rintro rfl
    rw [Nat.zero_mul] at hn; omega
theorem rnd_ddiv {a b : UInt64} (ha : DFin a) (hb : DFin b) (hp : 0 < z b) : Rnd (z a * (PN 1074 : Int)) (z b).natAbs (ddiv a b) := by
  obtain ⟨s, c, q, h1⟩ := ha
  obtain ⟨t, d, r, h2⟩ := hb
  obtain ⟨rfl, hd0, hD⟩ := pos_sign h2 hp
  have hza : z a * (PN 1074 : Int) = signed s (inUnits c q b64.qmin * PN 1074) := by rw [z_fin h1, signed_mul]
  have hn : (z a * (PN 1074 : Int)).natAbs = inUnits c q b64.qmin * PN 1074 := by rw [hza, natAbs_signed]
  refine ⟨by omega, s, by rw [hn, hza], ?_⟩
  rw [val64_ddiv, h1, h2, hn, hD]
  simp only [quotient, if_neg hd0]
  rw [show (s != false) = s by cases s <;> rfl]
  refine roundRatio_congr (by omega) (Nat.mul_pos (by omega) (Nat.two_pow_pos _)) ?_
  have f1 := (DFin.fits h1).2.1
  have f2 := (DFin.fits h2).2.1
  unfold inUnits PN
  have := qm
  generalize hk : (1074 : Nat) = K at *
  calc c * (d * 2 ^ (r - b64.qmin).toNat) * 2 ^ (q - r - b64.qmin).toNat = c * d * 2 ^ ((r - b64.qmin).toNat + (q - r - b64.qmin).toNat) := by rw [Nat.pow_add]; ac_rfl
    _ = c * d * 2 ^ ((q - b64.qmin).toNat + K + (b64.qmin - (q - r)).toNat) := by congr 2; omega
    _ = _ := by rw [Nat.pow_add, Nat.pow_add]; ac_rfl
theorem rnd_l2d (v : Int64) : Rnd (v.toInt * (PN 1074 : Int)) 1 (l2d v) := by
  have hP := PN_posI 1074
  have hn : (v.toInt * (PN 1074 : Int)).natAbs = v.toInt.natAbs * PN 1074 := by rw [Int.natAbs_mul, Int.natAbs_natCast]
  refine ⟨by decide, decide (v.toInt < 0), ?_, ?_⟩
  · rw [hn, signed_mul]
    congr 1
    by_cases h : v.toInt < 0
    · simp only [signed, h, decide_true, if_true]; omega
    · simp only [signed, h, decide_false, Bool.false_eq_true, if_false]; omega
  · rw [val64_l2d, hn]
    show roundRatio b64 (decide (v.toInt < 0)) v.toInt.natAbs 1 0 = _
    refine roundRatio_congr (by decide) (by decide) ?_
    have := qm
    rw [show (0 - b64.qmin).toNat = 1074 by omega, show (b64.qmin - 0).toNat = 0 by omega]
    show v.toInt.natAbs * 1 * PN 1074 = v.toInt.natAbs * PN 1074 * 1 * 2 ^ 0
    rw [Nat.pow_zero, Nat.mul_one, Nat.mul_one, Nat.mul_one]
theorem i2d_l2d' (v : Int32) : i2d v = l2d v.toInt64 := i2d_l2d v
theorem rnd_i2d (v : Int32) : Rnd (v.toInt * (PN 1074 : Int)) 1 (i2d v) := by
  have h := rnd_l2d v.toInt64
  rw [Int32.toInt_toInt64] at h
  rw [i2d_l2d]; exact h
theorem Rnd.ne_nan {N : Int} {D : Nat} {r : UInt64} (h : Rnd N D r) : val64 r ≠ .nan := by
  obtain ⟨-, s, -, h⟩ := h
  rw [h]; exact roundRatio_ne_nan _ _ _ _ _
/-- the quotient alone counts -/
theorem Rnd.scale {N : Int} {D : Nat} {r : UInt64} (k : Nat) (hk : 0 < k) (h : Rnd (N * (k : Int)) (D * k) r) : Rnd N D r := by
  obtain ⟨hD, s, hs, hv⟩ := h
  have hD' : 0 < D := Nat.pos_of_mul_pos_right hD
  have hn : (N * (k : Int)).natAbs = N.natAbs * k := by rw [Int.natAbs_mul, Int.natAbs_natCast]
  refine ⟨hD', s, ?_, ?_⟩
  · rw [hn, signed_mul] at hs
    exact Int.eq_of_mul_eq_mul_right (by omega) hs
  · rw [hv, hn]
    refine roundRatio_congr hD hD' ?_
    simp only [Int.sub_self, Int.toNat_zero, Nat.pow_zero, Nat.mul_one]
    ac_rfl
theorem Rnd.up {N : Int} {D : Nat} {r : UInt64} (k : Nat) (hk : 0 < k) (h : Rnd N D r) : Rnd (N * (k : Int)) (D * k) r := by
  obtain ⟨hD, s, hs, hv⟩ := h
  have hn : (N * (k : Int)).natAbs = N.natAbs * k := by rw [Int.natAbs_mul, Int.natAbs_natCast]
  refine ⟨Nat.mul_pos hD hk, s, ?_, ?_⟩
  · rw [hn, signed_mul, hs]
  · rw [hv, hn]
    refine roundRatio_congr hD (Nat.mul_pos hD hk) ?_
    simp only [Int.sub_self, Int.toNat_zero, Nat.pow_zero, Nat.mul_one]
    ac_rfl
theorem Rnd.z_eq {N : Int} {D : Nat} {r : UInt64} {s : Bool} (h : val64 r = roundRatio b64 s N.natAbs D b64.qmin) : z r = signed s (zmag b64 (val64 r)) := by
  unfold z zval
  rw [show sgn (val64 r) = s by rw [h, sgn_roundRatio]]
theorem DFin.ne {a : UInt64} (h : DFin a) : val64 a ≠ .nan := h.ne_nan
theorem Rnd.le {N : Int} {D : Nat} {r V : UInt64} (h : Rnd N D r) (hV : DFin V) (hle : N ≤ z V * (D : Int)) : z r ≤ z V := by
  obtain ⟨hD, s, hs, hv⟩ := h
  have h1 := zmag_roundRatio_le good_b64 (s := s) (A := N.natAbs) (e := b64.qmin) (e0 := b64.qmin) hD (val64_fits V) hV.ne_nan (Int.le_refl _) (Int.le_refl _)
  have h2 := zmag_roundRatio_ge good_b64 (s := s) (A := N.natAbs) (e := b64.qmin) (e0 := b64.qmin) hD (val64_fits V) (Int.le_refl _) (Int.le_refl _)
  rw [← hv] at h1 h2
  have e1 : inUnits N.natAbs b64.qmin b64.qmin = N.natAbs := by simp [inUnits]
  rw [e1, Int.sub_self, Int.toNat_zero, Nat.pow_zero, Nat.mul_one] at h1 h2
  rw [Rnd.z_eq hv]
  have hzV : z V = signed (sgn (val64 V)) (zmag b64 (val64 V)) := rfl
  rw [hzV, ← signed_mul] at hle
  rw [hzV]
  have hz : zmag b64 (val64 V) * D = 0 → zmag b64 (val64 V) = 0 := by
    intro h
    rcases Nat.mul_eq_zero.mp h with h | h <;> omega
  generalize zmag b64 (val64 V) * D = vP at *
  generalize zmag b64 (val64 V) = v at *
  generalize zmag b64 (val64 r) = x at *
  generalize sgn (val64 V) = t at *
  cases s <;> cases t <;> simp only [signed, if_true, Bool.false_eq_true, if_false] at hle hs ⊢
  · have := h1 (by omega); omega
  · have := h1 (by omega); have := hz (by omega); omega
  · omega
  · have := h2 (by omega); omega
theorem Rnd.ge {N : Int} {D : Nat} {r V : UInt64} (h : Rnd N D r) (hV : DFin V) (hle : z V * (D : Int) ≤ N) : z V ≤ z r := by
  obtain ⟨hD, s, hs, hv⟩ := h
  have h1 := zmag_roundRatio_le good_b64 (s := s) (A := N.natAbs) (e := b64.qmin) (e0 := b64.qmin) hD (val64_fits V) hV.ne_nan (Int.le_refl _) (Int.le_refl _)
  have h2 := zmag_roundRatio_ge good_b64 (s := s) (A := N.natAbs) (e := b64.qmin) (e0 := b64.qmin) hD (val64_fits V) (Int.le_refl _) (Int.le_refl _)
  rw [← hv] at h1 h2
  have e1 : inUnits N.natAbs b64.qmin b64.qmin = N.natAbs := by simp [inUnits]
  rw [e1, Int.sub_self, Int.toNat_zero, Nat.pow_zero, Nat.mul_one] at h1 h2
  rw [Rnd.z_eq hv]
  have hzV : z V = signed (sgn (val64 V)) (zmag b64 (val64 V)) := rfl
  rw [hzV, ← signed_mul] at hle
  rw [hzV]
  have hz : zmag b64 (val64 V) * D = 0 → zmag b64 (val64 V) = 0 := by
    intro h
    rcases Nat.mul_eq_zero.mp h with h | h <;> omega
  generalize zmag b64 (val64 V) * D = vP at *
  generalize zmag b64 (val64 V) = v at *
  generalize zmag b64 (val64 r) = x at *
  generalize sgn (val64 V) = t at *
  cases s <;> cases t <;> simp only [signed, if_true, Bool.false_eq_true, if_false] at hle hs ⊢
  · have := h2 (by omega); omega
  · omega
  · have := h1 (by omega); have := hz (by omega); omega
  · have := h1 (by omega); omega
/-- a double between two finite ones is finite -/
theorem fin_between {r L H : UInt64} (hn : val64 r ≠ .nan) (hL : DFin L) (hH : DFin H) (h1 : z L ≤ z r) (h2 : z r ≤ z H) : DFin r := by
  obtain ⟨s, c, q, a1⟩ := hL
  obtain ⟨t, d, k, b1⟩ := hH
  have l1 := zmag_lt_top good_b64 (DFin.fits a1)
  have l2 := zmag_lt_top good_b64 (DFin.fits b1)
  rw [z_fin a1] at h1
  rw [z_fin b1] at h2
  cases hr : val64 r with
  | nan => exact absurd hr hn
  | fin s' c' q' => exact ⟨s', c', q', hr⟩
  | inf s' =>
    exfalso
    have hzr : z r = signed s' (b64.tails * 2 ^ (b64.exps - 2)) := by unfold z; rw [hr]; rfl
    rw [hzr] at h1 h2
    generalize b64.tails * 2 ^ (b64.exps - 2) = top at *
    generalize inUnits c q b64.qmin = u at *
    generalize inUnits d k b64.qmin = w at *
    cases s' <;> cases s <;> cases t <;> simp only [signed, if_true, Bool.false_eq_true, if_false] at h1 h2 <;> omega
/-- numbers of at most 53 digits are doubles -/
theorem rep (m : Int) (j : Nat) (hm : m.natAbs ≤ 2 ^ 53) (hj : j ≤ 2000) : ∃ V : UInt64, DFin V ∧ z V = m * (PN j : Int) := by
  have key : ∀ (m : Int) (j : Nat), m.natAbs < 2 ^ 53 → j ≤ 2001 → ∃ V : UInt64, DFin V ∧ z V = m * (PN j : Int) := by
    intro m j hm hj
    have hq : b64.qmin = -1074 := qm
    have hx : b64.qmax = 971 := by decide
    obtain ⟨c', q', h1, h2⟩ := round_exact good_b64 (decide (m < 0)) (c := m.natAbs) (q := (j : Int) - 1074) hm (by omega) (by omega)
    have hf := round_fits good_b64 (.fin (decide (m < 0)) m.natAbs ((j : Int) - 1074))
    refine ⟨of64 (round b64 (.fin (decide (m < 0)) m.natAbs ((j : Int) - 1074))), ⟨_, _, _, by rw [val64_of64 hf, h1]⟩, ?_⟩
    rw [z_fin (by rw [val64_of64 hf, h1]), h2]
    unfold inUnits
    rw [show ((j : Int) - 1074 - b64.qmin).toNat = j by omega, signed_mul]
    show signed (decide (m < 0)) m.natAbs * (PN j : Int) = m * (PN j : Int)
    congr 1
    by_cases h : m < 0
    · simp only [signed, h, decide_true, if_true]; omega
    · simp only [signed, h, decide_false, Bool.false_eq_true, if_false]; omega
  by_cases h : m.natAbs < 2 ^ 53
  · exact key m j h (by omega)
  · obtain ⟨V, hV, hz⟩ := key (m / 2) (j + 1) (by omega) (by omega)
    refine ⟨V, hV, ?_⟩
    have h2 : m = 2 * (m / 2) := by omega
    rw [hz, PN_addI, show (PN 1 : Int) = 2 from rfl]
    conv => rhs; rw [h2]
    generalize (PN j : Int) = P
    rw [Int.mul_comm P, ← Int.mul_assoc]
    congr 1
    exact Int.mul_comm _ _
theorem Rnd.fin_of {N : Int} {D : Nat} {r L H : UInt64} (h : Rnd N D r) (hL : DFin L) (hH : DFin H) (h1 : z L * (D : Int) ≤ N) (h2 : N ≤ z H * (D : Int)) : DFin r :=
  fin_between h.ne_nan hL hH (h.ge hL h1) (h.le hH h2)
/-- an exact quotient isn't rounded -/
theorem Rnd.exact {N : Int} {D : Nat} {r : UInt64} (h : Rnd N D r) (m : Int) (j : Nat) (hm : m.natAbs ≤ 2 ^ 53) (hj : j ≤ 2000) (hN : N = m * (PN j : Int) * (D : Int)) : DFin r ∧ z r = m * (PN j : Int) := by
  obtain ⟨V, hV, hz⟩ := rep m j hm hj
  have e : N = z V * (D : Int) := by rw [hz]; exact hN
  exact ⟨h.fin_of hV hV (by omega) (by omega), by have := h.le hV (by omega); have := h.ge hV (by omega); omega⟩
/-- off by less than g = 2^j, where the quotient is at most 2^53 g -/
theorem Rnd.near {N : Int} {D : Nat} {r : UInt64} (h : Rnd N D r) (j : Nat) (hj : j ≤ 2000) (h1 : -(2 ^ 53 * (PN j : Int) * (D : Int)) ≤ N) (h2 : N ≤ (2 ^ 53 - 1) * (PN j : Int) * (D : Int)) :
    DFin r ∧ N - (PN j : Int) * (D : Int) < z r * (D : Int) ∧ z r * (D : Int) < N + (PN j : Int) * (D : Int) := by
  have hD : 0 < D := h.1
  have hg : (0 : Int) < (PN j : Int) * (D : Int) := Int.mul_pos (PN_posI j) (by omega)
  have e1 := Int.mul_ediv_add_emod N ((PN j : Int) * (D : Int))
  have e2 := Int.emod_nonneg N (b := (PN j : Int) * (D : Int)) (by omega)
  have e3 := Int.emod_lt_of_pos N hg
  rw [Int.mul_assoc] at h1 h2
  have l1 : -(2 ^ 53) ≤ N / ((PN j : Int) * (D : Int)) := by
    refine (Int.le_ediv_iff_mul_le hg).mpr ?_
    rw [Int.neg_mul]; exact h1
  have l2 : N / ((PN j : Int) * (D : Int)) ≤ 2 ^ 53 - 1 := by
    refine Int.le_trans (Int.ediv_le_ediv hg h2) ?_
    rw [Int.mul_ediv_cancel _ (by omega)]; exact Int.le_refl _
  obtain ⟨L, hL, zL⟩ := rep (N / ((PN j : Int) * (D : Int))) j (by omega) hj
  obtain ⟨H, hH, zH⟩ := rep (N / ((PN j : Int) * (D : Int)) + 1) j (by omega) hj
  generalize N / ((PN j : Int) * (D : Int)) = m at *
  generalize N % ((PN j : Int) * (D : Int)) = t at *
  have c1 : z L * (D : Int) ≤ N := by
    rw [zL, Int.mul_assoc, Int.mul_comm m]; omega
  have c2 : N ≤ z H * (D : Int) := by
    rw [zH, Int.mul_assoc, Int.add_mul, Int.one_mul, Int.mul_comm m]; omega
  have c3 := Int.mul_le_mul_of_nonneg_right (h.ge hL c1) (c := (D : Int)) (by omega)
  have c4 := Int.mul_le_mul_of_nonneg_right (h.le hH c2) (c := (D : Int)) (by omega)
  refine ⟨h.fin_of hL hH c1 c2, ?_, ?_⟩
  · rw [zL, Int.mul_assoc, Int.mul_comm m] at c3; omega
  · rw [zH, Int.mul_assoc, Int.add_mul, Int.one_mul, Int.mul_comm m] at c4
    by_cases t0 : t = 0
    · have c5 := Int.mul_le_mul_of_nonneg_right (h.le hL (by rw [zL, Int.mul_assoc, Int.mul_comm m]; omega)) (c := (D : Int)) (by omega)
      rw [zL, Int.mul_assoc, Int.mul_comm m] at c5; omega
    · omega
theorem z_inj_zero {a : UInt64} (h : DFin a) : z a = 0 ↔ DZero a := by
  obtain ⟨s, c, q, h1⟩ := h
  rw [z_fin h1, signed_eq_zero]
  constructor
  · intro h
    have : c = 0 := by
      rcases Nat.mul_eq_zero.mp (show c * _ = 0 from h) with h | h
      · exact h
      · have := Nat.two_pow_pos (q - b64.qmin).toNat; omega
    exact ⟨s, q, this ▸ h1⟩
  · rintro ⟨s', q', h2⟩
    rw [h1] at h2
    cases h2
    exact Nat.zero_mul _
/-- nothing is nearer -/
theorem Rnd.nearest {N : Int} {D : Nat} {r V : UInt64} (h : Rnd N D r) (f : DFin r) (hV : DFin V) : (N - z r * (D : Int)).natAbs ≤ (N - z V * (D : Int)).natAbs := by
  obtain ⟨hD, s, hs, hv⟩ := h
  obtain ⟨s1, c, q, h1⟩ := f
  obtain ⟨t, c', q', h2⟩ := hV
  have f2 := DFin.fits h2
  rw [h1] at hv
  have hsg : s1 = s := by
    have := sgn_roundRatio b64 s N.natAbs D b64.qmin
    rw [← hv] at this; exact this
  subst hsg
  have d1 := roundRatio_nearest good_b64 hD hv.symm f2.1 f2.2.1 (Int.le_refl b64.qmin) (Int.le_refl b64.qmin)
  have d0 := roundRatio_nearest good_b64 (c' := 0) (q' := b64.qmin) hD hv.symm (Nat.two_pow_pos _) (Int.le_refl _) (Int.le_refl b64.qmin) (Int.le_refl b64.qmin)
  unfold distance at d1 d0
  have e1 : inUnits N.natAbs b64.qmin b64.qmin = N.natAbs := by simp [inUnits]
  have e0 : inUnits 0 b64.qmin b64.qmin = 0 := by simp [inUnits]
  rw [e1] at d1 d0
  rw [e0] at d0
  rw [z_fin h1, z_fin h2]
  generalize inUnits c q b64.qmin = u at *
  generalize inUnits c' q' b64.qmin = w at *
  generalize N.natAbs = A at *
  subst hs
  rw [← signed_mul, ← signed_mul]
  rw [← Int.natCast_mul] at d1 d0
  rw [← Int.natCast_mul] at d1 d0
  generalize u * D = X at *
  generalize w * D = Y at *
  cases s1 <;> cases t <;> simp only [signed, if_true, Bool.false_eq_true, if_false] <;> omega
theorem Rnd.same' {X : Int} {P : Nat} {r r' : UInt64} (h : Rnd X P r) (h' : Rnd X P r') : z r = z r' := by
  obtain ⟨hD, s, hs, hv⟩ := h
  obtain ⟨-, s', hs', hv'⟩ := h'
  by_cases e : s = s'
  · subst e
    unfold z; rw [hv, hv']
  · have h0 : X.natAbs = 0 := by
      clear hv hv'
      generalize X.natAbs = A at *
      cases s <;> cases s' <;> simp only [signed, if_true, Bool.false_eq_true, if_false] at hs hs' <;> first | omega | exact absurd rfl e
    have k : ∀ (s : Bool) (r : UInt64), val64 r = roundRatio b64 s X.natAbs P b64.qmin → z r = 0 := by
      intro s r hr
      rw [h0] at hr
      unfold roundRatio at hr
      rw [if_pos rfl] at hr
      rw [z_fin hr, signed_eq_zero]
      exact Nat.zero_mul _
    rw [k s r hv, k s' r' hv']
theorem Rnd.same {N N' : Int} {D D' : Nat} {r r' : UInt64} (h : Rnd N D r) (h' : Rnd N' D' r') (e : N * (D' : Int) = N' * (D : Int)) : z r = z r' := by
  have a := h.up D' h'.1
  have b := h'.up D h.1
  rw [← e, Nat.mul_comm] at b
  exact Rnd.same' a b
/-- rounding keeps the order -/
theorem Rnd.mono {N N' : Int} {D D' : Nat} {r r' : UInt64} (h : Rnd N D r) (h' : Rnd N' D' r') (f : DFin r) (f' : DFin r') (hle : N * (D' : Int) ≤ N' * (D : Int)) : z r ≤ z r' := by
  refine Int.le_of_not_gt fun hlt => ?_
  have hD := h.1
  have hD' := h'.1
  have n1 := h.nearest f f'
  have n2 := h'.nearest f' f
  have a1 : z r' * (D : Int) < N := Int.lt_of_not_ge fun q => by have := h.le f' q; omega
  have a2 : N' < z r * (D' : Int) := Int.lt_of_not_ge fun q => by have := h'.ge f q; omega
  have b1 : N < z r * (D : Int) := by
    have c1 := Int.mul_lt_mul_of_pos_right a2 (c := (D : Int)) (by omega)
    have c2 : N * (D' : Int) < z r * (D : Int) * (D' : Int) := by rw [Int.mul_right_comm]; omega
    exact Int.lt_of_mul_lt_mul_right c2 (by omega)
  have b2 : z r' * (D' : Int) < N' := by
    have c1 := Int.mul_lt_mul_of_pos_right a1 (c := (D' : Int)) (by omega)
    have c2 : z r' * (D' : Int) * (D : Int) < N' * (D : Int) := by rw [Int.mul_right_comm]; omega
    exact Int.lt_of_mul_lt_mul_right c2 (by omega)
  have m1 : z r * (D : Int) + z r' * (D : Int) ≤ 2 * N := by omega
  have m2 : 2 * N' ≤ z r * (D' : Int) + z r' * (D' : Int) := by omega
  have k1 := Int.mul_le_mul_of_nonneg_right m1 (c := (D' : Int)) (by omega)
  have k2 := Int.mul_le_mul_of_nonneg_right m2 (c := (D : Int)) (by omega)
  rw [Int.add_mul, Int.mul_assoc] at k1
  rw [Int.add_mul, Int.mul_assoc] at k2
  rw [Int.mul_right_comm (z r), Int.mul_right_comm (z r')] at k2
  rw [← Int.mul_assoc] at k1 k2
  have e : N * (D' : Int) = N' * (D : Int) := by
    rw [Int.mul_assoc 2] at k1
    have k2' : 2 * (N' * (D : Int)) ≤ z r * (D : Int) * (D' : Int) + z r' * (D : Int) * (D' : Int) := by
      rw [← Int.mul_assoc]; omega
    have k1' : z r * (D : Int) * (D' : Int) + z r' * (D : Int) * (D' : Int) ≤ 2 * (N * (D' : Int)) := by
      omega
    omega
  have := h.same h' e
  omega
/-! comparisons -/
theorem nn {a : UInt64} (h : DFin a) : NoNaN64 a := (fin64_core.mpr h).noNaN
theorem cmp_z {a b : UInt64} (ha : DFin a) (hb : DFin b) : Jvm.FP.dcmp a b = some (compare (z a) (z b)) := dcmp_zval ha.ne_nan hb.ne_nan
theorem cmp_lt {a b : UInt64} (ha : DFin a) (hb : DFin b) (h : z a < z b) (o : Jvm.ClassFile.CmpOp) : Jvm.Op.cmpValue (Jvm.FP.dcmp a b) o = -1 := by
  rw [cmp_z ha hb, (compare_lt_iff _ _).mpr h]; rfl
theorem cmp_eq {a b : UInt64} (ha : DFin a) (hb : DFin b) (h : z a = z b) (o : Jvm.ClassFile.CmpOp) : Jvm.Op.cmpValue (Jvm.FP.dcmp a b) o = 0 := by
  rw [cmp_z ha hb, (compare_eq_iff _ _).mpr h]; rfl
theorem cmp_gt {a b : UInt64} (ha : DFin a) (hb : DFin b) (h : z b < z a) (o : Jvm.ClassFile.CmpOp) : Jvm.Op.cmpValue (Jvm.FP.dcmp a b) o = 1 := by
  rw [cmp_z ha hb, (compare_gt_iff _ _).mpr h]; rfl
/-! whole numbers -/
theorem z_i2d (v : Int32) : DFin (i2d v) ∧ z (i2d v) = v.toInt * (PN 1074 : Int) := by
  have h1 := Int32.toInt_lt v
  have h2 := Int32.le_toInt v
  exact (rnd_i2d v).exact v.toInt 1074 (by omega) (by omega) (by simp)
theorem z_l2d {v : Int64} (h : v.toInt.natAbs ≤ 2 ^ 53) : DFin (l2d v) ∧ z (l2d v) = v.toInt * (PN 1074 : Int) :=
  (rnd_l2d v).exact v.toInt 1074 h (by omega) (by simp)
theorem fin_zero : DFin (0 : UInt64) := (fin_bits 0).mpr (by decide)
theorem z_zero : z (0 : UInt64) = 0 := by decide +kernel
theorem fin_one : DFin (4607182418800017408 : UInt64) := (fin_bits _).mpr (by decide)
theorem z_one : z (4607182418800017408 : UInt64) = (PN 1074 : Int) := by decide +kernel
end Jvm.Own

/-! OwnRel: what a branch asks, in whole numbers. -/
namespace Jvm.Own
open Jvm.ClassFile Jvm.Op
def rel : Jvm.ClassFile.Cond → Int → Int → Bool
  | .eq, a, b => decide (a = b)
  | .ne, a, b => decide (¬ a = b)
  | .lt, a, b => decide (a < b)
  | .ge, a, b => decide (b ≤ a)
  | .gt, a, b => decide (b < a)
  | .le, a, b => decide (a ≤ b)
theorem holdsII (cd : Jvm.ClassFile.Cond) (x y : Int32) : if_icmp.holds cd x y = rel cd x.toInt y.toInt := by
  have e : (x = y) ↔ (x.toInt = y.toInt) := Int32.toInt_inj.symm
  cases cd
  · show (x == y) = decide (x.toInt = y.toInt)
    rw [Bool.eq_iff_iff, beq_iff_eq, decide_eq_true_iff]; exact e
  · show (x != y) = decide (¬ x.toInt = y.toInt)
    rw [Bool.eq_iff_iff, bne_iff_ne, decide_eq_true_iff]; exact not_congr e
  all_goals
    simp only [if_icmp.holds, rel, GE.ge, GT.gt]
    rw [Bool.eq_iff_iff, decide_eq_true_iff, decide_eq_true_iff]
    first | exact Int32.lt_iff_toInt_lt | exact Int32.le_iff_toInt_le
theorem holdsI (cd : Jvm.ClassFile.Cond) (x : Int32) : ifCond.holds cd x = rel cd x.toInt 0 := by
  rw [Jvm.RoadKit.if0, holdsII]; rfl
theorem holdsL (cd : Jvm.ClassFile.Cond) (x y : Int64) : ifCond.holds cd (Jvm.RoadKit.lcmpW x y) = rel cd x.toInt y.toInt := by
  have h := Jvm.RoadKit.c_lcmp x y
  rw [holdsI]
  rcases Int.lt_trichotomy x.toInt y.toInt with q | q | q
  · rw [h.1 q]; cases cd <;> simp [rel] <;> omega
  · rw [h.2.1 q]; cases cd <;> simp [rel] <;> omega
  · rw [h.2.2 q]; cases cd <;> simp [rel] <;> omega
theorem holdsD {a b : UInt64} (ha : Jvm.FP.Core.DFin a) (hb : Jvm.FP.Core.DFin b) (cd : Jvm.ClassFile.Cond) (o : CmpOp) : ifCond.holds cd (Jvm.Op.cmpValue (Jvm.FP.dcmp a b) o) = rel cd (z a) (z b) := by
  rw [holdsI]
  rcases Int.lt_trichotomy (z a) (z b) with q | q | q
  · rw [cmp_lt ha hb q]; cases cd <;> simp [rel] <;> omega
  · rw [cmp_eq ha hb q]; cases cd <;> simp [rel] <;> omega
  · rw [cmp_gt ha hb q]; cases cd <;> simp [rel] <;> omega
theorem dT {p : Prop} [Decidable p] (h : p) : decide p = true := decide_eq_true h
theorem dF {p : Prop} [Decidable p] (h : ¬ p) : decide p = false := decide_eq_false h
theorem dup2X1 {tb : Tables} [Ours tb] {e : Env} {below : List Frame} {T target : State} {m : MethodId} {c : Code} {g : JFrame} (h : At T m c below) (hx : tb.exec = Jvm.exec) (hg : g.method = m) {x : Int64} {y : Value} {rest : List Value} (hd : decode c.code g.pc = .ok (.dup2_x1, 1)) (hs : g.stack = .long x :: y :: rest) (hc : y.category = 1)
    (hr : Steps tb e below (T.setTop { g with pc := g.pc + 1, stack := .long x :: y :: .long x :: rest }) target) : Steps tb e below (T.setTop g) target := by
  subst hg
  jvm_step h [h.top, hx, hd, hs, hc]
  exact hr
theorem irem_mod (x y : Int32) : x - (x / y) * y = x % y := by
  apply Int32.toInt_inj.mp
  have h1 := Int32.le_toInt (x % y)
  have h2 := Int32.toInt_lt (x % y)
  rw [Int32.toInt_sub, Int32.toInt_mul, Int32.toInt_div, Int.bmod_mul_bmod, Int.sub_bmod_bmod, Int.mul_comm (x.toInt.tdiv y.toInt), ← Int.tmod_def, ← Int32.toInt_mod]
  exact Int.bmod_eq_of_le_mul_two (by omega) (by omega)
end Jvm.Own

/-! OwnWhole: doubles that are whole numbers. -/
namespace Jvm.Own
open Jvm.FP.Core Jvm.Free.Fl
theorem DI.fin {i : Int} {a : UInt64} (h : DInt i a) : DFin a := by
  unfold DInt at h
  cases hv : val64 a with
  | nan => rw [hv] at h; exact h.elim
  | inf s => rw [hv] at h; exact h.elim
  | fin s c q => exact ⟨s, c, q, hv⟩
theorem DI.nn {i : Int} {a : UInt64} (h : DInt i a) : NoNaN64 a := Jvm.Own.nn (DI.fin h)
theorem DI.zero : DInt 0 (0 : UInt64) := by
  have h := l2d_int (a := 0) (by decide)
  have e : l2d 0 = 0 := by decide +kernel
  rw [e] at h; exact h
theorem holdsW {i j : Int} {a b : UInt64} (ha : DInt i a) (hb : DInt j b) (cd : Jvm.ClassFile.Cond) (o : Jvm.ClassFile.CmpOp) : Jvm.Op.ifCond.holds cd (Jvm.Op.cmpValue (Jvm.FP.dcmp a b) o) = rel cd i j := by
  have h : Jvm.FP.dcmp a b = some (compare i j) := dcmp_int ha hb
  rw [h, holdsI]
  rcases Int.lt_trichotomy i j with q | q | q
  · rw [(compare_lt_iff _ _).mpr q]; cases cd <;> simp [Jvm.Op.cmpValue, rel] <;> omega
  · rw [(compare_eq_iff _ _).mpr q]; cases cd <;> simp [Jvm.Op.cmpValue, rel] <;> omega
  · rw [(compare_gt_iff _ _).mpr q]; cases cd <;> simp [Jvm.Op.cmpValue, rel] <;> omega
end Jvm.Own
namespace Jvm.Own
open Jvm.FP.Core Jvm.Free.Fl
theorem DI.z {i : Int} {a : UInt64} (h : DInt i a) : z a = i * (PN 1074 : Int) := by
  have q := whole_zval good_b64 (val64_fits a) h
  have e : (-b64.qmin).toNat = 1074 := by rw [qm]; rfl
  rw [e] at q
  exact q
/-- the quotient of two whole doubles, the divisor above nought -/
theorem DI.div {i j : Int} {a b : UInt64} (ha : DInt i a) (hb : DInt j b) (hj : 0 < j) (hi : i.natAbs ≤ 2 ^ 53) : Rnd (i * (PN 1074 : Int)) j.natAbs (ddiv a b) ∧ DFin (ddiv a b) := by
  have hP := PN_posI 1074
  have zb := DI.z hb
  have hr := rnd_ddiv (DI.fin ha) (DI.fin hb) (by rw [zb]; exact Int.mul_pos hj hP)
  have hD : (Jvm.Own.z b).natAbs = j.natAbs * PN 1074 := by rw [zb, Int.natAbs_mul, Int.natAbs_natCast]
  rw [hD, DI.z ha] at hr
  have h := hr.scale (PN 1074) (PN_pos _)
  refine ⟨h, ?_⟩
  obtain ⟨L, fL, zL⟩ := rep (-(i.natAbs : Int)) 1074 (by omega) (by decide)
  obtain ⟨H, fH, zH⟩ := rep (i.natAbs : Int) 1074 (by omega) (by decide)
  have e : ((j.natAbs : Nat) : Int) = j := by omega
  refine h.fin_of fL fH ?_ ?_
  · rw [zL, e, Int.mul_right_comm]
    refine Int.mul_le_mul_of_nonneg_right ?_ (by omega)
    have : (i.natAbs : Int) * 1 ≤ (i.natAbs : Int) * j := Int.mul_le_mul_of_nonneg_left (by omega) (by omega)
    rw [Int.neg_mul]; omega
  · rw [zH, e, Int.mul_right_comm]
    refine Int.mul_le_mul_of_nonneg_right ?_ (by omega)
    have : (i.natAbs : Int) * 1 ≤ (i.natAbs : Int) * j := Int.mul_le_mul_of_nonneg_left (by omega) (by omega)
    omega
end Jvm.Own

/-! OwnLong: longs that don't wrap. -/
namespace Jvm.Own
open Jvm.RoadKit
theorem pb {a b : Int} {A B : Nat} (h1 : a.natAbs ≤ A) (h2 : b.natAbs ≤ B) : (a * b).natAbs ≤ A * B := by
  rw [Int.natAbs_mul]; exact Nat.mul_le_mul h1 h2
theorem lm {a b : Int64} {i j : Int} (A B : Nat) (h1 : a.toInt = i) (h2 : b.toInt = j) (k1 : i.natAbs ≤ A) (k2 : j.natAbs ≤ B) (h : A * B < 9223372036854775808) : (a * b).toInt = i * j := by
  subst h1 h2
  have h3 := pb k1 k2
  have h4 := c_lmul a b
  have h5 := rng64 (a * b)
  generalize a.toInt * b.toInt = w at *
  omega
theorem la {a b : Int64} {i j : Int} (h1 : a.toInt = i) (h2 : b.toInt = j) (h : (i + j).natAbs < 9223372036854775808) : (a + b).toInt = i + j := by
  subst h1 h2
  have h4 := c_ladd a b
  have h5 := rng64 (a + b)
  omega
theorem ls {a b : Int64} {i j : Int} (h1 : a.toInt = i) (h2 : b.toInt = j) (h : (i - j).natAbs < 9223372036854775808) : (a - b).toInt = i - j := by
  subst h1 h2
  have h4 := c_lsub a b
  have h5 := rng64 (a - b)
  omega
end Jvm.Own

/-! OwnTwo: whole numbers of more than 53 digits, rounded; the sum's rounding error. -/
namespace Jvm.Own
open Jvm.FP.Core Jvm.Free.Fl
theorem rep' (m : Int) (j : Nat) (hm : m.natAbs < 2 ^ 53) (hj : j ≤ 2045) : ∃ V : UInt64, DFin V ∧ z V = m * (PN j : Int) := by
  have hq : b64.qmin = -1074 := qm
  have hx : b64.qmax = 971 := by decide
  obtain ⟨c', q', h1, h2⟩ := round_exact good_b64 (decide (m < 0)) (c := m.natAbs) (q := (j : Int) - 1074) hm (by omega) (by omega)
  have hf := round_fits good_b64 (.fin (decide (m < 0)) m.natAbs ((j : Int) - 1074))
  refine ⟨of64 (round b64 (.fin (decide (m < 0)) m.natAbs ((j : Int) - 1074))), ⟨_, _, _, by rw [val64_of64 hf, h1]⟩, ?_⟩
  rw [z_fin (by rw [val64_of64 hf, h1]), h2]
  unfold inUnits
  rw [show ((j : Int) - 1074 - b64.qmin).toNat = j by omega, signed_mul]
  show signed (decide (m < 0)) m.natAbs * (PN j : Int) = m * (PN j : Int)
  congr 1
  by_cases h : m < 0
  · simp only [signed, h, decide_true, if_true]; omega
  · simp only [signed, h, decide_false, Bool.false_eq_true, if_false]; omega
theorem Rnd.exactV {N : Int} {D : Nat} {r V : UInt64} (h : Rnd N D r) (hV : DFin V) (e : N = z V * (D : Int)) : DFin r ∧ z r = z V :=
  ⟨h.fin_of hV hV (by omega) (by omega), by have := h.le hV (by omega); have := h.ge hV (by omega); omega⟩
theorem leading_one {A : Nat} (hA : 0 < A) : leading A 1 = (A.log2 : Int) := by
  have h := Nat.log2_self_le (n := A) (by omega)
  have h1 : Nat.log2 1 = 0 := by decide
  unfold leading
  rw [h1]
  have e1 : ((A.log2 : Int) - ((0 : Nat) : Int)).toNat = A.log2 := by omega
  have e2 : (-((A.log2 : Int) - ((0 : Nat) : Int))).toNat = 0 := by omega
  simp only [e1, e2]
  rw [if_pos (by omega)]
  omega
/-- one whole number stands for the rounding of N at every scale -/
def RI (N n : Int) : Prop := ∀ (i : Nat) (r : UInt64), 52 ≤ i → i ≤ 1900 → Rnd (N * (PN i : Int)) 1 r → DFin r ∧ z r = n * (PN i : Int)
theorem RI.ex0 (N : Int) (hN : N.natAbs < 2 ^ 64) : ∃ n, RI N n := by
  by_cases h0 : N.natAbs < 2 ^ 53
  · exact ⟨N, fun i r hi hi2 h => h.exact N i (by omega) (by omega) (by simp)⟩
  · obtain ⟨A, hA⟩ : ∃ A, N.natAbs = A := ⟨_, rfl⟩
    rw [hA] at hN h0
    have l1 := Nat.log2_self_le (n := A) (by omega)
    have l2 := Nat.lt_log2_self (n := A)
    have l3 : 53 ≤ A.log2 := Nat.le_log2 (by omega) |>.mpr (by omega)
    have l4 : A.log2 < 64 := (Nat.log2_lt (by omega)).mpr hN
    obtain ⟨L, hL⟩ : ∃ L, A.log2 = L := ⟨_, rfl⟩
    rw [hL] at l1 l2 l3 l4
    have hB : 0 < 2 ^ (L - 52) := Nat.two_pow_pos _
    have hc : nearest A (2 ^ (L - 52)) ≤ 2 ^ 53 := by
      refine nearest_le hB ?_
      rw [← Nat.pow_add, show 53 + (L - 52) = L + 1 by omega]
      omega
    obtain ⟨c, hcc⟩ : ∃ c, nearest A (2 ^ (L - 52)) = c := ⟨_, rfl⟩
    rw [hcc] at hc
    refine ⟨signed (decide (N < 0)) (c * 2 ^ (L - 52)), ?_⟩
    intro i r hi hi2 h
    obtain ⟨-, s, hs, hv⟩ := h
    have hp := PN_pos i
    have hn : (N * (PN i : Int)).natAbs = A * PN i := by rw [Int.natAbs_mul, Int.natAbs_natCast, hA]
    have hAp : 0 < A * PN i := Nat.mul_pos (by omega) hp
    have hsg : s = decide (N < 0) := by
      rw [hn] at hs
      by_cases q : N < 0
      · have : N * (PN i : Int) < 0 := Int.mul_neg_of_neg_of_pos q (by omega)
        cases s
        · simp only [signed, Bool.false_eq_true, if_false] at hs; omega
        · simp [q]
      · have : 0 ≤ N * (PN i : Int) := Int.mul_nonneg (by omega) (by omega)
        cases s
        · simp [q]
        · simp only [signed, if_true] at hs; omega
    subst hsg
    have hqm := qm
    have e1 : roundRatio b64 (decide (N < 0)) (A * PN i) 1 b64.qmin = roundRatio b64 (decide (N < 0)) A 1 ((i : Int) - 1074) := by
      refine roundRatio_congr (by decide) (by decide) ?_
      rw [show (b64.qmin - ((i : Int) - 1074)).toNat = 0 by omega, show ((i : Int) - 1074 - b64.qmin).toNat = i by omega]
      show A * PN i * 1 * 2 ^ 0 = A * 1 * PN i
      simp
    have hbp : b64.p = 53 := rfl
    have hq : quantum b64 A 1 ((i : Int) - 1074) = (L : Int) + i - 1126 := by
      unfold quantum
      rw [leading_one (by omega), hL, hbp]
      omega
    rw [hn, e1] at hv
    unfold roundRatio at hv
    rw [if_neg (by omega), hq] at hv
    unfold roundAt at hv
    have u1 : unitsNum A ((i : Int) - 1074) ((L : Int) + i - 1126) = A := by
      unfold unitsNum
      rw [show ((i : Int) - 1074 - ((L : Int) + i - 1126)).toNat = 0 by omega]; simp
    have u2 : unitsDen 1 ((i : Int) - 1074) ((L : Int) + i - 1126) = 2 ^ (L - 52) := by
      unfold unitsDen
      rw [show ((L : Int) + i - 1126 - ((i : Int) - 1074)).toNat = L - 52 by omega]; simp
    rw [u1, u2, hcc] at hv
    have hmx : b64.qmax = 971 := by decide
    unfold settle at hv
    by_cases hlt : c < 2 ^ 53
    · rw [if_pos (by rw [hbp]; exact hlt)] at hv
      unfold bound at hv
      rw [if_pos (by omega)] at hv
      refine ⟨⟨_, _, _, hv⟩, ?_⟩
      rw [z_fin hv]
      unfold inUnits
      rw [show ((L : Int) + i - 1126 - b64.qmin).toNat = (L - 52) + i by omega, Nat.pow_add, ← Nat.mul_assoc, signed_mul]
      rfl
    · rw [if_neg (by rw [hbp]; exact hlt)] at hv
      unfold bound at hv
      rw [if_pos (by omega)] at hv
      refine ⟨⟨_, _, _, hv⟩, ?_⟩
      rw [z_fin hv]
      unfold inUnits
      have hc53 : c = 2 ^ 53 := by omega
      have ht : b64.tails = 2 ^ 52 := tails_b64
      rw [show ((L : Int) + i - 1126 + 1 - b64.qmin).toNat = 1 + (L - 52) + i by omega, Nat.pow_add, Nat.pow_add, ht, hc53]
      rw [show 2 ^ 52 * (2 ^ 1 * 2 ^ (L - 52) * 2 ^ i) = 2 ^ 53 * 2 ^ (L - 52) * 2 ^ i by
        rw [show (2 : Nat) ^ 53 = 2 ^ 52 * 2 ^ 1 from rfl]; simp only [Nat.mul_assoc], signed_mul]
      rfl
theorem i64_of {N : Int} (h1 : -9223372036854775808 ≤ N) (h2 : N < 9223372036854775808) : ∃ v : Int64, v.toInt = N := by
  refine ⟨Int64.ofInt N, ?_⟩
  rw [Int64.toInt_ofInt, show Int64.size = 18446744073709551616 from rfl]
  exact Int.bmod_eq_of_le_mul_two (by omega) (by omega)
theorem RI.ex (N : Int) (hN : N.natAbs < 2 ^ 63) : ∃ n, RI N n ∧ (n - N).natAbs < 2048 := by
  obtain ⟨n, h⟩ := RI.ex0 N (by omega)
  refine ⟨n, h, ?_⟩
  obtain ⟨v, hv⟩ := i64_of (N := N) (by omega) (by omega)
  have hr := rnd_l2d v
  rw [hv] at hr
  obtain ⟨f, hz⟩ := h 1074 _ (by omega) (by omega) hr
  have hP := PN_posI 1074
  have e : (PN 1085 : Int) = 2048 * (PN 1074 : Int) := by rw [show 1085 = 11 + 1074 from rfl, PN_addI]; rfl
  obtain ⟨-, n1, n2⟩ := hr.near 1085 (by omega) (by
      rw [e]
      have : (-(2 ^ 53 * 2048)) * (PN 1074 : Int) ≤ N * (PN 1074 : Int) := Int.mul_le_mul_of_nonneg_right (by omega) (by omega)
      omega) (by
      rw [e]
      have : N * (PN 1074 : Int) ≤ ((2 ^ 53 - 1) * 2048) * (PN 1074 : Int) := Int.mul_le_mul_of_nonneg_right (by omega) (by omega)
      omega)
  rw [hz, e] at n1 n2
  have a1 : (N - 2048) * (PN 1074 : Int) < n * (PN 1074 : Int) := by rw [Int.sub_mul]; omega
  have a2 : n * (PN 1074 : Int) < (N + 2048) * (PN 1074 : Int) := by rw [Int.add_mul]; omega
  have b1 := Int.lt_of_mul_lt_mul_right a1 (by omega)
  have b2 := Int.lt_of_mul_lt_mul_right a2 (by omega)
  omega
theorem DI.of_z {a : UInt64} {i : Int} (h : DFin a) (hz : Jvm.Own.z a = i * (PN 1074 : Int)) : DInt i a := by
  obtain ⟨s, c, q, hv⟩ := h
  rw [z_fin hv] at hz
  have hq := (DFin.fits hv).2.1
  have hqm := qm
  unfold DInt
  rw [hv]
  show signed s (c * 2 ^ q.toNat) = i * ((2 ^ (-q).toNat : Nat) : Int)
  unfold inUnits at hz
  by_cases q0 : 0 ≤ q
  · rw [show (q - b64.qmin).toNat = q.toNat + 1074 by omega, Nat.pow_add, ← Nat.mul_assoc, signed_mul] at hz
    have := Int.eq_of_mul_eq_mul_right (by have := PN_posI 1074; omega) (show signed s (c * 2 ^ q.toNat) * (PN 1074 : Int) = i * (PN 1074 : Int) from hz)
    rw [this, show (-q).toNat = 0 by omega]
    simp
  · have e : (PN 1074 : Int) = (PN (-q).toNat : Int) * (PN (q - b64.qmin).toNat : Int) := by
      rw [← PN_addI]; congr 2; omega
    rw [e, ← Int.mul_assoc, signed_mul] at hz
    have := Int.eq_of_mul_eq_mul_right (by have := PN_posI (q - b64.qmin).toNat; omega) (show signed s c * (PN (q - b64.qmin).toNat : Int) = i * (PN (-q).toNat : Int) * (PN (q - b64.qmin).toNat : Int) from hz)
    rw [show q.toNat = 0 by omega, Nat.pow_zero, Nat.mul_one, this]
    rfl
/-- the rounding error of a sum, one of whose parts is small -/
theorem two_sum {sum term total : UInt64} {u v t : Int} {J : Nat} (j1 : 52 ≤ J) (j2 : J ≤ 1900) (fs : DFin sum) (zs : z sum = u * (PN J : Int)) (ft : DFin term) (zt : z term = v * (PN J : Int)) (fT : DFin total) (zT : z total = t * (PN J : Int))
    (hu : u.natAbs ≤ 2 ^ 62) (hv : v.natAbs ≤ 2 ^ 62) (hs : u.natAbs ≤ 2147483648 ∨ v.natAbs ≤ 2147483648) (ht : (t - (u + v)).natAbs < 2048) :
    (DFin (dsub total sum) ∧ DFin (dsub total (dsub total sum)) ∧ DFin (dsub sum (dsub total (dsub total sum))) ∧ DFin (dsub term (dsub total sum)) ∧ DFin (dadd (dsub sum (dsub total (dsub total sum))) (dsub term (dsub total sum)))) ∧ z (dadd (dsub sum (dsub total (dsub total sum))) (dsub term (dsub total sum))) = (u + v - t) * (PN J : Int) := by
  have r1 := rnd_dsub fT fs
  rw [zT, zs, ← Int.sub_mul] at r1
  rcases hs with hs | hs
  · obtain ⟨n, hn, hb⟩ := RI.ex (t - u) (by omega)
    obtain ⟨f1, z1⟩ := hn J _ j1 j2 r1
    have r2 := rnd_dsub fT f1
    rw [zT, z1, ← Int.sub_mul] at r2
    obtain ⟨f2, z2⟩ := r2.exact (t - n) J (by omega) (by omega) (by simp)
    have r3 := rnd_dsub fs f2
    rw [zs, z2, ← Int.sub_mul] at r3
    obtain ⟨f3, z3⟩ := r3.exact (u - (t - n)) J (by omega) (by omega) (by simp)
    have r4 := rnd_dsub ft f1
    rw [zt, z1, ← Int.sub_mul] at r4
    obtain ⟨f4, z4⟩ := r4.exact (v - n) J (by omega) (by omega) (by simp)
    have r5 := rnd_dadd f3 f4
    rw [z3, z4, ← Int.add_mul] at r5
    obtain ⟨f5, z5⟩ := r5.exact (u - (t - n) + (v - n)) J (by omega) (by omega) (by simp)
    refine ⟨⟨f1, f2, f3, f4, f5⟩, z5.trans ?_⟩
    congr 1; omega
  · obtain ⟨f1, z1⟩ := r1.exact (t - u) J (by omega) (by omega) (by simp)
    have r2 := rnd_dsub fT f1
    rw [zT, z1, ← Int.sub_mul] at r2
    obtain ⟨f2, z2⟩ := r2.exactV fs (by rw [zs, show t - (t - u) = u by omega]; simp)
    rw [zs] at z2
    have r3 := rnd_dsub fs f2
    rw [zs, z2, ← Int.sub_mul] at r3
    obtain ⟨f3, z3⟩ := r3.exact (u - u) J (by omega) (by omega) (by simp)
    have r4 := rnd_dsub ft f1
    rw [zt, z1, ← Int.sub_mul] at r4
    obtain ⟨f4, z4⟩ := r4.exact (v - (t - u)) J (by omega) (by omega) (by simp)
    have r5 := rnd_dadd f3 f4
    rw [z3, z4, ← Int.add_mul] at r5
    obtain ⟨f5, z5⟩ := r5.exact (u - u + (v - (t - u))) J (by omega) (by omega) (by simp)
    refine ⟨⟨f1, f2, f3, f4, f5⟩, z5.trans ?_⟩
    congr 1; omega
end Jvm.Own

namespace Jvm.Pilot.@@N@@
open Jvm Jvm.ClassFile Sem Op Lib Jvm.Free Jvm.Stand Jvm.LawKit Jvm.RoadKit Bundle Jvm.Pilot.@@N@@.Jvm.D

theorem d1_0 : decode method_3_code 0 = .ok (.iload_n 0, 1) := by decide +kernel
theorem d1_1 : decode method_3_code 1 = .ok (.ifCond .ne 7, 3) := by decide +kernel
theorem d1_4 : decode method_3_code 4 = .ok (.ldc2_w 8, 3) := by decide +kernel
theorem d1_7 : decode method_3_code 7 = .ok (.lreturn, 1) := by decide +kernel
theorem d1_8 : decode method_3_code 8 = .ok (.iload_n 0, 1) := by decide +kernel
theorem d1_9 : decode method_3_code 9 = .ok (.iconst 1, 1) := by decide +kernel
theorem d1_10 : decode method_3_code 10 = .ok (.if_icmp .ne 7, 3) := by decide +kernel
theorem d1_13 : decode method_3_code 13 = .ok (.ldc2_w 10, 3) := by decide +kernel
theorem d1_16 : decode method_3_code 16 = .ok (.lreturn, 1) := by decide +kernel
theorem d1_17 : decode method_3_code 17 = .ok (.iload_n 0, 1) := by decide +kernel
theorem d1_18 : decode method_3_code 18 = .ok (.iconst 2, 1) := by decide +kernel
theorem d1_19 : decode method_3_code 19 = .ok (.if_icmp .ne 7, 3) := by decide +kernel
theorem d1_22 : decode method_3_code 22 = .ok (.ldc2_w 12, 3) := by decide +kernel
theorem d1_25 : decode method_3_code 25 = .ok (.lreturn, 1) := by decide +kernel
theorem d1_26 : decode method_3_code 26 = .ok (.iload_n 0, 1) := by decide +kernel
theorem d1_27 : decode method_3_code 27 = .ok (.iconst 3, 1) := by decide +kernel
theorem d1_28 : decode method_3_code 28 = .ok (.if_icmp .ne 7, 3) := by decide +kernel
theorem d1_31 : decode method_3_code 31 = .ok (.ldc2_w 14, 3) := by decide +kernel
theorem d1_34 : decode method_3_code 34 = .ok (.lreturn, 1) := by decide +kernel
theorem d1_35 : decode method_3_code 35 = .ok (.iload_n 0, 1) := by decide +kernel
theorem d1_36 : decode method_3_code 36 = .ok (.iconst 4, 1) := by decide +kernel
theorem d1_37 : decode method_3_code 37 = .ok (.if_icmp .ne 7, 3) := by decide +kernel
theorem d1_40 : decode method_3_code 40 = .ok (.ldc2_w 16, 3) := by decide +kernel
theorem d1_43 : decode method_3_code 43 = .ok (.lreturn, 1) := by decide +kernel
theorem d1_44 : decode method_3_code 44 = .ok (.iload_n 0, 1) := by decide +kernel
theorem d1_45 : decode method_3_code 45 = .ok (.iconst 5, 1) := by decide +kernel
theorem d1_46 : decode method_3_code 46 = .ok (.if_icmp .ne 7, 3) := by decide +kernel
theorem d1_49 : decode method_3_code 49 = .ok (.ldc2_w 18, 3) := by decide +kernel
theorem d1_52 : decode method_3_code 52 = .ok (.lreturn, 1) := by decide +kernel
theorem d1_53 : decode method_3_code 53 = .ok (.iload_n 0, 1) := by decide +kernel
theorem d1_54 : decode method_3_code 54 = .ok (.bipush 6, 2) := by decide +kernel
theorem d1_56 : decode method_3_code 56 = .ok (.if_icmp .ne 7, 3) := by decide +kernel
theorem d1_59 : decode method_3_code 59 = .ok (.ldc2_w 20, 3) := by decide +kernel
theorem d1_62 : decode method_3_code 62 = .ok (.lreturn, 1) := by decide +kernel
theorem d1_63 : decode method_3_code 63 = .ok (.lconst 1, 1) := by decide +kernel
theorem d1_64 : decode method_3_code 64 = .ok (.lreturn, 1) := by decide +kernel
theorem d2_0 : decode method_2_code 0 = .ok (.iload_n 0, 1) := by decide +kernel
theorem d2_1 : decode method_2_code 1 = .ok (.ifCond .ne 5, 3) := by decide +kernel
theorem d2_4 : decode method_2_code 4 = .ok (.iconst 1, 1) := by decide +kernel
theorem d2_5 : decode method_2_code 5 = .ok (.ireturn, 1) := by decide +kernel
theorem d2_6 : decode method_2_code 6 = .ok (.iload_n 0, 1) := by decide +kernel
theorem d2_7 : decode method_2_code 7 = .ok (.iconst 1, 1) := by decide +kernel
theorem d2_8 : decode method_2_code 8 = .ok (.if_icmp .ne 5, 3) := by decide +kernel
theorem d2_11 : decode method_2_code 11 = .ok (.iconst 2, 1) := by decide +kernel
theorem d2_12 : decode method_2_code 12 = .ok (.ireturn, 1) := by decide +kernel
theorem d2_13 : decode method_2_code 13 = .ok (.iload_n 0, 1) := by decide +kernel
theorem d2_14 : decode method_2_code 14 = .ok (.iconst 2, 1) := by decide +kernel
theorem d2_15 : decode method_2_code 15 = .ok (.if_icmp .ne 5, 3) := by decide +kernel
theorem d2_18 : decode method_2_code 18 = .ok (.iconst 4, 1) := by decide +kernel
theorem d2_19 : decode method_2_code 19 = .ok (.ireturn, 1) := by decide +kernel
theorem d2_20 : decode method_2_code 20 = .ok (.iload_n 0, 1) := by decide +kernel
theorem d2_21 : decode method_2_code 21 = .ok (.iconst 3, 1) := by decide +kernel
theorem d2_22 : decode method_2_code 22 = .ok (.if_icmp .ne 5, 3) := by decide +kernel
theorem d2_25 : decode method_2_code 25 = .ok (.iconst 5, 1) := by decide +kernel
theorem d2_26 : decode method_2_code 26 = .ok (.ireturn, 1) := by decide +kernel
theorem d2_27 : decode method_2_code 27 = .ok (.iload_n 0, 1) := by decide +kernel
theorem d2_28 : decode method_2_code 28 = .ok (.iconst 4, 1) := by decide +kernel
theorem d2_29 : decode method_2_code 29 = .ok (.if_icmp .ne 6, 3) := by decide +kernel
theorem d2_32 : decode method_2_code 32 = .ok (.bipush 8, 2) := by decide +kernel
theorem d2_34 : decode method_2_code 34 = .ok (.ireturn, 1) := by decide +kernel
theorem d2_35 : decode method_2_code 35 = .ok (.iload_n 0, 1) := by decide +kernel
theorem d2_36 : decode method_2_code 36 = .ok (.iconst 5, 1) := by decide +kernel
theorem d2_37 : decode method_2_code 37 = .ok (.if_icmp .ne 6, 3) := by decide +kernel
theorem d2_40 : decode method_2_code 40 = .ok (.bipush 10, 2) := by decide +kernel
theorem d2_42 : decode method_2_code 42 = .ok (.ireturn, 1) := by decide +kernel
theorem d2_43 : decode method_2_code 43 = .ok (.iload_n 0, 1) := by decide +kernel
theorem d2_44 : decode method_2_code 44 = .ok (.bipush 6, 2) := by decide +kernel
theorem d2_46 : decode method_2_code 46 = .ok (.if_icmp .ne 7, 3) := by decide +kernel
theorem d2_49 : decode method_2_code 49 = .ok (.sipush 1000, 3) := by decide +kernel
theorem d2_52 : decode method_2_code 52 = .ok (.ireturn, 1) := by decide +kernel
theorem d2_53 : decode method_2_code 53 = .ok (.ldc 7, 2) := by decide +kernel
theorem d2_55 : decode method_2_code 55 = .ok (.ireturn, 1) := by decide +kernel
theorem d3_0 : decode prog_10_method_1_code 0 = .ok (.aload_n 0, 1) := by decide +kernel
theorem d3_1 : decode prog_10_method_1_code 1 = .ok (.invokespecial 1, 3) := by decide +kernel
theorem d3_4 : decode prog_10_method_1_code 4 = .ok (.aload_n 0, 1) := by decide +kernel
theorem d3_5 : decode prog_10_method_1_code 5 = .ok (.dload_n 1, 1) := by decide +kernel
theorem d3_6 : decode prog_10_method_1_code 6 = .ok (.putfield 7, 3) := by decide +kernel
theorem d3_9 : decode prog_10_method_1_code 9 = .ok (.aload_n 0, 1) := by decide +kernel
theorem d3_10 : decode prog_10_method_1_code 10 = .ok (.lload_n 3, 1) := by decide +kernel
theorem d3_11 : decode prog_10_method_1_code 11 = .ok (.putfield 13, 3) := by decide +kernel
theorem d3_14 : decode prog_10_method_1_code 14 = .ok (.return_, 1) := by decide +kernel
theorem d5_0 : decode prog_10_method_2_code 0 = .ok (.aload_n 0, 1) := by decide +kernel
theorem d5_1 : decode prog_10_method_2_code 1 = .ok (.getfield 13, 3) := by decide +kernel
theorem d5_4 : decode prog_10_method_2_code 4 = .ok (.aload_n 0, 1) := by decide +kernel
theorem d5_5 : decode prog_10_method_2_code 5 = .ok (.aload_n 0, 1) := by decide +kernel
theorem d5_6 : decode prog_10_method_2_code 6 = .ok (.dup, 1) := by decide +kernel
theorem d5_7 : decode prog_10_method_2_code 7 = .ok (.getfield 17, 3) := by decide +kernel
theorem d5_10 : decode prog_10_method_2_code 10 = .ok (.dup2_x1, 1) := by decide +kernel
theorem d5_11 : decode prog_10_method_2_code 11 = .ok (.lconst 1, 1) := by decide +kernel
theorem d5_12 : decode prog_10_method_2_code 12 = .ok (.ladd, 1) := by decide +kernel
theorem d5_13 : decode prog_10_method_2_code 13 = .ok (.putfield 17, 3) := by decide +kernel
theorem d5_16 : decode prog_10_method_2_code 16 = .ok (.invokevirtual 20, 3) := by decide +kernel
theorem d5_19 : decode prog_10_method_2_code 19 = .ok (.ladd, 1) := by decide +kernel
theorem d5_20 : decode prog_10_method_2_code 20 = .ok (.lreturn, 1) := by decide +kernel
theorem d6_0 : decode prog_10_method_4_code 0 = .ok (.lload_n 1, 1) := by decide +kernel
theorem d6_1 : decode prog_10_method_4_code 1 = .ok (.l2d, 1) := by decide +kernel
theorem d6_2 : decode prog_10_method_4_code 2 = .ok (.ldc2_w 28, 3) := by decide +kernel
theorem d6_5 : decode prog_10_method_4_code 5 = .ok (.dmul, 1) := by decide +kernel
theorem d6_6 : decode prog_10_method_4_code 6 = .ok (.aload_n 0, 1) := by decide +kernel
theorem d6_7 : decode prog_10_method_4_code 7 = .ok (.getfield 7, 3) := by decide +kernel
theorem d6_10 : decode prog_10_method_4_code 10 = .ok (.ddiv, 1) := by decide +kernel
theorem d6_11 : decode prog_10_method_4_code 11 = .ok (.d2l, 1) := by decide +kernel
theorem d6_12 : decode prog_10_method_4_code 12 = .ok (.lreturn, 1) := by decide +kernel
theorem d7_0 : decode prog_10_method_3_code 0 = .ok (.lload_n 1, 1) := by decide +kernel
theorem d7_1 : decode prog_10_method_3_code 1 = .ok (.aload_n 0, 1) := by decide +kernel
theorem d7_2 : decode prog_10_method_3_code 2 = .ok (.getfield 13, 3) := by decide +kernel
theorem d7_5 : decode prog_10_method_3_code 5 = .ok (.lsub, 1) := by decide +kernel
theorem d7_6 : decode prog_10_method_3_code 6 = .ok (.aload_n 0, 1) := by decide +kernel
theorem d7_7 : decode prog_10_method_3_code 7 = .ok (.aload_n 0, 1) := by decide +kernel
theorem d7_8 : decode prog_10_method_3_code 8 = .ok (.getfield 17, 3) := by decide +kernel
theorem d7_11 : decode prog_10_method_3_code 11 = .ok (.invokevirtual 20, 3) := by decide +kernel
theorem d7_14 : decode prog_10_method_3_code 14 = .ok (.lcmp, 1) := by decide +kernel
theorem d7_15 : decode prog_10_method_3_code 15 = .ok (.ifCond .le 13, 3) := by decide +kernel
theorem d7_18 : decode prog_10_method_3_code 18 = .ok (.aload_n 0, 1) := by decide +kernel
theorem d7_19 : decode prog_10_method_3_code 19 = .ok (.lload_n 1, 1) := by decide +kernel
theorem d7_20 : decode prog_10_method_3_code 20 = .ok (.putfield 13, 3) := by decide +kernel
theorem d7_23 : decode prog_10_method_3_code 23 = .ok (.aload_n 0, 1) := by decide +kernel
theorem d7_24 : decode prog_10_method_3_code 24 = .ok (.lconst 0, 1) := by decide +kernel
theorem d7_25 : decode prog_10_method_3_code 25 = .ok (.putfield 17, 3) := by decide +kernel
theorem d7_28 : decode prog_10_method_3_code 28 = .ok (.aload_n 0, 1) := by decide +kernel
theorem d7_29 : decode prog_10_method_3_code 29 = .ok (.invokevirtual 24, 3) := by decide +kernel
theorem d7_32 : decode prog_10_method_3_code 32 = .ok (.lreturn, 1) := by decide +kernel
theorem pd_0 : parseMethodDescriptor "(J)J" = some ⟨[.long], some .long⟩ := by decide +kernel
theorem pd_1 : parseMethodDescriptor "()J" = some ⟨[], some .long⟩ := by decide +kernel
theorem pd_2 : parseMethodDescriptor "(I)J" = some ⟨[.int], some .long⟩ := by decide +kernel
theorem pd_3 : parseMethodDescriptor "(I)I" = some ⟨[.int], some .int⟩ := by decide +kernel
theorem pd_4 : parseMethodDescriptor "(DJ)V" = some ⟨[.double, .long], none⟩ := by decide +kernel
theorem pn_0 : plainName "com/example/earnest_load/earnestload/run/Schedule" = true := by first | (simp [plainName, overriddenIn]; done) | decide +kernel
theorem pn_1 : plainName "com/example/earnest_load/earnestload/run/ScheduleNextFromPinLaw" = true := by first | (simp [plainName, overriddenIn]; done) | decide +kernel
def own_tri (sel : Int32) (q : Int64) (rr : Int32) : Prop := (sel = 0 ∧ q = 1000000000 ∧ rr = 1) ∨ (sel = 1 ∧ q = 500000000 ∧ rr = 2) ∨ (sel = 2 ∧ q = 250000000 ∧ rr = 4) ∨ (sel = 3 ∧ q = 200000000 ∧ rr = 5) ∨ (sel = 4 ∧ q = 125000000 ∧ rr = 8) ∨ (sel = 5 ∧ q = 100000000 ∧ rr = 10) ∨ (sel = 6 ∧ q = 1000000 ∧ rr = 1000) ∨ (sel = 7 ∧ q = 1 ∧ rr = 1000000000)
theorem ef_rmPer (m : MethodId) (sel : Int32) : entryFrame m #[(.int sel)] 1 = mkF m 0 #[.val (.int sel)] [] := by first | (simp [entryFrame, mkF, argsToLocals, Value.category]; done) | rfl
set_option maxRecDepth 65536 in
set_option maxHeartbeats 40000000 in
theorem rmPer (l : Launch) (Z : State) (a0 : Array Value) (hw : ∀ d ∈ tables_1, d.before a0 Z = true) (ws : List Jvm.Cond) (sel : Int32) (h0 : Heap) (n0 : Nat) (Z0 : n0 ≤ h0.size) (q : Int64) (rr : Int32) (ht : own_tri sel q rr) :
    MetFree l (⟨"com/example/earnest_load/earnestload/run/ScheduleNextFromPinLaw", "period", "(I)J"⟩ : MethodName) (head1 (Jvm.Cond.code (⟨"com/example/earnest_load/earnestload/run/ScheduleNextFromPinLaw", "period", "(I)J"⟩ : MethodName) method_3_code 1 (some .long) :: ws) ({ frames := 0, cells := 0, slots := 0, locals := 0 } : Room)) (fun a_ U_ => a_ = #[(.int sel)] ∧ Z.Warmed39 U_.vm ∧ U_.heap = h0) (fun _ _ _ _ _ => True) (fun _ U_ o_ V_ => ∃ v_ L_, o_ = .returned v_ ∧ QP (.long q) h0 n0 v_ V_.heap L_ ∧ FrameEnd U_ o_ V_ L_ ({ frames := 0, cells := 0, slots := 0, locals := 0 } : Room).cells ({ frames := 0, cells := 0, slots := 0, locals := 0 } : Room).slots) := by
  refine MetFree.of_bodySF (plainFor_of_name pn_1) hisR ?_
  intro p e s m args below meth c s₁ Bd hml0 hP hK
  obtain ⟨rfl, hZ, hh⟩ := hP
  have hx := Bd.exec
  have hby := Bd.bytes
  have hml : c.maxLocals = 1 := hml0
  have hown : s.vm.findClass "com/example/earnest_load/earnestload/run/ScheduleNextFromPinLaw" = some m.cls := findClass_of_methodNamed Bd.named
  have hnm := (name_of_methodNamed Bd.named Bd.method).1
  have X0 : Stand p l e ({ frames := 0, cells := 0, slots := 0, locals := 0 } : Room) s m #[(.int sel)] below meth c s₁ [] 0 0 := Stand.of_body Bd
  have e0 : s₁.heap = h0 := by rw [← hh, Bd.state]; rfl
  have N0 := Fr.nil n0
  have pre0 : ∀ t, Steps p.tables e below (s₁.setTop (mkF m 0 #[.val (.int sel)] [])) t → Steps p.tables e below (s₁.setTop (entryFrame m #[(.int sel)] 1)) t := fun t_ k_ => castTop (ef_rmPer m sel) k_
  rcases ht with ⟨rfl, rfl, rfl⟩ | ⟨rfl, rfl, rfl⟩ | ⟨rfl, rfl, rfl⟩ | ⟨rfl, rfl, rfl⟩ | ⟨rfl, rfl, rfl⟩ | ⟨rfl, rfl, rfl⟩ | ⟨rfl, rfl, rfl⟩ | ⟨rfl, rfl, rfl⟩
  · obtain ⟨fs, hr, hrun, hended, hW, hsame⟩ := X0.leave (v := some (.long (1000000000 : Int64))) (fun h => by rw [Bd.returns] at h; cases h)
    refine ⟨_, _, pre0 _ ?_, hrun, hended, _, _, rfl, ?_, ⟨_, rfl⟩, hW, hsame.mono (by decide) (by decide)⟩
    · show Steps p.tables e below (s₁.setTop (mkF m 0 #[.val (.int (0 : Int32))] [])) _
      refine XS.iloadN X0.here hx rfl (hb hby d1_0) rfl ?_
      show Steps p.tables e below (s₁.setTop (mkF m 1 #[.val (.int (0 : Int32))] [(.int (0 : Int32))])) _
      refine XS.ifNo X0.here hx rfl (hb hby d1_1) rfl rfl ?_
      show Steps p.tables e below (s₁.setTop (mkF m 4 #[.val (.int (0 : Int32))] [])) _
      refine X0.ldc2Long hx hown (mvT hZ (hw _ (List.mem_of_getElem? (i := 4) rfl))) (g := (mkF m 4 #[.val (.int (0 : Int32))] [])) rfl (hb hby d1_4) _ ?_
      show Steps p.tables e below (s₁.setTop (mkF m 7 #[.val (.int (0 : Int32))] [(.long (1000000000 : Int64))])) _
      exact X0.lreturnOut hx Bd.returns (hb hby d1_7) hr
    · show QP (.long (1000000000 : Int64)) h0 n0 _ s₁.heap _
      rw [e0]
      exact ⟨rfl, N0, rfl⟩
  · obtain ⟨fs, hr, hrun, hended, hW, hsame⟩ := X0.leave (v := some (.long (500000000 : Int64))) (fun h => by rw [Bd.returns] at h; cases h)
    refine ⟨_, _, pre0 _ ?_, hrun, hended, _, _, rfl, ?_, ⟨_, rfl⟩, hW, hsame.mono (by decide) (by decide)⟩
    · show Steps p.tables e below (s₁.setTop (mkF m 0 #[.val (.int (1 : Int32))] [])) _
      refine XS.iloadN X0.here hx rfl (hb hby d1_0) rfl ?_
      show Steps p.tables e below (s₁.setTop (mkF m 1 #[.val (.int (1 : Int32))] [(.int (1 : Int32))])) _
      refine XS.ifYes X0.here hx rfl (pc0 := 1) (pc' := 8) rfl (hb hby d1_1) rfl rfl (by decide) (by decide) ?_
      show Steps p.tables e below (s₁.setTop (mkF m 8 #[.val (.int (1 : Int32))] [])) _
      refine XS.iloadN X0.here hx rfl (hb hby d1_8) rfl ?_
      show Steps p.tables e below (s₁.setTop (mkF m 9 #[.val (.int (1 : Int32))] [(.int (1 : Int32))])) _
      refine XS.iconst X0.here hx rfl (hb hby d1_9) ?_
      show Steps p.tables e below (s₁.setTop (mkF m 10 #[.val (.int (1 : Int32))] [(.int (1 : Int32)), (.int (1 : Int32))])) _
      refine XS.icmpNo X0.here hx rfl (hb hby d1_10) rfl rfl ?_
      show Steps p.tables e below (s₁.setTop (mkF m 13 #[.val (.int (1 : Int32))] [])) _
      refine X0.ldc2Long hx hown (mvT hZ (hw _ (List.mem_of_getElem? (i := 40) rfl))) (g := (mkF m 13 #[.val (.int (1 : Int32))] [])) rfl (hb hby d1_13) _ ?_
      show Steps p.tables e below (s₁.setTop (mkF m 16 #[.val (.int (1 : Int32))] [(.long (500000000 : Int64))])) _
      exact X0.lreturnOut hx Bd.returns (hb hby d1_16) hr
    · show QP (.long (500000000 : Int64)) h0 n0 _ s₁.heap _
      rw [e0]
      exact ⟨rfl, N0, rfl⟩
  · obtain ⟨fs, hr, hrun, hended, hW, hsame⟩ := X0.leave (v := some (.long (250000000 : Int64))) (fun h => by rw [Bd.returns] at h; cases h)
    refine ⟨_, _, pre0 _ ?_, hrun, hended, _, _, rfl, ?_, ⟨_, rfl⟩, hW, hsame.mono (by decide) (by decide)⟩
    · show Steps p.tables e below (s₁.setTop (mkF m 0 #[.val (.int (2 : Int32))] [])) _
      refine XS.iloadN X0.here hx rfl (hb hby d1_0) rfl ?_
      show Steps p.tables e below (s₁.setTop (mkF m 1 #[.val (.int (2 : Int32))] [(.int (2 : Int32))])) _
      refine XS.ifYes X0.here hx rfl (pc0 := 1) (pc' := 8) rfl (hb hby d1_1) rfl rfl (by decide) (by decide) ?_
      show Steps p.tables e below (s₁.setTop (mkF m 8 #[.val (.int (2 : Int32))] [])) _
      refine XS.iloadN X0.here hx rfl (hb hby d1_8) rfl ?_
      show Steps p.tables e below (s₁.setTop (mkF m 9 #[.val (.int (2 : Int32))] [(.int (2 : Int32))])) _
      refine XS.iconst X0.here hx rfl (hb hby d1_9) ?_
      show Steps p.tables e below (s₁.setTop (mkF m 10 #[.val (.int (2 : Int32))] [(.int (1 : Int32)), (.int (2 : Int32))])) _
      refine XS.icmpYes X0.here hx rfl (pc0 := 10) (pc' := 17) rfl (hb hby d1_10) rfl rfl (by decide) (by decide) ?_
      show Steps p.tables e below (s₁.setTop (mkF m 17 #[.val (.int (2 : Int32))] [])) _
      refine XS.iloadN X0.here hx rfl (hb hby d1_17) rfl ?_
      show Steps p.tables e below (s₁.setTop (mkF m 18 #[.val (.int (2 : Int32))] [(.int (2 : Int32))])) _
      refine XS.iconst X0.here hx rfl (hb hby d1_18) ?_
      show Steps p.tables e below (s₁.setTop (mkF m 19 #[.val (.int (2 : Int32))] [(.int (2 : Int32)), (.int (2 : Int32))])) _
      refine XS.icmpNo X0.here hx rfl (hb hby d1_19) rfl rfl ?_
      show Steps p.tables e below (s₁.setTop (mkF m 22 #[.val (.int (2 : Int32))] [])) _
      refine X0.ldc2Long hx hown (mvT hZ (hw _ (List.mem_of_getElem? (i := 39) rfl))) (g := (mkF m 22 #[.val (.int (2 : Int32))] [])) rfl (hb hby d1_22) _ ?_
      show Steps p.tables e below (s₁.setTop (mkF m 25 #[.val (.int (2 : Int32))] [(.long (250000000 : Int64))])) _
      exact X0.lreturnOut hx Bd.returns (hb hby d1_25) hr
    · show QP (.long (250000000 : Int64)) h0 n0 _ s₁.heap _
      rw [e0]
      exact ⟨rfl, N0, rfl⟩
  · obtain ⟨fs, hr, hrun, hended, hW, hsame⟩ := X0.leave (v := some (.long (200000000 : Int64))) (fun h => by rw [Bd.returns] at h; cases h)
    refine ⟨_, _, pre0 _ ?_, hrun, hended, _, _, rfl, ?_, ⟨_, rfl⟩, hW, hsame.mono (by decide) (by decide)⟩
    · show Steps p.tables e below (s₁.setTop (mkF m 0 #[.val (.int (3 : Int32))] [])) _
      refine XS.iloadN X0.here hx rfl (hb hby d1_0) rfl ?_
      show Steps p.tables e below (s₁.setTop (mkF m 1 #[.val (.int (3 : Int32))] [(.int (3 : Int32))])) _
      refine XS.ifYes X0.here hx rfl (pc0 := 1) (pc' := 8) rfl (hb hby d1_1) rfl rfl (by decide) (by decide) ?_
      show Steps p.tables e below (s₁.setTop (mkF m 8 #[.val (.int (3 : Int32))] [])) _
      refine XS.iloadN X0.here hx rfl (hb hby d1_8) rfl ?_
      show Steps p.tables e below (s₁.setTop (mkF m 9 #[.val (.int (3 : Int32))] [(.int (3 : Int32))])) _
      refine XS.iconst X0.here hx rfl (hb hby d1_9) ?_
      show Steps p.tables e below (s₁.setTop (mkF m 10 #[.val (.int (3 : Int32))] [(.int (1 : Int32)), (.int (3 : Int32))])) _
      refine XS.icmpYes X0.here hx rfl (pc0 := 10) (pc' := 17) rfl (hb hby d1_10) rfl rfl (by decide) (by decide) ?_
      show Steps p.tables e below (s₁.setTop (mkF m 17 #[.val (.int (3 : Int32))] [])) _
      refine XS.iloadN X0.here hx rfl (hb hby d1_17) rfl ?_
      show Steps p.tables e below (s₁.setTop (mkF m 18 #[.val (.int (3 : Int32))] [(.int (3 : Int32))])) _
      refine XS.iconst X0.here hx rfl (hb hby d1_18) ?_
      show Steps p.tables e below (s₁.setTop (mkF m 19 #[.val (.int (3 : Int32))] [(.int (2 : Int32)), (.int (3 : Int32))])) _
      refine XS.icmpYes X0.here hx rfl (pc0 := 19) (pc' := 26) rfl (hb hby d1_19) rfl rfl (by decide) (by decide) ?_
      show Steps p.tables e below (s₁.setTop (mkF m 26 #[.val (.int (3 : Int32))] [])) _
      refine XS.iloadN X0.here hx rfl (hb hby d1_26) rfl ?_
      show Steps p.tables e below (s₁.setTop (mkF m 27 #[.val (.int (3 : Int32))] [(.int (3 : Int32))])) _
      refine XS.iconst X0.here hx rfl (hb hby d1_27) ?_
      show Steps p.tables e below (s₁.setTop (mkF m 28 #[.val (.int (3 : Int32))] [(.int (3 : Int32)), (.int (3 : Int32))])) _
      refine XS.icmpNo X0.here hx rfl (hb hby d1_28) rfl rfl ?_
      show Steps p.tables e below (s₁.setTop (mkF m 31 #[.val (.int (3 : Int32))] [])) _
      refine X0.ldc2Long hx hown (mvT hZ (hw _ (List.mem_of_getElem? (i := 41) rfl))) (g := (mkF m 31 #[.val (.int (3 : Int32))] [])) rfl (hb hby d1_31) _ ?_
      show Steps p.tables e below (s₁.setTop (mkF m 34 #[.val (.int (3 : Int32))] [(.long (200000000 : Int64))])) _
      exact X0.lreturnOut hx Bd.returns (hb hby d1_34) hr
    · show QP (.long (200000000 : Int64)) h0 n0 _ s₁.heap _
      rw [e0]
      exact ⟨rfl, N0, rfl⟩
  · obtain ⟨fs, hr, hrun, hended, hW, hsame⟩ := X0.leave (v := some (.long (125000000 : Int64))) (fun h => by rw [Bd.returns] at h; cases h)
    refine ⟨_, _, pre0 _ ?_, hrun, hended, _, _, rfl, ?_, ⟨_, rfl⟩, hW, hsame.mono (by decide) (by decide)⟩
    · show Steps p.tables e below (s₁.setTop (mkF m 0 #[.val (.int (4 : Int32))] [])) _
      refine XS.iloadN X0.here hx rfl (hb hby d1_0) rfl ?_
      show Steps p.tables e below (s₁.setTop (mkF m 1 #[.val (.int (4 : Int32))] [(.int (4 : Int32))])) _
      refine XS.ifYes X0.here hx rfl (pc0 := 1) (pc' := 8) rfl (hb hby d1_1) rfl rfl (by decide) (by decide) ?_
      show Steps p.tables e below (s₁.setTop (mkF m 8 #[.val (.int (4 : Int32))] [])) _
      refine XS.iloadN X0.here hx rfl (hb hby d1_8) rfl ?_
      show Steps p.tables e below (s₁.setTop (mkF m 9 #[.val (.int (4 : Int32))] [(.int (4 : Int32))])) _
      refine XS.iconst X0.here hx rfl (hb hby d1_9) ?_
      show Steps p.tables e below (s₁.setTop (mkF m 10 #[.val (.int (4 : Int32))] [(.int (1 : Int32)), (.int (4 : Int32))])) _
      refine XS.icmpYes X0.here hx rfl (pc0 := 10) (pc' := 17) rfl (hb hby d1_10) rfl rfl (by decide) (by decide) ?_
      show Steps p.tables e below (s₁.setTop (mkF m 17 #[.val (.int (4 : Int32))] [])) _
      refine XS.iloadN X0.here hx rfl (hb hby d1_17) rfl ?_
      show Steps p.tables e below (s₁.setTop (mkF m 18 #[.val (.int (4 : Int32))] [(.int (4 : Int32))])) _
      refine XS.iconst X0.here hx rfl (hb hby d1_18) ?_
      show Steps p.tables e below (s₁.setTop (mkF m 19 #[.val (.int (4 : Int32))] [(.int (2 : Int32)), (.int (4 : Int32))])) _
      refine XS.icmpYes X0.here hx rfl (pc0 := 19) (pc' := 26) rfl (hb hby d1_19) rfl rfl (by decide) (by decide) ?_
      show Steps p.tables e below (s₁.setTop (mkF m 26 #[.val (.int (4 : Int32))] [])) _
      refine XS.iloadN X0.here hx rfl (hb hby d1_26) rfl ?_
      show Steps p.tables e below (s₁.setTop (mkF m 27 #[.val (.int (4 : Int32))] [(.int (4 : Int32))])) _
      refine XS.iconst X0.here hx rfl (hb hby d1_27) ?_
      show Steps p.tables e below (s₁.setTop (mkF m 28 #[.val (.int (4 : Int32))] [(.int (3 : Int32)), (.int (4 : Int32))])) _
      refine XS.icmpYes X0.here hx rfl (pc0 := 28) (pc' := 35) rfl (hb hby d1_28) rfl rfl (by decide) (by decide) ?_
      show Steps p.tables e below (s₁.setTop (mkF m 35 #[.val (.int (4 : Int32))] [])) _
      refine XS.iloadN X0.here hx rfl (hb hby d1_35) rfl ?_
      show Steps p.tables e below (s₁.setTop (mkF m 36 #[.val (.int (4 : Int32))] [(.int (4 : Int32))])) _
      refine XS.iconst X0.here hx rfl (hb hby d1_36) ?_
      show Steps p.tables e below (s₁.setTop (mkF m 37 #[.val (.int (4 : Int32))] [(.int (4 : Int32)), (.int (4 : Int32))])) _
      refine XS.icmpNo X0.here hx rfl (hb hby d1_37) rfl rfl ?_
      show Steps p.tables e below (s₁.setTop (mkF m 40 #[.val (.int (4 : Int32))] [])) _
      refine X0.ldc2Long hx hown (mvT hZ (hw _ (List.mem_of_getElem? (i := 45) rfl))) (g := (mkF m 40 #[.val (.int (4 : Int32))] [])) rfl (hb hby d1_40) _ ?_
      show Steps p.tables e below (s₁.setTop (mkF m 43 #[.val (.int (4 : Int32))] [(.long (125000000 : Int64))])) _
      exact X0.lreturnOut hx Bd.returns (hb hby d1_43) hr
    · show QP (.long (125000000 : Int64)) h0 n0 _ s₁.heap _
      rw [e0]
      exact ⟨rfl, N0, rfl⟩
  · obtain ⟨fs, hr, hrun, hended, hW, hsame⟩ := X0.leave (v := some (.long (100000000 : Int64))) (fun h => by rw [Bd.returns] at h; cases h)
    refine ⟨_, _, pre0 _ ?_, hrun, hended, _, _, rfl, ?_, ⟨_, rfl⟩, hW, hsame.mono (by decide) (by decide)⟩
    · show Steps p.tables e below (s₁.setTop (mkF m 0 #[.val (.int (5 : Int32))] [])) _
      refine XS.iloadN X0.here hx rfl (hb hby d1_0) rfl ?_
      show Steps p.tables e below (s₁.setTop (mkF m 1 #[.val (.int (5 : Int32))] [(.int (5 : Int32))])) _
      refine XS.ifYes X0.here hx rfl (pc0 := 1) (pc' := 8) rfl (hb hby d1_1) rfl rfl (by decide) (by decide) ?_
      show Steps p.tables e below (s₁.setTop (mkF m 8 #[.val (.int (5 : Int32))] [])) _
      refine XS.iloadN X0.here hx rfl (hb hby d1_8) rfl ?_
      show Steps p.tables e below (s₁.setTop (mkF m 9 #[.val (.int (5 : Int32))] [(.int (5 : Int32))])) _
      refine XS.iconst X0.here hx rfl (hb hby d1_9) ?_
      show Steps p.tables e below (s₁.setTop (mkF m 10 #[.val (.int (5 : Int32))] [(.int (1 : Int32)), (.int (5 : Int32))])) _
      refine XS.icmpYes X0.here hx rfl (pc0 := 10) (pc' := 17) rfl (hb hby d1_10) rfl rfl (by decide) (by decide) ?_
      show Steps p.tables e below (s₁.setTop (mkF m 17 #[.val (.int (5 : Int32))] [])) _
      refine XS.iloadN X0.here hx rfl (hb hby d1_17) rfl ?_
      show Steps p.tables e below (s₁.setTop (mkF m 18 #[.val (.int (5 : Int32))] [(.int (5 : Int32))])) _
      refine XS.iconst X0.here hx rfl (hb hby d1_18) ?_
      show Steps p.tables e below (s₁.setTop (mkF m 19 #[.val (.int (5 : Int32))] [(.int (2 : Int32)), (.int (5 : Int32))])) _
      refine XS.icmpYes X0.here hx rfl (pc0 := 19) (pc' := 26) rfl (hb hby d1_19) rfl rfl (by decide) (by decide) ?_
      show Steps p.tables e below (s₁.setTop (mkF m 26 #[.val (.int (5 : Int32))] [])) _
      refine XS.iloadN X0.here hx rfl (hb hby d1_26) rfl ?_
      show Steps p.tables e below (s₁.setTop (mkF m 27 #[.val (.int (5 : Int32))] [(.int (5 : Int32))])) _
      refine XS.iconst X0.here hx rfl (hb hby d1_27) ?_
      show Steps p.tables e below (s₁.setTop (mkF m 28 #[.val (.int (5 : Int32))] [(.int (3 : Int32)), (.int (5 : Int32))])) _
      refine XS.icmpYes X0.here hx rfl (pc0 := 28) (pc' := 35) rfl (hb hby d1_28) rfl rfl (by decide) (by decide) ?_
      show Steps p.tables e below (s₁.setTop (mkF m 35 #[.val (.int (5 : Int32))] [])) _
      refine XS.iloadN X0.here hx rfl (hb hby d1_35) rfl ?_
      show Steps p.tables e below (s₁.setTop (mkF m 36 #[.val (.int (5 : Int32))] [(.int (5 : Int32))])) _
      refine XS.iconst X0.here hx rfl (hb hby d1_36) ?_
      show Steps p.tables e below (s₁.setTop (mkF m 37 #[.val (.int (5 : Int32))] [(.int (4 : Int32)), (.int (5 : Int32))])) _
      refine XS.icmpYes X0.here hx rfl (pc0 := 37) (pc' := 44) rfl (hb hby d1_37) rfl rfl (by decide) (by decide) ?_
      show Steps p.tables e below (s₁.setTop (mkF m 44 #[.val (.int (5 : Int32))] [])) _
      refine XS.iloadN X0.here hx rfl (hb hby d1_44) rfl ?_
      show Steps p.tables e below (s₁.setTop (mkF m 45 #[.val (.int (5 : Int32))] [(.int (5 : Int32))])) _
      refine XS.iconst X0.here hx rfl (hb hby d1_45) ?_
      show Steps p.tables e below (s₁.setTop (mkF m 46 #[.val (.int (5 : Int32))] [(.int (5 : Int32)), (.int (5 : Int32))])) _
      refine XS.icmpNo X0.here hx rfl (hb hby d1_46) rfl rfl ?_
      show Steps p.tables e below (s₁.setTop (mkF m 49 #[.val (.int (5 : Int32))] [])) _
      refine X0.ldc2Long hx hown (mvT hZ (hw _ (List.mem_of_getElem? (i := 44) rfl))) (g := (mkF m 49 #[.val (.int (5 : Int32))] [])) rfl (hb hby d1_49) _ ?_
      show Steps p.tables e below (s₁.setTop (mkF m 52 #[.val (.int (5 : Int32))] [(.long (100000000 : Int64))])) _
      exact X0.lreturnOut hx Bd.returns (hb hby d1_52) hr
    · show QP (.long (100000000 : Int64)) h0 n0 _ s₁.heap _
      rw [e0]
      exact ⟨rfl, N0, rfl⟩
  · obtain ⟨fs, hr, hrun, hended, hW, hsame⟩ := X0.leave (v := some (.long (1000000 : Int64))) (fun h => by rw [Bd.returns] at h; cases h)
    refine ⟨_, _, pre0 _ ?_, hrun, hended, _, _, rfl, ?_, ⟨_, rfl⟩, hW, hsame.mono (by decide) (by decide)⟩
    · show Steps p.tables e below (s₁.setTop (mkF m 0 #[.val (.int (6 : Int32))] [])) _
      refine XS.iloadN X0.here hx rfl (hb hby d1_0) rfl ?_
      show Steps p.tables e below (s₁.setTop (mkF m 1 #[.val (.int (6 : Int32))] [(.int (6 : Int32))])) _
      refine XS.ifYes X0.here hx rfl (pc0 := 1) (pc' := 8) rfl (hb hby d1_1) rfl rfl (by decide) (by decide) ?_
      show Steps p.tables e below (s₁.setTop (mkF m 8 #[.val (.int (6 : Int32))] [])) _
      refine XS.iloadN X0.here hx rfl (hb hby d1_8) rfl ?_
      show Steps p.tables e below (s₁.setTop (mkF m 9 #[.val (.int (6 : Int32))] [(.int (6 : Int32))])) _
      refine XS.iconst X0.here hx rfl (hb hby d1_9) ?_
      show Steps p.tables e below (s₁.setTop (mkF m 10 #[.val (.int (6 : Int32))] [(.int (1 : Int32)), (.int (6 : Int32))])) _
      refine XS.icmpYes X0.here hx rfl (pc0 := 10) (pc' := 17) rfl (hb hby d1_10) rfl rfl (by decide) (by decide) ?_
      show Steps p.tables e below (s₁.setTop (mkF m 17 #[.val (.int (6 : Int32))] [])) _
      refine XS.iloadN X0.here hx rfl (hb hby d1_17) rfl ?_
      show Steps p.tables e below (s₁.setTop (mkF m 18 #[.val (.int (6 : Int32))] [(.int (6 : Int32))])) _
      refine XS.iconst X0.here hx rfl (hb hby d1_18) ?_
      show Steps p.tables e below (s₁.setTop (mkF m 19 #[.val (.int (6 : Int32))] [(.int (2 : Int32)), (.int (6 : Int32))])) _
      refine XS.icmpYes X0.here hx rfl (pc0 := 19) (pc' := 26) rfl (hb hby d1_19) rfl rfl (by decide) (by decide) ?_
      show Steps p.tables e below (s₁.setTop (mkF m 26 #[.val (.int (6 : Int32))] [])) _
      refine XS.iloadN X0.here hx rfl (hb hby d1_26) rfl ?_
      show Steps p.tables e below (s₁.setTop (mkF m 27 #[.val (.int (6 : Int32))] [(.int (6 : Int32))])) _
      refine XS.iconst X0.here hx rfl (hb hby d1_27) ?_
      show Steps p.tables e below (s₁.setTop (mkF m 28 #[.val (.int (6 : Int32))] [(.int (3 : Int32)), (.int (6 : Int32))])) _
      refine XS.icmpYes X0.here hx rfl (pc0 := 28) (pc' := 35) rfl (hb hby d1_28) rfl rfl (by decide) (by decide) ?_
      show Steps p.tables e below (s₁.setTop (mkF m 35 #[.val (.int (6 : Int32))] [])) _
      refine XS.iloadN X0.here hx rfl (hb hby d1_35) rfl ?_
      show Steps p.tables e below (s₁.setTop (mkF m 36 #[.val (.int (6 : Int32))] [(.int (6 : Int32))])) _
      refine XS.iconst X0.here hx rfl (hb hby d1_36) ?_
      show Steps p.tables e below (s₁.setTop (mkF m 37 #[.val (.int (6 : Int32))] [(.int (4 : Int32)), (.int (6 : Int32))])) _
      refine XS.icmpYes X0.here hx rfl (pc0 := 37) (pc' := 44) rfl (hb hby d1_37) rfl rfl (by decide) (by decide) ?_
      show Steps p.tables e below (s₁.setTop (mkF m 44 #[.val (.int (6 : Int32))] [])) _
      refine XS.iloadN X0.here hx rfl (hb hby d1_44) rfl ?_
      show Steps p.tables e below (s₁.setTop (mkF m 45 #[.val (.int (6 : Int32))] [(.int (6 : Int32))])) _
      refine XS.iconst X0.here hx rfl (hb hby d1_45) ?_
      show Steps p.tables e below (s₁.setTop (mkF m 46 #[.val (.int (6 : Int32))] [(.int (5 : Int32)), (.int (6 : Int32))])) _
      refine XS.icmpYes X0.here hx rfl (pc0 := 46) (pc' := 53) rfl (hb hby d1_46) rfl rfl (by decide) (by decide) ?_
      show Steps p.tables e below (s₁.setTop (mkF m 53 #[.val (.int (6 : Int32))] [])) _
      refine XS.iloadN X0.here hx rfl (hb hby d1_53) rfl ?_
      show Steps p.tables e below (s₁.setTop (mkF m 54 #[.val (.int (6 : Int32))] [(.int (6 : Int32))])) _
      refine XS.bipush X0.here hx rfl (hb hby d1_54) ?_
      show Steps p.tables e below (s₁.setTop (mkF m 56 #[.val (.int (6 : Int32))] [(.int (6 : Int32)), (.int (6 : Int32))])) _
      refine XS.icmpNo X0.here hx rfl (hb hby d1_56) rfl rfl ?_
      show Steps p.tables e below (s₁.setTop (mkF m 59 #[.val (.int (6 : Int32))] [])) _
      refine X0.ldc2Long hx hown (mvT hZ (hw _ (List.mem_of_getElem? (i := 46) rfl))) (g := (mkF m 59 #[.val (.int (6 : Int32))] [])) rfl (hb hby d1_59) _ ?_
      show Steps p.tables e below (s₁.setTop (mkF m 62 #[.val (.int (6 : Int32))] [(.long (1000000 : Int64))])) _
      exact X0.lreturnOut hx Bd.returns (hb hby d1_62) hr
    · show QP (.long (1000000 : Int64)) h0 n0 _ s₁.heap _
      rw [e0]
      exact ⟨rfl, N0, rfl⟩
  · obtain ⟨fs, hr, hrun, hended, hW, hsame⟩ := X0.leave (v := some (.long (1 : Int64))) (fun h => by rw [Bd.returns] at h; cases h)
    refine ⟨_, _, pre0 _ ?_, hrun, hended, _, _, rfl, ?_, ⟨_, rfl⟩, hW, hsame.mono (by decide) (by decide)⟩
    · show Steps p.tables e below (s₁.setTop (mkF m 0 #[.val (.int (7 : Int32))] [])) _
      refine XS.iloadN X0.here hx rfl (hb hby d1_0) rfl ?_
      show Steps p.tables e below (s₁.setTop (mkF m 1 #[.val (.int (7 : Int32))] [(.int (7 : Int32))])) _
      refine XS.ifYes X0.here hx rfl (pc0 := 1) (pc' := 8) rfl (hb hby d1_1) rfl rfl (by decide) (by decide) ?_
      show Steps p.tables e below (s₁.setTop (mkF m 8 #[.val (.int (7 : Int32))] [])) _
      refine XS.iloadN X0.here hx rfl (hb hby d1_8) rfl ?_
      show Steps p.tables e below (s₁.setTop (mkF m 9 #[.val (.int (7 : Int32))] [(.int (7 : Int32))])) _
      refine XS.iconst X0.here hx rfl (hb hby d1_9) ?_
      show Steps p.tables e below (s₁.setTop (mkF m 10 #[.val (.int (7 : Int32))] [(.int (1 : Int32)), (.int (7 : Int32))])) _
      refine XS.icmpYes X0.here hx rfl (pc0 := 10) (pc' := 17) rfl (hb hby d1_10) rfl rfl (by decide) (by decide) ?_
      show Steps p.tables e below (s₁.setTop (mkF m 17 #[.val (.int (7 : Int32))] [])) _
      refine XS.iloadN X0.here hx rfl (hb hby d1_17) rfl ?_
      show Steps p.tables e below (s₁.setTop (mkF m 18 #[.val (.int (7 : Int32))] [(.int (7 : Int32))])) _
      refine XS.iconst X0.here hx rfl (hb hby d1_18) ?_
      show Steps p.tables e below (s₁.setTop (mkF m 19 #[.val (.int (7 : Int32))] [(.int (2 : Int32)), (.int (7 : Int32))])) _
      refine XS.icmpYes X0.here hx rfl (pc0 := 19) (pc' := 26) rfl (hb hby d1_19) rfl rfl (by decide) (by decide) ?_
      show Steps p.tables e below (s₁.setTop (mkF m 26 #[.val (.int (7 : Int32))] [])) _
      refine XS.iloadN X0.here hx rfl (hb hby d1_26) rfl ?_
      show Steps p.tables e below (s₁.setTop (mkF m 27 #[.val (.int (7 : Int32))] [(.int (7 : Int32))])) _
      refine XS.iconst X0.here hx rfl (hb hby d1_27) ?_
      show Steps p.tables e below (s₁.setTop (mkF m 28 #[.val (.int (7 : Int32))] [(.int (3 : Int32)), (.int (7 : Int32))])) _
      refine XS.icmpYes X0.here hx rfl (pc0 := 28) (pc' := 35) rfl (hb hby d1_28) rfl rfl (by decide) (by decide) ?_
      show Steps p.tables e below (s₁.setTop (mkF m 35 #[.val (.int (7 : Int32))] [])) _
      refine XS.iloadN X0.here hx rfl (hb hby d1_35) rfl ?_
      show Steps p.tables e below (s₁.setTop (mkF m 36 #[.val (.int (7 : Int32))] [(.int (7 : Int32))])) _
      refine XS.iconst X0.here hx rfl (hb hby d1_36) ?_
      show Steps p.tables e below (s₁.setTop (mkF m 37 #[.val (.int (7 : Int32))] [(.int (4 : Int32)), (.int (7 : Int32))])) _
      refine XS.icmpYes X0.here hx rfl (pc0 := 37) (pc' := 44) rfl (hb hby d1_37) rfl rfl (by decide) (by decide) ?_
      show Steps p.tables e below (s₁.setTop (mkF m 44 #[.val (.int (7 : Int32))] [])) _
      refine XS.iloadN X0.here hx rfl (hb hby d1_44) rfl ?_
      show Steps p.tables e below (s₁.setTop (mkF m 45 #[.val (.int (7 : Int32))] [(.int (7 : Int32))])) _
      refine XS.iconst X0.here hx rfl (hb hby d1_45) ?_
      show Steps p.tables e below (s₁.setTop (mkF m 46 #[.val (.int (7 : Int32))] [(.int (5 : Int32)), (.int (7 : Int32))])) _
      refine XS.icmpYes X0.here hx rfl (pc0 := 46) (pc' := 53) rfl (hb hby d1_46) rfl rfl (by decide) (by decide) ?_
      show Steps p.tables e below (s₁.setTop (mkF m 53 #[.val (.int (7 : Int32))] [])) _
      refine XS.iloadN X0.here hx rfl (hb hby d1_53) rfl ?_
      show Steps p.tables e below (s₁.setTop (mkF m 54 #[.val (.int (7 : Int32))] [(.int (7 : Int32))])) _
      refine XS.bipush X0.here hx rfl (hb hby d1_54) ?_
      show Steps p.tables e below (s₁.setTop (mkF m 56 #[.val (.int (7 : Int32))] [(.int (6 : Int32)), (.int (7 : Int32))])) _
      refine XS.icmpYes X0.here hx rfl (pc0 := 56) (pc' := 63) rfl (hb hby d1_56) rfl rfl (by decide) (by decide) ?_
      show Steps p.tables e below (s₁.setTop (mkF m 63 #[.val (.int (7 : Int32))] [])) _
      refine XS.lconst X0.here hx rfl (hb hby d1_63) ?_
      show Steps p.tables e below (s₁.setTop (mkF m 64 #[.val (.int (7 : Int32))] [(.long (1 : Int64))])) _
      exact X0.lreturnOut hx Bd.returns (hb hby d1_64) hr
    · show QP (.long (1 : Int64)) h0 n0 _ s₁.heap _
      rw [e0]
      exact ⟨rfl, N0, rfl⟩
theorem ef_rmRate (m : MethodId) (sel : Int32) : entryFrame m #[(.int sel)] 1 = mkF m 0 #[.val (.int sel)] [] := by first | (simp [entryFrame, mkF, argsToLocals, Value.category]; done) | rfl
set_option maxRecDepth 65536 in
set_option maxHeartbeats 40000000 in
theorem rmRate (l : Launch) (Z : State) (a0 : Array Value) (hw : ∀ d ∈ tables_1, d.before a0 Z = true) (ws : List Jvm.Cond) (sel : Int32) (h0 : Heap) (n0 : Nat) (Z0 : n0 ≤ h0.size) (q : Int64) (rr : Int32) (ht : own_tri sel q rr) :
    MetFree l (⟨"com/example/earnest_load/earnestload/run/ScheduleNextFromPinLaw", "rate", "(I)I"⟩ : MethodName) (head1 (Jvm.Cond.code (⟨"com/example/earnest_load/earnestload/run/ScheduleNextFromPinLaw", "rate", "(I)I"⟩ : MethodName) method_2_code 1 (some .int) :: ws) ({ frames := 0, cells := 0, slots := 0, locals := 0 } : Room)) (fun a_ U_ => a_ = #[(.int sel)] ∧ Z.Warmed39 U_.vm ∧ U_.heap = h0) (fun _ _ _ _ _ => True) (fun _ U_ o_ V_ => ∃ v_ L_, o_ = .returned v_ ∧ QP (.int rr) h0 n0 v_ V_.heap L_ ∧ FrameEnd U_ o_ V_ L_ ({ frames := 0, cells := 0, slots := 0, locals := 0 } : Room).cells ({ frames := 0, cells := 0, slots := 0, locals := 0 } : Room).slots) := by
  refine MetFree.of_bodySF (plainFor_of_name pn_1) hisR ?_
  intro p e s m args below meth c s₁ Bd hml0 hP hK
  obtain ⟨rfl, hZ, hh⟩ := hP
  have hx := Bd.exec
  have hby := Bd.bytes
  have hml : c.maxLocals = 1 := hml0
  have hown : s.vm.findClass "com/example/earnest_load/earnestload/run/ScheduleNextFromPinLaw" = some m.cls := findClass_of_methodNamed Bd.named
  have hnm := (name_of_methodNamed Bd.named Bd.method).1
  have X0 : Stand p l e ({ frames := 0, cells := 0, slots := 0, locals := 0 } : Room) s m #[(.int sel)] below meth c s₁ [] 0 0 := Stand.of_body Bd
  have e0 : s₁.heap = h0 := by rw [← hh, Bd.state]; rfl
  have N0 := Fr.nil n0
  have pre0 : ∀ t, Steps p.tables e below (s₁.setTop (mkF m 0 #[.val (.int sel)] [])) t → Steps p.tables e below (s₁.setTop (entryFrame m #[(.int sel)] 1)) t := fun t_ k_ => castTop (ef_rmRate m sel) k_
  rcases ht with ⟨rfl, rfl, rfl⟩ | ⟨rfl, rfl, rfl⟩ | ⟨rfl, rfl, rfl⟩ | ⟨rfl, rfl, rfl⟩ | ⟨rfl, rfl, rfl⟩ | ⟨rfl, rfl, rfl⟩ | ⟨rfl, rfl, rfl⟩ | ⟨rfl, rfl, rfl⟩
  · obtain ⟨fs, hr, hrun, hended, hW, hsame⟩ := X0.leave (v := some (.int (1 : Int32))) (fun h => by rw [Bd.returns] at h; cases h)
    refine ⟨_, _, pre0 _ ?_, hrun, hended, _, _, rfl, ?_, ⟨_, rfl⟩, hW, hsame.mono (by decide) (by decide)⟩
    · show Steps p.tables e below (s₁.setTop (mkF m 0 #[.val (.int (0 : Int32))] [])) _
      refine XS.iloadN X0.here hx rfl (hb hby d2_0) rfl ?_
      show Steps p.tables e below (s₁.setTop (mkF m 1 #[.val (.int (0 : Int32))] [(.int (0 : Int32))])) _
      refine XS.ifNo X0.here hx rfl (hb hby d2_1) rfl rfl ?_
      show Steps p.tables e below (s₁.setTop (mkF m 4 #[.val (.int (0 : Int32))] [])) _
      refine XS.iconst X0.here hx rfl (hb hby d2_4) ?_
      show Steps p.tables e below (s₁.setTop (mkF m 5 #[.val (.int (0 : Int32))] [(.int (1 : Int32))])) _
      exact Jvm.RoadKit.retI X0 hx Bd.returns (hb hby d2_5) hr
    · show QP (.int (1 : Int32)) h0 n0 _ s₁.heap _
      rw [e0]
      exact ⟨rfl, N0, rfl⟩
  · obtain ⟨fs, hr, hrun, hended, hW, hsame⟩ := X0.leave (v := some (.int (2 : Int32))) (fun h => by rw [Bd.returns] at h; cases h)
    refine ⟨_, _, pre0 _ ?_, hrun, hended, _, _, rfl, ?_, ⟨_, rfl⟩, hW, hsame.mono (by decide) (by decide)⟩
    · show Steps p.tables e below (s₁.setTop (mkF m 0 #[.val (.int (1 : Int32))] [])) _
      refine XS.iloadN X0.here hx rfl (hb hby d2_0) rfl ?_
      show Steps p.tables e below (s₁.setTop (mkF m 1 #[.val (.int (1 : Int32))] [(.int (1 : Int32))])) _
      refine XS.ifYes X0.here hx rfl (pc0 := 1) (pc' := 6) rfl (hb hby d2_1) rfl rfl (by decide) (by decide) ?_
      show Steps p.tables e below (s₁.setTop (mkF m 6 #[.val (.int (1 : Int32))] [])) _
      refine XS.iloadN X0.here hx rfl (hb hby d2_6) rfl ?_
      show Steps p.tables e below (s₁.setTop (mkF m 7 #[.val (.int (1 : Int32))] [(.int (1 : Int32))])) _
      refine XS.iconst X0.here hx rfl (hb hby d2_7) ?_
      show Steps p.tables e below (s₁.setTop (mkF m 8 #[.val (.int (1 : Int32))] [(.int (1 : Int32)), (.int (1 : Int32))])) _
      refine XS.icmpNo X0.here hx rfl (hb hby d2_8) rfl rfl ?_
      show Steps p.tables e below (s₁.setTop (mkF m 11 #[.val (.int (1 : Int32))] [])) _
      refine XS.iconst X0.here hx rfl (hb hby d2_11) ?_
      show Steps p.tables e below (s₁.setTop (mkF m 12 #[.val (.int (1 : Int32))] [(.int (2 : Int32))])) _
      exact Jvm.RoadKit.retI X0 hx Bd.returns (hb hby d2_12) hr
    · show QP (.int (2 : Int32)) h0 n0 _ s₁.heap _
      rw [e0]
      exact ⟨rfl, N0, rfl⟩
  · obtain ⟨fs, hr, hrun, hended, hW, hsame⟩ := X0.leave (v := some (.int (4 : Int32))) (fun h => by rw [Bd.returns] at h; cases h)
    refine ⟨_, _, pre0 _ ?_, hrun, hended, _, _, rfl, ?_, ⟨_, rfl⟩, hW, hsame.mono (by decide) (by decide)⟩
    · show Steps p.tables e below (s₁.setTop (mkF m 0 #[.val (.int (2 : Int32))] [])) _
      refine XS.iloadN X0.here hx rfl (hb hby d2_0) rfl ?_
      show Steps p.tables e below (s₁.setTop (mkF m 1 #[.val (.int (2 : Int32))] [(.int (2 : Int32))])) _
      refine XS.ifYes X0.here hx rfl (pc0 := 1) (pc' := 6) rfl (hb hby d2_1) rfl rfl (by decide) (by decide) ?_
      show Steps p.tables e below (s₁.setTop (mkF m 6 #[.val (.int (2 : Int32))] [])) _
      refine XS.iloadN X0.here hx rfl (hb hby d2_6) rfl ?_
      show Steps p.tables e below (s₁.setTop (mkF m 7 #[.val (.int (2 : Int32))] [(.int (2 : Int32))])) _
      refine XS.iconst X0.here hx rfl (hb hby d2_7) ?_
      show Steps p.tables e below (s₁.setTop (mkF m 8 #[.val (.int (2 : Int32))] [(.int (1 : Int32)), (.int (2 : Int32))])) _
      refine XS.icmpYes X0.here hx rfl (pc0 := 8) (pc' := 13) rfl (hb hby d2_8) rfl rfl (by decide) (by decide) ?_
      show Steps p.tables e below (s₁.setTop (mkF m 13 #[.val (.int (2 : Int32))] [])) _
      refine XS.iloadN X0.here hx rfl (hb hby d2_13) rfl ?_
      show Steps p.tables e below (s₁.setTop (mkF m 14 #[.val (.int (2 : Int32))] [(.int (2 : Int32))])) _
      refine XS.iconst X0.here hx rfl (hb hby d2_14) ?_
      show Steps p.tables e below (s₁.setTop (mkF m 15 #[.val (.int (2 : Int32))] [(.int (2 : Int32)), (.int (2 : Int32))])) _
      refine XS.icmpNo X0.here hx rfl (hb hby d2_15) rfl rfl ?_
      show Steps p.tables e below (s₁.setTop (mkF m 18 #[.val (.int (2 : Int32))] [])) _
      refine XS.iconst X0.here hx rfl (hb hby d2_18) ?_
      show Steps p.tables e below (s₁.setTop (mkF m 19 #[.val (.int (2 : Int32))] [(.int (4 : Int32))])) _
      exact Jvm.RoadKit.retI X0 hx Bd.returns (hb hby d2_19) hr
    · show QP (.int (4 : Int32)) h0 n0 _ s₁.heap _
      rw [e0]
      exact ⟨rfl, N0, rfl⟩
  · obtain ⟨fs, hr, hrun, hended, hW, hsame⟩ := X0.leave (v := some (.int (5 : Int32))) (fun h => by rw [Bd.returns] at h; cases h)
    refine ⟨_, _, pre0 _ ?_, hrun, hended, _, _, rfl, ?_, ⟨_, rfl⟩, hW, hsame.mono (by decide) (by decide)⟩
    · show Steps p.tables e below (s₁.setTop (mkF m 0 #[.val (.int (3 : Int32))] [])) _
      refine XS.iloadN X0.here hx rfl (hb hby d2_0) rfl ?_
      show Steps p.tables e below (s₁.setTop (mkF m 1 #[.val (.int (3 : Int32))] [(.int (3 : Int32))])) _
      refine XS.ifYes X0.here hx rfl (pc0 := 1) (pc' := 6) rfl (hb hby d2_1) rfl rfl (by decide) (by decide) ?_
      show Steps p.tables e below (s₁.setTop (mkF m 6 #[.val (.int (3 : Int32))] [])) _
      refine XS.iloadN X0.here hx rfl (hb hby d2_6) rfl ?_
      show Steps p.tables e below (s₁.setTop (mkF m 7 #[.val (.int (3 : Int32))] [(.int (3 : Int32))])) _
      refine XS.iconst X0.here hx rfl (hb hby d2_7) ?_
      show Steps p.tables e below (s₁.setTop (mkF m 8 #[.val (.int (3 : Int32))] [(.int (1 : Int32)), (.int (3 : Int32))])) _
      refine XS.icmpYes X0.here hx rfl (pc0 := 8) (pc' := 13) rfl (hb hby d2_8) rfl rfl (by decide) (by decide) ?_
      show Steps p.tables e below (s₁.setTop (mkF m 13 #[.val (.int (3 : Int32))] [])) _
      refine XS.iloadN X0.here hx rfl (hb hby d2_13) rfl ?_
      show Steps p.tables e below (s₁.setTop (mkF m 14 #[.val (.int (3 : Int32))] [(.int (3 : Int32))])) _
      refine XS.iconst X0.here hx rfl (hb hby d2_14) ?_
      show Steps p.tables e below (s₁.setTop (mkF m 15 #[.val (.int (3 : Int32))] [(.int (2 : Int32)), (.int (3 : Int32))])) _
      refine XS.icmpYes X0.here hx rfl (pc0 := 15) (pc' := 20) rfl (hb hby d2_15) rfl rfl (by decide) (by decide) ?_
      show Steps p.tables e below (s₁.setTop (mkF m 20 #[.val (.int (3 : Int32))] [])) _
      refine XS.iloadN X0.here hx rfl (hb hby d2_20) rfl ?_
      show Steps p.tables e below (s₁.setTop (mkF m 21 #[.val (.int (3 : Int32))] [(.int (3 : Int32))])) _
      refine XS.iconst X0.here hx rfl (hb hby d2_21) ?_
      show Steps p.tables e below (s₁.setTop (mkF m 22 #[.val (.int (3 : Int32))] [(.int (3 : Int32)), (.int (3 : Int32))])) _
      refine XS.icmpNo X0.here hx rfl (hb hby d2_22) rfl rfl ?_
      show Steps p.tables e below (s₁.setTop (mkF m 25 #[.val (.int (3 : Int32))] [])) _
      refine XS.iconst X0.here hx rfl (hb hby d2_25) ?_
      show Steps p.tables e below (s₁.setTop (mkF m 26 #[.val (.int (3 : Int32))] [(.int (5 : Int32))])) _
      exact Jvm.RoadKit.retI X0 hx Bd.returns (hb hby d2_26) hr
    · show QP (.int (5 : Int32)) h0 n0 _ s₁.heap _
      rw [e0]
      exact ⟨rfl, N0, rfl⟩
  · obtain ⟨fs, hr, hrun, hended, hW, hsame⟩ := X0.leave (v := some (.int (8 : Int32))) (fun h => by rw [Bd.returns] at h; cases h)
    refine ⟨_, _, pre0 _ ?_, hrun, hended, _, _, rfl, ?_, ⟨_, rfl⟩, hW, hsame.mono (by decide) (by decide)⟩
    · show Steps p.tables e below (s₁.setTop (mkF m 0 #[.val (.int (4 : Int32))] [])) _
      refine XS.iloadN X0.here hx rfl (hb hby d2_0) rfl ?_
      show Steps p.tables e below (s₁.setTop (mkF m 1 #[.val (.int (4 : Int32))] [(.int (4 : Int32))])) _
      refine XS.ifYes X0.here hx rfl (pc0 := 1) (pc' := 6) rfl (hb hby d2_1) rfl rfl (by decide) (by decide) ?_
      show Steps p.tables e below (s₁.setTop (mkF m 6 #[.val (.int (4 : Int32))] [])) _
      refine XS.iloadN X0.here hx rfl (hb hby d2_6) rfl ?_
      show Steps p.tables e below (s₁.setTop (mkF m 7 #[.val (.int (4 : Int32))] [(.int (4 : Int32))])) _
      refine XS.iconst X0.here hx rfl (hb hby d2_7) ?_
      show Steps p.tables e below (s₁.setTop (mkF m 8 #[.val (.int (4 : Int32))] [(.int (1 : Int32)), (.int (4 : Int32))])) _
      refine XS.icmpYes X0.here hx rfl (pc0 := 8) (pc' := 13) rfl (hb hby d2_8) rfl rfl (by decide) (by decide) ?_
      show Steps p.tables e below (s₁.setTop (mkF m 13 #[.val (.int (4 : Int32))] [])) _
      refine XS.iloadN X0.here hx rfl (hb hby d2_13) rfl ?_
      show Steps p.tables e below (s₁.setTop (mkF m 14 #[.val (.int (4 : Int32))] [(.int (4 : Int32))])) _
      refine XS.iconst X0.here hx rfl (hb hby d2_14) ?_
      show Steps p.tables e below (s₁.setTop (mkF m 15 #[.val (.int (4 : Int32))] [(.int (2 : Int32)), (.int (4 : Int32))])) _
      refine XS.icmpYes X0.here hx rfl (pc0 := 15) (pc' := 20) rfl (hb hby d2_15) rfl rfl (by decide) (by decide) ?_
      show Steps p.tables e below (s₁.setTop (mkF m 20 #[.val (.int (4 : Int32))] [])) _
      refine XS.iloadN X0.here hx rfl (hb hby d2_20) rfl ?_
      show Steps p.tables e below (s₁.setTop (mkF m 21 #[.val (.int (4 : Int32))] [(.int (4 : Int32))])) _
      refine XS.iconst X0.here hx rfl (hb hby d2_21) ?_
      show Steps p.tables e below (s₁.setTop (mkF m 22 #[.val (.int (4 : Int32))] [(.int (3 : Int32)), (.int (4 : Int32))])) _
      refine XS.icmpYes X0.here hx rfl (pc0 := 22) (pc' := 27) rfl (hb hby d2_22) rfl rfl (by decide) (by decide) ?_
      show Steps p.tables e below (s₁.setTop (mkF m 27 #[.val (.int (4 : Int32))] [])) _
      refine XS.iloadN X0.here hx rfl (hb hby d2_27) rfl ?_
      show Steps p.tables e below (s₁.setTop (mkF m 28 #[.val (.int (4 : Int32))] [(.int (4 : Int32))])) _
      refine XS.iconst X0.here hx rfl (hb hby d2_28) ?_
      show Steps p.tables e below (s₁.setTop (mkF m 29 #[.val (.int (4 : Int32))] [(.int (4 : Int32)), (.int (4 : Int32))])) _
      refine XS.icmpNo X0.here hx rfl (hb hby d2_29) rfl rfl ?_
      show Steps p.tables e below (s₁.setTop (mkF m 32 #[.val (.int (4 : Int32))] [])) _
      refine XS.bipush X0.here hx rfl (hb hby d2_32) ?_
      show Steps p.tables e below (s₁.setTop (mkF m 34 #[.val (.int (4 : Int32))] [(.int (8 : Int32))])) _
      exact Jvm.RoadKit.retI X0 hx Bd.returns (hb hby d2_34) hr
    · show QP (.int (8 : Int32)) h0 n0 _ s₁.heap _
      rw [e0]
      exact ⟨rfl, N0, rfl⟩
  · obtain ⟨fs, hr, hrun, hended, hW, hsame⟩ := X0.leave (v := some (.int (10 : Int32))) (fun h => by rw [Bd.returns] at h; cases h)
    refine ⟨_, _, pre0 _ ?_, hrun, hended, _, _, rfl, ?_, ⟨_, rfl⟩, hW, hsame.mono (by decide) (by decide)⟩
    · show Steps p.tables e below (s₁.setTop (mkF m 0 #[.val (.int (5 : Int32))] [])) _
      refine XS.iloadN X0.here hx rfl (hb hby d2_0) rfl ?_
      show Steps p.tables e below (s₁.setTop (mkF m 1 #[.val (.int (5 : Int32))] [(.int (5 : Int32))])) _
      refine XS.ifYes X0.here hx rfl (pc0 := 1) (pc' := 6) rfl (hb hby d2_1) rfl rfl (by decide) (by decide) ?_
      show Steps p.tables e below (s₁.setTop (mkF m 6 #[.val (.int (5 : Int32))] [])) _
      refine XS.iloadN X0.here hx rfl (hb hby d2_6) rfl ?_
      show Steps p.tables e below (s₁.setTop (mkF m 7 #[.val (.int (5 : Int32))] [(.int (5 : Int32))])) _
      refine XS.iconst X0.here hx rfl (hb hby d2_7) ?_
      show Steps p.tables e below (s₁.setTop (mkF m 8 #[.val (.int (5 : Int32))] [(.int (1 : Int32)), (.int (5 : Int32))])) _
      refine XS.icmpYes X0.here hx rfl (pc0 := 8) (pc' := 13) rfl (hb hby d2_8) rfl rfl (by decide) (by decide) ?_
      show Steps p.tables e below (s₁.setTop (mkF m 13 #[.val (.int (5 : Int32))] [])) _
      refine XS.iloadN X0.here hx rfl (hb hby d2_13) rfl ?_
      show Steps p.tables e below (s₁.setTop (mkF m 14 #[.val (.int (5 : Int32))] [(.int (5 : Int32))])) _
      refine XS.iconst X0.here hx rfl (hb hby d2_14) ?_
      show Steps p.tables e below (s₁.setTop (mkF m 15 #[.val (.int (5 : Int32))] [(.int (2 : Int32)), (.int (5 : Int32))])) _
      refine XS.icmpYes X0.here hx rfl (pc0 := 15) (pc' := 20) rfl (hb hby d2_15) rfl rfl (by decide) (by decide) ?_
      show Steps p.tables e below (s₁.setTop (mkF m 20 #[.val (.int (5 : Int32))] [])) _
      refine XS.iloadN X0.here hx rfl (hb hby d2_20) rfl ?_
      show Steps p.tables e below (s₁.setTop (mkF m 21 #[.val (.int (5 : Int32))] [(.int (5 : Int32))])) _
      refine XS.iconst X0.here hx rfl (hb hby d2_21) ?_
      show Steps p.tables e below (s₁.setTop (mkF m 22 #[.val (.int (5 : Int32))] [(.int (3 : Int32)), (.int (5 : Int32))])) _
      refine XS.icmpYes X0.here hx rfl (pc0 := 22) (pc' := 27) rfl (hb hby d2_22) rfl rfl (by decide) (by decide) ?_
      show Steps p.tables e below (s₁.setTop (mkF m 27 #[.val (.int (5 : Int32))] [])) _
      refine XS.iloadN X0.here hx rfl (hb hby d2_27) rfl ?_
      show Steps p.tables e below (s₁.setTop (mkF m 28 #[.val (.int (5 : Int32))] [(.int (5 : Int32))])) _
      refine XS.iconst X0.here hx rfl (hb hby d2_28) ?_
      show Steps p.tables e below (s₁.setTop (mkF m 29 #[.val (.int (5 : Int32))] [(.int (4 : Int32)), (.int (5 : Int32))])) _
      refine XS.icmpYes X0.here hx rfl (pc0 := 29) (pc' := 35) rfl (hb hby d2_29) rfl rfl (by decide) (by decide) ?_
      show Steps p.tables e below (s₁.setTop (mkF m 35 #[.val (.int (5 : Int32))] [])) _
      refine XS.iloadN X0.here hx rfl (hb hby d2_35) rfl ?_
      show Steps p.tables e below (s₁.setTop (mkF m 36 #[.val (.int (5 : Int32))] [(.int (5 : Int32))])) _
      refine XS.iconst X0.here hx rfl (hb hby d2_36) ?_
      show Steps p.tables e below (s₁.setTop (mkF m 37 #[.val (.int (5 : Int32))] [(.int (5 : Int32)), (.int (5 : Int32))])) _
      refine XS.icmpNo X0.here hx rfl (hb hby d2_37) rfl rfl ?_
      show Steps p.tables e below (s₁.setTop (mkF m 40 #[.val (.int (5 : Int32))] [])) _
      refine XS.bipush X0.here hx rfl (hb hby d2_40) ?_
      show Steps p.tables e below (s₁.setTop (mkF m 42 #[.val (.int (5 : Int32))] [(.int (10 : Int32))])) _
      exact Jvm.RoadKit.retI X0 hx Bd.returns (hb hby d2_42) hr
    · show QP (.int (10 : Int32)) h0 n0 _ s₁.heap _
      rw [e0]
      exact ⟨rfl, N0, rfl⟩
  · obtain ⟨fs, hr, hrun, hended, hW, hsame⟩ := X0.leave (v := some (.int (1000 : Int32))) (fun h => by rw [Bd.returns] at h; cases h)
    refine ⟨_, _, pre0 _ ?_, hrun, hended, _, _, rfl, ?_, ⟨_, rfl⟩, hW, hsame.mono (by decide) (by decide)⟩
    · show Steps p.tables e below (s₁.setTop (mkF m 0 #[.val (.int (6 : Int32))] [])) _
      refine XS.iloadN X0.here hx rfl (hb hby d2_0) rfl ?_
      show Steps p.tables e below (s₁.setTop (mkF m 1 #[.val (.int (6 : Int32))] [(.int (6 : Int32))])) _
      refine XS.ifYes X0.here hx rfl (pc0 := 1) (pc' := 6) rfl (hb hby d2_1) rfl rfl (by decide) (by decide) ?_
      show Steps p.tables e below (s₁.setTop (mkF m 6 #[.val (.int (6 : Int32))] [])) _
      refine XS.iloadN X0.here hx rfl (hb hby d2_6) rfl ?_
      show Steps p.tables e below (s₁.setTop (mkF m 7 #[.val (.int (6 : Int32))] [(.int (6 : Int32))])) _
      refine XS.iconst X0.here hx rfl (hb hby d2_7) ?_
      show Steps p.tables e below (s₁.setTop (mkF m 8 #[.val (.int (6 : Int32))] [(.int (1 : Int32)), (.int (6 : Int32))])) _
      refine XS.icmpYes X0.here hx rfl (pc0 := 8) (pc' := 13) rfl (hb hby d2_8) rfl rfl (by decide) (by decide) ?_
      show Steps p.tables e below (s₁.setTop (mkF m 13 #[.val (.int (6 : Int32))] [])) _
      refine XS.iloadN X0.here hx rfl (hb hby d2_13) rfl ?_
      show Steps p.tables e below (s₁.setTop (mkF m 14 #[.val (.int (6 : Int32))] [(.int (6 : Int32))])) _
      refine XS.iconst X0.here hx rfl (hb hby d2_14) ?_
      show Steps p.tables e below (s₁.setTop (mkF m 15 #[.val (.int (6 : Int32))] [(.int (2 : Int32)), (.int (6 : Int32))])) _
      refine XS.icmpYes X0.here hx rfl (pc0 := 15) (pc' := 20) rfl (hb hby d2_15) rfl rfl (by decide) (by decide) ?_
      show Steps p.tables e below (s₁.setTop (mkF m 20 #[.val (.int (6 : Int32))] [])) _
      refine XS.iloadN X0.here hx rfl (hb hby d2_20) rfl ?_
      show Steps p.tables e below (s₁.setTop (mkF m 21 #[.val (.int (6 : Int32))] [(.int (6 : Int32))])) _
      refine XS.iconst X0.here hx rfl (hb hby d2_21) ?_
      show Steps p.tables e below (s₁.setTop (mkF m 22 #[.val (.int (6 : Int32))] [(.int (3 : Int32)), (.int (6 : Int32))])) _
      refine XS.icmpYes X0.here hx rfl (pc0 := 22) (pc' := 27) rfl (hb hby d2_22) rfl rfl (by decide) (by decide) ?_
      show Steps p.tables e below (s₁.setTop (mkF m 27 #[.val (.int (6 : Int32))] [])) _
      refine XS.iloadN X0.here hx rfl (hb hby d2_27) rfl ?_
      show Steps p.tables e below (s₁.setTop (mkF m 28 #[.val (.int (6 : Int32))] [(.int (6 : Int32))])) _
      refine XS.iconst X0.here hx rfl (hb hby d2_28) ?_
      show Steps p.tables e below (s₁.setTop (mkF m 29 #[.val (.int (6 : Int32))] [(.int (4 : Int32)), (.int (6 : Int32))])) _
      refine XS.icmpYes X0.here hx rfl (pc0 := 29) (pc' := 35) rfl (hb hby d2_29) rfl rfl (by decide) (by decide) ?_
      show Steps p.tables e below (s₁.setTop (mkF m 35 #[.val (.int (6 : Int32))] [])) _
      refine XS.iloadN X0.here hx rfl (hb hby d2_35) rfl ?_
      show Steps p.tables e below (s₁.setTop (mkF m 36 #[.val (.int (6 : Int32))] [(.int (6 : Int32))])) _
      refine XS.iconst X0.here hx rfl (hb hby d2_36) ?_
      show Steps p.tables e below (s₁.setTop (mkF m 37 #[.val (.int (6 : Int32))] [(.int (5 : Int32)), (.int (6 : Int32))])) _
      refine XS.icmpYes X0.here hx rfl (pc0 := 37) (pc' := 43) rfl (hb hby d2_37) rfl rfl (by decide) (by decide) ?_
      show Steps p.tables e below (s₁.setTop (mkF m 43 #[.val (.int (6 : Int32))] [])) _
      refine XS.iloadN X0.here hx rfl (hb hby d2_43) rfl ?_
      show Steps p.tables e below (s₁.setTop (mkF m 44 #[.val (.int (6 : Int32))] [(.int (6 : Int32))])) _
      refine XS.bipush X0.here hx rfl (hb hby d2_44) ?_
      show Steps p.tables e below (s₁.setTop (mkF m 46 #[.val (.int (6 : Int32))] [(.int (6 : Int32)), (.int (6 : Int32))])) _
      refine XS.icmpNo X0.here hx rfl (hb hby d2_46) rfl rfl ?_
      show Steps p.tables e below (s₁.setTop (mkF m 49 #[.val (.int (6 : Int32))] [])) _
      refine XS.sipush X0.here hx rfl (hb hby d2_49) ?_
      show Steps p.tables e below (s₁.setTop (mkF m 52 #[.val (.int (6 : Int32))] [(.int (1000 : Int32))])) _
      exact Jvm.RoadKit.retI X0 hx Bd.returns (hb hby d2_52) hr
    · show QP (.int (1000 : Int32)) h0 n0 _ s₁.heap _
      rw [e0]
      exact ⟨rfl, N0, rfl⟩
  · obtain ⟨fs, hr, hrun, hended, hW, hsame⟩ := X0.leave (v := some (.int (1000000000 : Int32))) (fun h => by rw [Bd.returns] at h; cases h)
    refine ⟨_, _, pre0 _ ?_, hrun, hended, _, _, rfl, ?_, ⟨_, rfl⟩, hW, hsame.mono (by decide) (by decide)⟩
    · show Steps p.tables e below (s₁.setTop (mkF m 0 #[.val (.int (7 : Int32))] [])) _
      refine XS.iloadN X0.here hx rfl (hb hby d2_0) rfl ?_
      show Steps p.tables e below (s₁.setTop (mkF m 1 #[.val (.int (7 : Int32))] [(.int (7 : Int32))])) _
      refine XS.ifYes X0.here hx rfl (pc0 := 1) (pc' := 6) rfl (hb hby d2_1) rfl rfl (by decide) (by decide) ?_
      show Steps p.tables e below (s₁.setTop (mkF m 6 #[.val (.int (7 : Int32))] [])) _
      refine XS.iloadN X0.here hx rfl (hb hby d2_6) rfl ?_
      show Steps p.tables e below (s₁.setTop (mkF m 7 #[.val (.int (7 : Int32))] [(.int (7 : Int32))])) _
      refine XS.iconst X0.here hx rfl (hb hby d2_7) ?_
      show Steps p.tables e below (s₁.setTop (mkF m 8 #[.val (.int (7 : Int32))] [(.int (1 : Int32)), (.int (7 : Int32))])) _
      refine XS.icmpYes X0.here hx rfl (pc0 := 8) (pc' := 13) rfl (hb hby d2_8) rfl rfl (by decide) (by decide) ?_
      show Steps p.tables e below (s₁.setTop (mkF m 13 #[.val (.int (7 : Int32))] [])) _
      refine XS.iloadN X0.here hx rfl (hb hby d2_13) rfl ?_
      show Steps p.tables e below (s₁.setTop (mkF m 14 #[.val (.int (7 : Int32))] [(.int (7 : Int32))])) _
      refine XS.iconst X0.here hx rfl (hb hby d2_14) ?_
      show Steps p.tables e below (s₁.setTop (mkF m 15 #[.val (.int (7 : Int32))] [(.int (2 : Int32)), (.int (7 : Int32))])) _
      refine XS.icmpYes X0.here hx rfl (pc0 := 15) (pc' := 20) rfl (hb hby d2_15) rfl rfl (by decide) (by decide) ?_
      show Steps p.tables e below (s₁.setTop (mkF m 20 #[.val (.int (7 : Int32))] [])) _
      refine XS.iloadN X0.here hx rfl (hb hby d2_20) rfl ?_
      show Steps p.tables e below (s₁.setTop (mkF m 21 #[.val (.int (7 : Int32))] [(.int (7 : Int32))])) _
      refine XS.iconst X0.here hx rfl (hb hby d2_21) ?_
      show Steps p.tables e below (s₁.setTop (mkF m 22 #[.val (.int (7 : Int32))] [(.int (3 : Int32)), (.int (7 : Int32))])) _
      refine XS.icmpYes X0.here hx rfl (pc0 := 22) (pc' := 27) rfl (hb hby d2_22) rfl rfl (by decide) (by decide) ?_
      show Steps p.tables e below (s₁.setTop (mkF m 27 #[.val (.int (7 : Int32))] [])) _
      refine XS.iloadN X0.here hx rfl (hb hby d2_27) rfl ?_
      show Steps p.tables e below (s₁.setTop (mkF m 28 #[.val (.int (7 : Int32))] [(.int (7 : Int32))])) _
      refine XS.iconst X0.here hx rfl (hb hby d2_28) ?_
      show Steps p.tables e below (s₁.setTop (mkF m 29 #[.val (.int (7 : Int32))] [(.int (4 : Int32)), (.int (7 : Int32))])) _
      refine XS.icmpYes X0.here hx rfl (pc0 := 29) (pc' := 35) rfl (hb hby d2_29) rfl rfl (by decide) (by decide) ?_
      show Steps p.tables e below (s₁.setTop (mkF m 35 #[.val (.int (7 : Int32))] [])) _
      refine XS.iloadN X0.here hx rfl (hb hby d2_35) rfl ?_
      show Steps p.tables e below (s₁.setTop (mkF m 36 #[.val (.int (7 : Int32))] [(.int (7 : Int32))])) _
      refine XS.iconst X0.here hx rfl (hb hby d2_36) ?_
      show Steps p.tables e below (s₁.setTop (mkF m 37 #[.val (.int (7 : Int32))] [(.int (5 : Int32)), (.int (7 : Int32))])) _
      refine XS.icmpYes X0.here hx rfl (pc0 := 37) (pc' := 43) rfl (hb hby d2_37) rfl rfl (by decide) (by decide) ?_
      show Steps p.tables e below (s₁.setTop (mkF m 43 #[.val (.int (7 : Int32))] [])) _
      refine XS.iloadN X0.here hx rfl (hb hby d2_43) rfl ?_
      show Steps p.tables e below (s₁.setTop (mkF m 44 #[.val (.int (7 : Int32))] [(.int (7 : Int32))])) _
      refine XS.bipush X0.here hx rfl (hb hby d2_44) ?_
      show Steps p.tables e below (s₁.setTop (mkF m 46 #[.val (.int (7 : Int32))] [(.int (6 : Int32)), (.int (7 : Int32))])) _
      refine XS.icmpYes X0.here hx rfl (pc0 := 46) (pc' := 53) rfl (hb hby d2_46) rfl rfl (by decide) (by decide) ?_
      show Steps p.tables e below (s₁.setTop (mkF m 53 #[.val (.int (7 : Int32))] [])) _
      refine X0.ldcInt hx hown (mvT hZ (hw _ (List.mem_of_getElem? (i := 42) rfl))) (g := (mkF m 53 #[.val (.int (7 : Int32))] [])) rfl (hb hby d2_53) _ ?_
      show Steps p.tables e below (s₁.setTop (mkF m 55 #[.val (.int (7 : Int32))] [(.int (1000000000 : Int32))])) _
      exact Jvm.RoadKit.retI X0 hx Bd.returns (hb hby d2_55) hr
    · show QP (.int (1000000000 : Int32)) h0 n0 _ s₁.heap _
      rw [e0]
      exact ⟨rfl, N0, rfl⟩
theorem ef_rmOff (m : MethodId) (a : Addr) (cnt : Int64) : entryFrame m #[(.ref a), (.long cnt)] 3 = mkF m 0 #[.val (.ref a), .val (.long cnt), .second] [] := by first | (simp [entryFrame, mkF, argsToLocals, Value.category]; done) | rfl
set_option maxRecDepth 65536 in
set_option maxHeartbeats 40000000 in
theorem rmOff (l : Launch) (Z : State) (a0 : Array Value) (hw : ∀ d ∈ tables_1, d.before a0 Z = true) (ws : List Jvm.Cond) (a : Addr) (cnt : Int64) (h0 : Heap) (n0 : Nat) (Z0 : n0 ≤ h0.size) (rt : UInt64) (o : Int64) (Fr0 : Fld Z h0 a "com/example/earnest_load/earnestload/run/Schedule" "rate" "D" (.double rt)) (hn1 : Jvm.Free.Fl.NoNaN64 (FP.dmul (FP.l2d cnt) (4741671816366391296 : UInt64))) (hn2 : Jvm.Free.Fl.NoNaN64 (FP.ddiv (FP.dmul (FP.l2d cnt) (4741671816366391296 : UInt64)) rt)) (hov : FP.d2l (FP.ddiv (FP.dmul (FP.l2d cnt) (4741671816366391296 : UInt64)) rt) = o) :
    MetFree l (⟨"com/example/earnest_load/earnestload/run/Schedule", "offset", "(J)J"⟩ : MethodName) (head1 (Jvm.Cond.code (⟨"com/example/earnest_load/earnestload/run/Schedule", "offset", "(J)J"⟩ : MethodName) prog_10_method_4_code 3 (some .long) :: ws) ({ frames := 0, cells := 0, slots := 0, locals := 0 } : Room)) (fun a_ U_ => a_ = #[(.ref a), (.long cnt)] ∧ Z.Warmed39 U_.vm ∧ U_.heap = h0) (fun _ _ _ _ _ => True) (fun _ U_ o_ V_ => ∃ v_ L_, o_ = .returned v_ ∧ QP (.long o) h0 n0 v_ V_.heap L_ ∧ FrameEnd U_ o_ V_ L_ ({ frames := 0, cells := 0, slots := 0, locals := 0 } : Room).cells ({ frames := 0, cells := 0, slots := 0, locals := 0 } : Room).slots) := by
  refine MetFree.of_bodySF (plainFor_of_name pn_0) hisR ?_
  intro p e s m args below meth c s₁ Bd hml0 hP hK
  obtain ⟨rfl, hZ, hh⟩ := hP
  have hx := Bd.exec
  have hby := Bd.bytes
  have hml : c.maxLocals = 3 := hml0
  have hown : s.vm.findClass "com/example/earnest_load/earnestload/run/Schedule" = some m.cls := findClass_of_methodNamed Bd.named
  have hnm := (name_of_methodNamed Bd.named Bd.method).1
  have X0 : Stand p l e ({ frames := 0, cells := 0, slots := 0, locals := 0 } : Room) s m #[(.ref a), (.long cnt)] below meth c s₁ [] 0 0 := Stand.of_body Bd
  have e0 : s₁.heap = h0 := by rw [← hh, Bd.state]; rfl
  have N0 := Fr.nil n0
  have pre0 : ∀ t, Steps p.tables e below (s₁.setTop (mkF m 0 #[.val (.ref a), .val (.long cnt), .second] [])) t → Steps p.tables e below (s₁.setTop (entryFrame m #[(.ref a), (.long cnt)] 3)) t := fun t_ k_ => castTop (ef_rmOff m a cnt) k_
  obtain ⟨T1, X1, e1, st1⟩ := getF X0 hx hZ hown (host := "") (Or.inl (hw _ (List.mem_of_getElem? (i := 17) rfl))) Via.refl e0 Fr0 (g := (mkF m 7 #[.val (.ref a), .val (.long cnt), .second] [(.ref a), (.double (FP.dmul (FP.l2d cnt) (4741671816366391296 : UInt64)))])) rfl rfl (hb hby d6_7)
  obtain ⟨fs, hr, hrun, hended, hW, hsame⟩ := X1.leave (v := some (.long o)) (fun h => by rw [Bd.returns] at h; cases h)
  refine ⟨_, _, pre0 _ ?_, hrun, hended, _, _, rfl, ?_, ⟨_, rfl⟩, hW, hsame.mono (by decide) (by decide)⟩
  · show Steps p.tables e below (s₁.setTop (mkF m 0 #[.val (.ref a), .val (.long cnt), .second] [])) _
    refine XS.lloadN X0.here hx rfl (hb hby d6_0) rfl ?_
    show Steps p.tables e below (s₁.setTop (mkF m 1 #[.val (.ref a), .val (.long cnt), .second] [(.long cnt)])) _
    refine XS.l2dS X0.here hx rfl (hb hby d6_1) rfl (v := FP.l2d cnt) rfl ?_
    show Steps p.tables e below (s₁.setTop (mkF m 2 #[.val (.ref a), .val (.long cnt), .second] [(.double (FP.l2d cnt))])) _
    refine X0.ldc2DoubleC hx hown (mvT hZ (hw _ (List.mem_of_getElem? (i := 32) rfl))) (g := (mkF m 2 #[.val (.ref a), .val (.long cnt), .second] [(.double (FP.l2d cnt))])) rfl (hb hby d6_2) _ ?_
    show Steps p.tables e below (s₁.setTop (mkF m 5 #[.val (.ref a), .val (.long cnt), .second] [(.double (4741671816366391296 : UInt64)), (.double (FP.l2d cnt))])) _
    refine XS.dmulS X0.here hx rfl (hb hby d6_5) rfl hn1 (v := FP.dmul (FP.l2d cnt) (4741671816366391296 : UInt64)) rfl ?_
    show Steps p.tables e below (s₁.setTop (mkF m 6 #[.val (.ref a), .val (.long cnt), .second] [(.double (FP.dmul (FP.l2d cnt) (4741671816366391296 : UInt64)))])) _
    refine XS.aloadN X0.here hx rfl (hb hby d6_6) rfl rfl ?_
    show Steps p.tables e below (s₁.setTop (mkF m 7 #[.val (.ref a), .val (.long cnt), .second] [(.ref a), (.double (FP.dmul (FP.l2d cnt) (4741671816366391296 : UInt64)))])) _
    refine st1 _ ?_
    show Steps p.tables e below (T1.setTop (mkF m 10 #[.val (.ref a), .val (.long cnt), .second] [(.double rt), (.double (FP.dmul (FP.l2d cnt) (4741671816366391296 : UInt64)))])) _
    refine XS.ddivS X1.here hx rfl (hb hby d6_10) rfl hn2 (v := FP.ddiv (FP.dmul (FP.l2d cnt) (4741671816366391296 : UInt64)) rt) rfl ?_
    show Steps p.tables e below (T1.setTop (mkF m 11 #[.val (.ref a), .val (.long cnt), .second] [(.double (FP.ddiv (FP.dmul (FP.l2d cnt) (4741671816366391296 : UInt64)) rt))])) _
    refine XS.d2lS X1.here hx rfl (hb hby d6_11) rfl (v := o) hov ?_
    show Steps p.tables e below (T1.setTop (mkF m 12 #[.val (.ref a), .val (.long cnt), .second] [(.long o)])) _
    exact X1.lreturnOut hx Bd.returns (hb hby d6_12) hr
  · show QP (.long o) h0 n0 _ T1.heap _
    rw [e1]
    exact ⟨rfl, N0, rfl⟩
def QN (Z : State) (a : Addr) (st cnt o : Int64) (rt : UInt64) (h0 : Heap) (n0 : Nat) (v : Option Value) (h : Heap) (L : List Loc) : Prop := v = some (.long (st + o)) ∧ Fr n0 L ∧ Keep h0 h [a] ∧ Exa Z h a "com/example/earnest_load/earnestload/run/Schedule" ∧ Fld Z h a "com/example/earnest_load/earnestload/run/Schedule" "start" "J" (.long st) ∧ Fld Z h a "com/example/earnest_load/earnestload/run/Schedule" "count" "J" (.long (cnt + (1 : Int64))) ∧ Fld Z h a "com/example/earnest_load/earnestload/run/Schedule" "rate" "D" (.double rt)
theorem ef_rmNext (m : MethodId) (a : Addr) : entryFrame m #[(.ref a)] 1 = mkF m 0 #[.val (.ref a)] [] := by first | (simp [entryFrame, mkF, argsToLocals, Value.category]; done) | rfl
set_option maxRecDepth 65536 in
set_option maxHeartbeats 40000000 in
theorem rmNext (l : Launch) (Z : State) (a0 : Array Value) (hw : ∀ d ∈ tables_1, d.before a0 Z = true) (ws : List Jvm.Cond) (a : Addr) (h0 : Heap) (n0 : Nat) (Z0 : n0 ≤ h0.size) (st cnt o : Int64) (rt : UInt64) (Fs : Fld Z h0 a "com/example/earnest_load/earnestload/run/Schedule" "start" "J" (.long st)) (Fc : Fld Z h0 a "com/example/earnest_load/earnestload/run/Schedule" "count" "J" (.long cnt)) (Fr0 : Fld Z h0 a "com/example/earnest_load/earnestload/run/Schedule" "rate" "D" (.double rt)) (E : Exa Z h0 a "com/example/earnest_load/earnestload/run/Schedule") (ga : n0 ≤ a) (hn1 : Jvm.Free.Fl.NoNaN64 (FP.dmul (FP.l2d cnt) (4741671816366391296 : UInt64))) (hn2 : Jvm.Free.Fl.NoNaN64 (FP.ddiv (FP.dmul (FP.l2d cnt) (4741671816366391296 : UInt64)) rt)) (hov : FP.d2l (FP.ddiv (FP.dmul (FP.l2d cnt) (4741671816366391296 : UInt64)) rt) = o) :
    MetFree l (⟨"com/example/earnest_load/earnestload/run/Schedule", "next", "()J"⟩ : MethodName) (head1 (Jvm.Cond.code (⟨"com/example/earnest_load/earnestload/run/Schedule", "next", "()J"⟩ : MethodName) prog_10_method_2_code 1 (some .long) :: ws) ({ frames := 1, cells := 0, slots := 0, locals := 16 } : Room)) (fun a_ U_ => a_ = #[(.ref a)] ∧ Z.Warmed39 U_.vm ∧ U_.heap = h0) (fun _ _ _ _ _ => True) (fun _ U_ o_ V_ => ∃ v_ L_, o_ = .returned v_ ∧ QN Z a st cnt o rt h0 n0 v_ V_.heap L_ ∧ FrameEnd U_ o_ V_ L_ ({ frames := 1, cells := 0, slots := 0, locals := 16 } : Room).cells ({ frames := 1, cells := 0, slots := 0, locals := 16 } : Room).slots) := by
  refine MetFree.of_bodySF (plainFor_of_name pn_0) hisR ?_
  intro p e s m args below meth c s₁ Bd hml0 hP hK
  obtain ⟨rfl, hZ, hh⟩ := hP
  have hx := Bd.exec
  have hby := Bd.bytes
  have hml : c.maxLocals = 1 := hml0
  have hown : s.vm.findClass "com/example/earnest_load/earnestload/run/Schedule" = some m.cls := findClass_of_methodNamed Bd.named
  have hnm := (name_of_methodNamed Bd.named Bd.method).1
  have X0 : Stand p l e ({ frames := 1, cells := 0, slots := 0, locals := 16 } : Room) s m #[(.ref a)] below meth c s₁ [] 0 0 := Stand.of_body Bd
  have e0 : s₁.heap = h0 := by rw [← hh, Bd.state]; rfl
  have N0 := Fr.nil n0
  have pre0 : ∀ t, Steps p.tables e below (s₁.setTop (mkF m 0 #[.val (.ref a)] [])) t → Steps p.tables e below (s₁.setTop (entryFrame m #[(.ref a)] 1)) t := fun t_ k_ => castTop (ef_rmNext m a) k_
  obtain ⟨T1, X1, e1, st1⟩ := getF X0 hx hZ hown (host := "") (Or.inl (hw _ (List.mem_of_getElem? (i := 19) rfl))) Via.refl e0 Fs (g := (mkF m 1 #[.val (.ref a)] [(.ref a)])) rfl rfl (hb hby d5_1)
  obtain ⟨T2, X2, e2, st2⟩ := getF X1 hx hZ hown (host := "") (Or.inl (hw _ (List.mem_of_getElem? (i := 26) rfl))) Via.refl e1 Fc (g := (mkF m 7 #[.val (.ref a)] [(.ref a), (.ref a), (.ref a), (.long st)])) rfl rfl (hb hby d5_7)
  obtain ⟨T3, h3, X3, e3, W3, st3⟩ := putF X2 hx hZ hown (host := "") (Or.inl (hw _ (List.mem_of_getElem? (i := 26) rfl))) Via.refl e2 Fc E (Or.inl (hw _ (List.mem_of_getElem? (i := 27) rfl))) (hw _ (List.mem_of_getElem? (i := 6) rfl)) (ty := .long) (by decide) rfl rfl (g := (mkF m 13 #[.val (.ref a)] [(.long (cnt + (1 : Int64))), (.ref a), (.long cnt), (.ref a), (.long st)])) rfl rfl (hb hby d5_13)
  have F1 : Fld Z h3 a "com/example/earnest_load/earnestload/run/Schedule" "count" "J" (.long (cnt + (1 : Int64))) := Fc.same W3
  have F2 : Fld Z h3 a "com/example/earnest_load/earnestload/run/Schedule" "start" "J" (.long st) := Fs.other W3 (Or.inr (slot_ne (Or.inl (hw _ (List.mem_of_getElem? (i := 20) rfl))) (Or.inl (hw _ (List.mem_of_getElem? (i := 27) rfl))) (by decide) (t := .long) (t' := .long) (by decide) (by decide)))
  have F3 : Fld Z h3 a "com/example/earnest_load/earnestload/run/Schedule" "rate" "D" (.double rt) := Fr0.other W3 (Or.inr (slot_ne (Or.inr (hw _ (List.mem_of_getElem? (i := 18) rfl))) (Or.inl (hw _ (List.mem_of_getElem? (i := 27) rfl))) (by decide) (t := .double) (t' := .long) (by decide) (by decide)))
  have K3 : Keep h0 h3 [a] := (Keep.refl h0 [a]).wr W3 (Or.inl (List.mem_of_getElem? (i := 0) rfl))
  have N3 := Fr.snoc X3 N0 ga
  have Z3 : n0 ≤ h3.size := Nat.le_trans Z0 K3.1
  have hselP : (Cond.selects "com/example/earnest_load/earnestload/run/Schedule" (⟨"com/example/earnest_load/earnestload/run/Schedule", "offset", "(J)J"⟩ : MethodName) (⟨"com/example/earnest_load/earnestload/run/Schedule", "offset", "(J)J"⟩ : MethodName)).before #[(.ref a)] s = true := by
    obtain ⟨c2, r2, m2, q1, -, q3, -, kP, hkP, hkPi⟩ := Cond.selects_spec (mvT hZ (hw _ (List.mem_of_getElem? (i := 24) rfl)) (args := #[(.ref a)]))
    exact Stand.selects_self_of_private (y := (⟨"com/example/earnest_load/earnestload/run/Schedule", "offset", "(J)J"⟩ : MethodName)) (show s.vm.findClass "com/example/earnest_load/earnestload/run/Schedule" = some _ from findClass_of_methodNamed q3) hkP hkPi (Cond.privateMethod_at (mvP hZ (hw _ (List.mem_of_getElem? (i := 30) rfl)) (args := #[]))) (mvT hZ (hw _ (List.mem_of_getElem? (i := 29) rfl))) (by decide)
  obtain ⟨cq4, q4, q4'⟩ := (E.wr W3).cell
  obtain ⟨_, _, ⟨T4, L4, k4, n4⟩, -, X4, ⟨Lc4, hQ4, l4, y4, z4⟩, st4⟩ := X3.privateBack hx (y := (⟨"com/example/earnest_load/earnestload/run/Schedule", "offset", "(J)J"⟩ : MethodName)) hown (mvT hZ (hw _ (List.mem_of_getElem? (i := 28) rfl))) (mvT hZ (hw _ (List.mem_of_getElem? (i := 29) rfl))) hselP (Cond.privateMethod_at (mvP hZ (hw _ (List.mem_of_getElem? (i := 30) rfl)) (args := #[]))) (mvT hZ (hw _ (List.mem_of_getElem? (i := 31) rfl))) (by decide) (backOf (W := 2) (rmOff l Z a0 hw [] a cnt h3 n0 Z3 rt o F3 hn1 hn2 hov) hZ (hw _ (List.mem_of_getElem? (i := 31) rfl)) (hw _ (List.mem_of_getElem? (i := 7) rfl)) (by decide) (by decide)) (g := (mkF m 16 #[.val (.ref a)] [(.long cnt), (.ref a), (.long st)])) rfl (by rw [hml]; rfl) (Steps.refl _) (a := a) (by rw [e3]; exact q4) q4' (argsL := [(.long cnt)]) (rest := [(.long st)]) (lenOf pd_0 rfl) rfl (by show 2 * 0 + _ ≤ _; exact Nat.le_of_eq rfl) (hb hby d5_16) (fun _ _ => ⟨rfl, e3, (by decide : 0 + 0 ≤ _), (by decide : 0 + 0 ≤ _)⟩)
  dsimp only [Pt.U, Pt.locs, Pt.cells, Pt.slots] at X4 l4 y4 z4 st4 hQ4
  subst l4 y4 z4
  obtain ⟨rfl, N4, e4⟩ := hQ4
  obtain ⟨fs, hr, hrun, hended, hW, hsame⟩ := X4.leave (v := some (.long (st + o))) (fun h => by rw [Bd.returns] at h; cases h)
  refine ⟨_, _, pre0 _ ?_, hrun, hended, _, _, rfl, ?_, ⟨_, rfl⟩, hW, hsame.mono (by decide) (by decide)⟩
  · show Steps p.tables e below (s₁.setTop (mkF m 0 #[.val (.ref a)] [])) _
    refine XS.aloadN X0.here hx rfl (hb hby d5_0) rfl rfl ?_
    show Steps p.tables e below (s₁.setTop (mkF m 1 #[.val (.ref a)] [(.ref a)])) _
    refine st1 _ ?_
    show Steps p.tables e below (T1.setTop (mkF m 4 #[.val (.ref a)] [(.long st)])) _
    refine XS.aloadN X1.here hx rfl (hb hby d5_4) rfl rfl ?_
    show Steps p.tables e below (T1.setTop (mkF m 5 #[.val (.ref a)] [(.ref a), (.long st)])) _
    refine XS.aloadN X1.here hx rfl (hb hby d5_5) rfl rfl ?_
    show Steps p.tables e below (T1.setTop (mkF m 6 #[.val (.ref a)] [(.ref a), (.ref a), (.long st)])) _
    refine XS.dup X1.here hx rfl (hb hby d5_6) rfl rfl ?_
    show Steps p.tables e below (T1.setTop (mkF m 7 #[.val (.ref a)] [(.ref a), (.ref a), (.ref a), (.long st)])) _
    refine st2 _ ?_
    show Steps p.tables e below (T2.setTop (mkF m 10 #[.val (.ref a)] [(.long cnt), (.ref a), (.ref a), (.long st)])) _
    refine Jvm.Own.dup2X1 X2.here hx rfl (hb hby d5_10) rfl rfl ?_
    show Steps p.tables e below (T2.setTop (mkF m 11 #[.val (.ref a)] [(.long cnt), (.ref a), (.long cnt), (.ref a), (.long st)])) _
    refine XS.lconst X2.here hx rfl (hb hby d5_11) ?_
    show Steps p.tables e below (T2.setTop (mkF m 12 #[.val (.ref a)] [(.long (1 : Int64)), (.long cnt), (.ref a), (.long cnt), (.ref a), (.long st)])) _
    refine XS.ladd X2.here hx rfl (hb hby d5_12) rfl ?_
    show Steps p.tables e below (T2.setTop (mkF m 13 #[.val (.ref a)] [(.long (cnt + (1 : Int64))), (.ref a), (.long cnt), (.ref a), (.long st)])) _
    refine st3 _ ?_
    show Steps p.tables e below (T3.setTop (mkF m 16 #[.val (.ref a)] [(.long cnt), (.ref a), (.long st)])) _
    refine st4.trans ?_
    show Steps p.tables e below (T4.setTop (mkF m 19 #[.val (.ref a)] [(.long o), (.long st)])) _
    refine XS.ladd X4.here hx rfl (hb hby d5_19) rfl ?_
    show Steps p.tables e below (T4.setTop (mkF m 20 #[.val (.ref a)] [(.long (st + o))])) _
    exact X4.lreturnOut hx Bd.returns (hb hby d5_20) hr
  · show QN Z a st cnt o rt h0 n0 _ T4.heap _
    rw [e4]
    exact ⟨rfl, Fr.app N3 N4, K3, E.wr W3, F2, F1, F3⟩
def QI (Z : State) (a : Addr) (r : UInt64) (st : Int64) (h0 : Heap) (n0 : Nat) (v : Option Value) (h : Heap) (L : List Loc) : Prop := v = none ∧ Fr n0 L ∧ Keep h0 h [a] ∧ Exa Z h a "com/example/earnest_load/earnestload/run/Schedule" ∧ Fld Z h a "com/example/earnest_load/earnestload/run/Schedule" "start" "J" (.long st) ∧ Fld Z h a "com/example/earnest_load/earnestload/run/Schedule" "count" "J" (.long 0) ∧ Fld Z h a "com/example/earnest_load/earnestload/run/Schedule" "rate" "D" (.double r)
theorem ef_rmInit (m : MethodId) (a : Addr) (r : UInt64) (st : Int64) : entryFrame m #[(.ref a), (.double r), (.long st)] 5 = mkF m 0 #[.val (.ref a), .val (.double r), .second, .val (.long st), .second] [] := by first | (simp [entryFrame, mkF, argsToLocals, Value.category]; done) | rfl
set_option maxRecDepth 65536 in
set_option maxHeartbeats 40000000 in
theorem rmInit (l : Launch) (Z : State) (a0 : Array Value) (hw : ∀ d ∈ tables_1, d.before a0 Z = true) (ws : List Jvm.Cond) (a : Addr) (r : UInt64) (st : Int64) (h0 : Heap) (n0 : Nat) (Z0 : n0 ≤ h0.size) (E : Exa Z h0 a "com/example/earnest_load/earnestload/run/Schedule") (ga : n0 ≤ a) (Fs : Fld Z h0 a "com/example/earnest_load/earnestload/run/Schedule" "start" "J" (.long 0)) (Fc : Fld Z h0 a "com/example/earnest_load/earnestload/run/Schedule" "count" "J" (.long 0)) (Fr0 : Fld Z h0 a "com/example/earnest_load/earnestload/run/Schedule" "rate" "D" (.double 0)) :
    MetFree l (⟨"com/example/earnest_load/earnestload/run/Schedule", "<init>", "(DJ)V"⟩ : MethodName) (head1 (Jvm.Cond.code (⟨"com/example/earnest_load/earnestload/run/Schedule", "<init>", "(DJ)V"⟩ : MethodName) prog_10_method_1_code 5 none :: ws) ({ frames := 1, cells := 0, slots := 0, locals := 12 } : Room)) (fun a_ U_ => a_ = #[(.ref a), (.double r), (.long st)] ∧ Z.Warmed39 U_.vm ∧ U_.heap = h0) (fun _ _ _ _ _ => True) (fun _ U_ o_ V_ => ∃ v_ L_, o_ = .returned v_ ∧ QI Z a r st h0 n0 v_ V_.heap L_ ∧ FrameEnd U_ o_ V_ L_ ({ frames := 1, cells := 0, slots := 0, locals := 12 } : Room).cells ({ frames := 1, cells := 0, slots := 0, locals := 12 } : Room).slots) := by
  refine MetFree.of_bodySF (plainFor_of_name pn_0) hisR ?_
  intro p e s m args below meth c s₁ Bd hml0 hP hK
  obtain ⟨rfl, hZ, hh⟩ := hP
  have hx := Bd.exec
  have hby := Bd.bytes
  have hml : c.maxLocals = 5 := hml0
  have hown : s.vm.findClass "com/example/earnest_load/earnestload/run/Schedule" = some m.cls := findClass_of_methodNamed Bd.named
  have hnm := (name_of_methodNamed Bd.named Bd.method).1
  have X0 : Stand p l e ({ frames := 1, cells := 0, slots := 0, locals := 12 } : Room) s m #[(.ref a), (.double r), (.long st)] below meth c s₁ [] 0 0 := Stand.of_body Bd
  have e0 : s₁.heap = h0 := by rw [← hh, Bd.state]; rfl
  have N0 := Fr.nil n0
  have pre0 : ∀ t, Steps p.tables e below (s₁.setTop (mkF m 0 #[.val (.ref a), .val (.double r), .second, .val (.long st), .second] [])) t → Steps p.tables e below (s₁.setTop (entryFrame m #[(.ref a), (.double r), (.long st)] 5)) t := fun t_ k_ => castTop (ef_rmInit m a r st) k_
  obtain ⟨T1, X1, e1, st1⟩ := initO X0 hx hZ hown (hw _ (List.mem_of_getElem? (i := 14) rfl)) (hw _ (List.mem_of_getElem? (i := 15) rfl)) (hw _ (List.mem_of_getElem? (i := 16) rfl)) e0 (g := (mkF m 1 #[.val (.ref a), .val (.double r), .second, .val (.long st), .second] [(.ref a)])) rfl (by rw [hml]; rfl) rfl (hb hby d3_1) (by decide) (W := 0) (by show 2 * 0 + _ ≤ _; exact Nat.le_of_eq rfl) (by decide)
  obtain ⟨T2, h2, X2, e2, W2, st2⟩ := putF X1 hx hZ hown (host := "") (Or.inl (hw _ (List.mem_of_getElem? (i := 17) rfl))) Via.refl e1 Fr0 E (Or.inr ⟨(hw _ (List.mem_of_getElem? (i := 18) rfl)), rfl, hnm⟩) (hw _ (List.mem_of_getElem? (i := 6) rfl)) (ty := .double) (by decide) rfl rfl (g := (mkF m 6 #[.val (.ref a), .val (.double r), .second, .val (.long st), .second] [(.double r), (.ref a)])) rfl rfl (hb hby d3_6)
  have Fs2 : Fld Z h2 a "com/example/earnest_load/earnestload/run/Schedule" "start" "J" (.long 0) := Fs.other W2 (Or.inr (slot_ne (Or.inl (hw _ (List.mem_of_getElem? (i := 20) rfl))) (Or.inr (hw _ (List.mem_of_getElem? (i := 18) rfl))) (by decide) (t := .long) (t' := .double) (by decide) (by decide)))
  obtain ⟨T3, h3, X3, e3, W3, st3⟩ := putF X2 hx hZ hown (host := "") (Or.inl (hw _ (List.mem_of_getElem? (i := 19) rfl))) Via.refl e2 Fs2 (E.wr W2) (Or.inl (hw _ (List.mem_of_getElem? (i := 20) rfl))) (hw _ (List.mem_of_getElem? (i := 6) rfl)) (ty := .long) (by decide) rfl rfl (g := (mkF m 11 #[.val (.ref a), .val (.double r), .second, .val (.long st), .second] [(.long st), (.ref a)])) rfl rfl (hb hby d3_11)
  have K3 : Keep h0 h3 [a] := ((Keep.refl h0 [a]).wr W2 (Or.inl (List.mem_of_getElem? (i := 0) rfl))).wr W3 (Or.inl (List.mem_of_getElem? (i := 0) rfl))
  have N3 := Fr.snoc X3 (Fr.snoc X2 N0 ga) ga
  have F1 : Fld Z h3 a "com/example/earnest_load/earnestload/run/Schedule" "start" "J" (.long st) := Fs2.same W3
  have F2 : Fld Z h3 a "com/example/earnest_load/earnestload/run/Schedule" "count" "J" (.long 0) := (Fc.other W2 (Or.inr (slot_ne (Or.inl (hw _ (List.mem_of_getElem? (i := 27) rfl))) (Or.inr (hw _ (List.mem_of_getElem? (i := 18) rfl))) (by decide) (t := .long) (t' := .double) (by decide) (by decide)))).other W3 (Or.inr (slot_ne (Or.inl (hw _ (List.mem_of_getElem? (i := 27) rfl))) (Or.inl (hw _ (List.mem_of_getElem? (i := 20) rfl))) (by decide) (t := .long) (t' := .long) (by decide) (by decide)))
  have F3 : Fld Z h3 a "com/example/earnest_load/earnestload/run/Schedule" "rate" "D" (.double r) := (Fr0.same W2).other W3 (Or.inr (slot_ne (Or.inr (hw _ (List.mem_of_getElem? (i := 18) rfl))) (Or.inl (hw _ (List.mem_of_getElem? (i := 20) rfl))) (by decide) (t := .double) (t' := .long) (by decide) (by decide)))
  obtain ⟨fs, hr, hrun, hended, hW, hsame⟩ := X3.leave (v := none) (fun _ => rfl)
  refine ⟨_, _, pre0 _ ?_, hrun, hended, _, _, rfl, ?_, ⟨_, rfl⟩, hW, hsame.mono (by decide) (by decide)⟩
  · show Steps p.tables e below (s₁.setTop (mkF m 0 #[.val (.ref a), .val (.double r), .second, .val (.long st), .second] [])) _
    refine XS.aloadN X0.here hx rfl (hb hby d3_0) rfl rfl ?_
    show Steps p.tables e below (s₁.setTop (mkF m 1 #[.val (.ref a), .val (.double r), .second, .val (.long st), .second] [(.ref a)])) _
    refine st1 _ ?_
    show Steps p.tables e below (T1.setTop (mkF m 4 #[.val (.ref a), .val (.double r), .second, .val (.long st), .second] [])) _
    refine XS.aloadN X1.here hx rfl (hb hby d3_4) rfl rfl ?_
    show Steps p.tables e below (T1.setTop (mkF m 5 #[.val (.ref a), .val (.double r), .second, .val (.long st), .second] [(.ref a)])) _
    refine XS.dloadN X1.here hx rfl (hb hby d3_5) rfl ?_
    show Steps p.tables e below (T1.setTop (mkF m 6 #[.val (.ref a), .val (.double r), .second, .val (.long st), .second] [(.double r), (.ref a)])) _
    refine st2 _ ?_
    show Steps p.tables e below (T2.setTop (mkF m 9 #[.val (.ref a), .val (.double r), .second, .val (.long st), .second] [])) _
    refine XS.aloadN X2.here hx rfl (hb hby d3_9) rfl rfl ?_
    show Steps p.tables e below (T2.setTop (mkF m 10 #[.val (.ref a), .val (.double r), .second, .val (.long st), .second] [(.ref a)])) _
    refine XS.lloadN X2.here hx rfl (hb hby d3_10) rfl ?_
    show Steps p.tables e below (T2.setTop (mkF m 11 #[.val (.ref a), .val (.double r), .second, .val (.long st), .second] [(.long st), (.ref a)])) _
    refine st3 _ ?_
    show Steps p.tables e below (T3.setTop (mkF m 14 #[.val (.ref a), .val (.double r), .second, .val (.long st), .second] [])) _
    exact X3.returnOut hx Bd.returns (hb hby d3_14) hr
  · show QI Z a r st h0 n0 _ T3.heap _
    rw [e3]
    exact ⟨rfl, N3, K3, (E.wr W2).wr W3, F1, F2, F3⟩
def QF (Z : State) (a : Addr) (st cnt : Int64) (rt : UInt64) (res : Int64) (h0 : Heap) (n0 : Nat) (v : Option Value) (h : Heap) (L : List Loc) : Prop := v = some (.long res) ∧ Fr n0 L ∧ Keep h0 h [a] ∧ Exa Z h a "com/example/earnest_load/earnestload/run/Schedule" ∧ Fld Z h a "com/example/earnest_load/earnestload/run/Schedule" "start" "J" (.long st) ∧ Fld Z h a "com/example/earnest_load/earnestload/run/Schedule" "count" "J" (.long cnt) ∧ Fld Z h a "com/example/earnest_load/earnestload/run/Schedule" "rate" "D" (.double rt)
theorem ef_rmFromL (m : MethodId) (a : Addr) (arr : Int64) : entryFrame m #[(.ref a), (.long arr)] 3 = mkF m 0 #[.val (.ref a), .val (.long arr), .second] [] := by first | (simp [entryFrame, mkF, argsToLocals, Value.category]; done) | rfl
set_option maxRecDepth 65536 in
set_option maxHeartbeats 40000000 in
theorem rmFromL (l : Launch) (Z : State) (a0 : Array Value) (hw : ∀ d ∈ tables_1, d.before a0 Z = true) (ws : List Jvm.Cond) (a : Addr) (arr : Int64) (h0 : Heap) (n0 : Nat) (Z0 : n0 ≤ h0.size) (st cnt o : Int64) (rt : UInt64) (Fs : Fld Z h0 a "com/example/earnest_load/earnestload/run/Schedule" "start" "J" (.long st)) (Fc : Fld Z h0 a "com/example/earnest_load/earnestload/run/Schedule" "count" "J" (.long cnt)) (Fr0 : Fld Z h0 a "com/example/earnest_load/earnestload/run/Schedule" "rate" "D" (.double rt)) (E : Exa Z h0 a "com/example/earnest_load/earnestload/run/Schedule") (ga : n0 ≤ a) (hn1 : Jvm.Free.Fl.NoNaN64 (FP.dmul (FP.l2d cnt) (4741671816366391296 : UInt64))) (hn2 : Jvm.Free.Fl.NoNaN64 (FP.ddiv (FP.dmul (FP.l2d cnt) (4741671816366391296 : UInt64)) rt)) (hov : FP.d2l (FP.ddiv (FP.dmul (FP.l2d cnt) (4741671816366391296 : UInt64)) rt) = o) (hz1 : Jvm.Free.Fl.NoNaN64 (FP.dmul (FP.l2d 0) (4741671816366391296 : UInt64))) (hz2 : Jvm.Free.Fl.NoNaN64 (FP.ddiv (FP.dmul (FP.l2d 0) (4741671816366391296 : UInt64)) rt)) (hz3 : FP.d2l (FP.ddiv (FP.dmul (FP.l2d 0) (4741671816366391296 : UInt64)) rt) = 0) (hc : o.toInt < (arr - st).toInt) :
    MetFree l (⟨"com/example/earnest_load/earnestload/run/Schedule", "nextFrom", "(J)J"⟩ : MethodName) (head1 (Jvm.Cond.code (⟨"com/example/earnest_load/earnestload/run/Schedule", "nextFrom", "(J)J"⟩ : MethodName) prog_10_method_3_code 3 (some .long) :: ws) ({ frames := 2, cells := 0, slots := 0, locals := 28 } : Room)) (fun a_ U_ => a_ = #[(.ref a), (.long arr)] ∧ Z.Warmed39 U_.vm ∧ U_.heap = h0) (fun _ _ _ _ _ => True) (fun _ U_ o_ V_ => ∃ v_ L_, o_ = .returned v_ ∧ QF Z a arr (0 + (1 : Int64)) rt (arr + 0) h0 n0 v_ V_.heap L_ ∧ FrameEnd U_ o_ V_ L_ ({ frames := 2, cells := 0, slots := 0, locals := 28 } : Room).cells ({ frames := 2, cells := 0, slots := 0, locals := 28 } : Room).slots) := by
  refine MetFree.of_bodySF (plainFor_of_name pn_0) hisR ?_
  intro p e s m args below meth c s₁ Bd hml0 hP hK
  obtain ⟨rfl, hZ, hh⟩ := hP
  have hx := Bd.exec
  have hby := Bd.bytes
  have hml : c.maxLocals = 3 := hml0
  have hown : s.vm.findClass "com/example/earnest_load/earnestload/run/Schedule" = some m.cls := findClass_of_methodNamed Bd.named
  have hnm := (name_of_methodNamed Bd.named Bd.method).1
  have X0 : Stand p l e ({ frames := 2, cells := 0, slots := 0, locals := 28 } : Room) s m #[(.ref a), (.long arr)] below meth c s₁ [] 0 0 := Stand.of_body Bd
  have e0 : s₁.heap = h0 := by rw [← hh, Bd.state]; rfl
  have N0 := Fr.nil n0
  have pre0 : ∀ t, Steps p.tables e below (s₁.setTop (mkF m 0 #[.val (.ref a), .val (.long arr), .second] [])) t → Steps p.tables e below (s₁.setTop (entryFrame m #[(.ref a), (.long arr)] 3)) t := fun t_ k_ => castTop (ef_rmFromL m a arr) k_
  obtain ⟨T1, X1, e1, st1⟩ := getF X0 hx hZ hown (host := "") (Or.inl (hw _ (List.mem_of_getElem? (i := 19) rfl))) Via.refl e0 Fs (g := (mkF m 2 #[.val (.ref a), .val (.long arr), .second] [(.ref a), (.long arr)])) rfl rfl (hb hby d7_2)
  obtain ⟨T2, X2, e2, st2⟩ := getF X1 hx hZ hown (host := "") (Or.inl (hw _ (List.mem_of_getElem? (i := 26) rfl))) Via.refl e1 Fc (g := (mkF m 8 #[.val (.ref a), .val (.long arr), .second] [(.ref a), (.ref a), (.long (arr - st))])) rfl rfl (hb hby d7_8)
  have hselP : (Cond.selects "com/example/earnest_load/earnestload/run/Schedule" (⟨"com/example/earnest_load/earnestload/run/Schedule", "offset", "(J)J"⟩ : MethodName) (⟨"com/example/earnest_load/earnestload/run/Schedule", "offset", "(J)J"⟩ : MethodName)).before #[(.ref a), (.long arr)] s = true := by
    obtain ⟨c2, r2, m2, q1, -, q3, -, kP, hkP, hkPi⟩ := Cond.selects_spec (mvT hZ (hw _ (List.mem_of_getElem? (i := 24) rfl)) (args := #[(.ref a), (.long arr)]))
    exact Stand.selects_self_of_private (y := (⟨"com/example/earnest_load/earnestload/run/Schedule", "offset", "(J)J"⟩ : MethodName)) (show s.vm.findClass "com/example/earnest_load/earnestload/run/Schedule" = some _ from findClass_of_methodNamed q3) hkP hkPi (Cond.privateMethod_at (mvP hZ (hw _ (List.mem_of_getElem? (i := 30) rfl)) (args := #[]))) (mvT hZ (hw _ (List.mem_of_getElem? (i := 29) rfl))) (by decide)
  obtain ⟨cq3, q3, q3'⟩ := (E).cell
  obtain ⟨_, _, ⟨T3, L3, k3, n3⟩, -, X3, ⟨Lc3, hQ3, l3, y3, z3⟩, st3⟩ := X2.privateBack hx (y := (⟨"com/example/earnest_load/earnestload/run/Schedule", "offset", "(J)J"⟩ : MethodName)) hown (mvT hZ (hw _ (List.mem_of_getElem? (i := 28) rfl))) (mvT hZ (hw _ (List.mem_of_getElem? (i := 29) rfl))) hselP (Cond.privateMethod_at (mvP hZ (hw _ (List.mem_of_getElem? (i := 30) rfl)) (args := #[]))) (mvT hZ (hw _ (List.mem_of_getElem? (i := 31) rfl))) (by decide) (backOf (W := 2) (rmOff l Z a0 hw [] a cnt h0 n0 Z0 rt o Fr0 hn1 hn2 hov) hZ (hw _ (List.mem_of_getElem? (i := 31) rfl)) (hw _ (List.mem_of_getElem? (i := 7) rfl)) (by decide) (by decide)) (g := (mkF m 11 #[.val (.ref a), .val (.long arr), .second] [(.long cnt), (.ref a), (.long (arr - st))])) rfl (by rw [hml]; rfl) (Steps.refl _) (a := a) (by rw [e2]; exact q3) q3' (argsL := [(.long cnt)]) (rest := [(.long (arr - st))]) (lenOf pd_0 rfl) rfl (by show 2 * 0 + _ ≤ _; exact Nat.le_of_eq rfl) (hb hby d7_11) (fun _ _ => ⟨rfl, e2, (by decide : 0 + 0 ≤ _), (by decide : 0 + 0 ≤ _)⟩)
  dsimp only [Pt.U, Pt.locs, Pt.cells, Pt.slots] at X3 l3 y3 z3 st3 hQ3
  subst l3 y3 z3
  obtain ⟨rfl, N3, e3⟩ := hQ3
  obtain ⟨T4, h4, X4, e4, W4, st4⟩ := putF X3 hx hZ hown (host := "") (Or.inl (hw _ (List.mem_of_getElem? (i := 19) rfl))) Via.refl e3 Fs E (Or.inl (hw _ (List.mem_of_getElem? (i := 20) rfl))) (hw _ (List.mem_of_getElem? (i := 6) rfl)) (ty := .long) (by decide) rfl rfl (g := (mkF m 20 #[.val (.ref a), .val (.long arr), .second] [(.long arr), (.ref a)])) rfl rfl (hb hby d7_20)
  have Fc4 : Fld Z h4 a "com/example/earnest_load/earnestload/run/Schedule" "count" "J" (.long cnt) := Fc.other W4 (Or.inr (slot_ne (Or.inl (hw _ (List.mem_of_getElem? (i := 27) rfl))) (Or.inl (hw _ (List.mem_of_getElem? (i := 20) rfl))) (by decide) (t := .long) (t' := .long) (by decide) (by decide)))
  obtain ⟨T5, h5, X5, e5, W5, st5⟩ := putF X4 hx hZ hown (host := "") (Or.inl (hw _ (List.mem_of_getElem? (i := 26) rfl))) Via.refl e4 Fc4 (E.wr W4) (Or.inl (hw _ (List.mem_of_getElem? (i := 27) rfl))) (hw _ (List.mem_of_getElem? (i := 6) rfl)) (ty := .long) (by decide) rfl rfl (g := (mkF m 25 #[.val (.ref a), .val (.long arr), .second] [(.long (0 : Int64)), (.ref a)])) rfl rfl (hb hby d7_25)
  have F1 : Fld Z h5 a "com/example/earnest_load/earnestload/run/Schedule" "start" "J" (.long arr) := (Fs.same W4).other W5 (Or.inr (slot_ne (Or.inl (hw _ (List.mem_of_getElem? (i := 20) rfl))) (Or.inl (hw _ (List.mem_of_getElem? (i := 27) rfl))) (by decide) (t := .long) (t' := .long) (by decide) (by decide)))
  have F2 : Fld Z h5 a "com/example/earnest_load/earnestload/run/Schedule" "count" "J" (.long 0) := Fc4.same W5
  have F3 : Fld Z h5 a "com/example/earnest_load/earnestload/run/Schedule" "rate" "D" (.double rt) := (Fr0.other W4 (Or.inr (slot_ne (Or.inr (hw _ (List.mem_of_getElem? (i := 18) rfl))) (Or.inl (hw _ (List.mem_of_getElem? (i := 20) rfl))) (by decide) (t := .double) (t' := .long) (by decide) (by decide)))).other W5 (Or.inr (slot_ne (Or.inr (hw _ (List.mem_of_getElem? (i := 18) rfl))) (Or.inl (hw _ (List.mem_of_getElem? (i := 27) rfl))) (by decide) (t := .double) (t' := .long) (by decide) (by decide)))
  have K5 : Keep h0 h5 [a] := ((Keep.refl h0 [a]).wr W4 (Or.inl (List.mem_of_getElem? (i := 0) rfl))).wr W5 (Or.inl (List.mem_of_getElem? (i := 0) rfl))
  have N5 := Fr.snoc X5 (Fr.snoc X4 (Fr.app N0 N3) ga) ga
  have Z5 : n0 ≤ h5.size := Nat.le_trans Z0 K5.1
  have E5 := (E.wr W4).wr W5
  obtain ⟨cq6, kq6, q6a, q6b, q6c⟩ := isOf hZ e5 E5
  obtain ⟨_, _, ⟨T6, L6, k6, n6⟩, -, X6, ⟨Lc6, hQ6, l6, y6, z6⟩, st6⟩ := X5.virtualBack hx (y := (⟨"com/example/earnest_load/earnestload/run/Schedule", "next", "()J"⟩ : MethodName)) (z := (⟨"com/example/earnest_load/earnestload/run/Schedule", "next", "()J"⟩ : MethodName)) hown (mvT hZ (hw _ (List.mem_of_getElem? (i := 38) rfl))) (mvT hZ (hw _ (List.mem_of_getElem? (i := 22) rfl))) (notFace_of_selects (args := #[]) (mvT hZ (hw _ (List.mem_of_getElem? (i := 24) rfl)))) (mvT hZ (hw _ (List.mem_of_getElem? (i := 24) rfl))) (mvT hZ (hw _ (List.mem_of_getElem? (i := 23) rfl))) (by decide) (backOf (W := 0) (rmNext l Z a0 hw [] a h5 n0 Z5 arr 0 0 rt F1 F2 F3 E5 ga hz1 hz2 hz3) hZ (hw _ (List.mem_of_getElem? (i := 25) rfl)) (hw _ (List.mem_of_getElem? (i := 7) rfl)) (by decide) (by decide)) q6a q6c (g := (mkF m 29 #[.val (.ref a), .val (.long arr), .second] [(.ref a)])) rfl (by rw [hml]; rfl) (Steps.refl _) (argsL := []) (rest := []) (lenOf pd_1 rfl) rfl (by show 2 * 0 + _ ≤ _; exact Nat.le_of_eq rfl) (hb hby d7_29) (fun _ _ => ⟨rfl, e5, (by decide : 0 + 0 ≤ _), (by decide : 0 + 0 ≤ _)⟩)
  dsimp only [Pt.U, Pt.locs, Pt.cells, Pt.slots] at X6 l6 y6 z6 st6 hQ6
  subst l6 y6 z6
  obtain ⟨rfl, N6, K6, E6, Fs6, Fc6, Fr6⟩ := hQ6
  obtain ⟨fs, hr, hrun, hended, hW, hsame⟩ := X6.leave (v := some (.long (arr + 0))) (fun h => by rw [Bd.returns] at h; cases h)
  refine ⟨_, _, pre0 _ ?_, hrun, hended, _, _, rfl, ?_, ⟨_, rfl⟩, hW, hsame.mono (by decide) (by decide)⟩
  · show Steps p.tables e below (s₁.setTop (mkF m 0 #[.val (.ref a), .val (.long arr), .second] [])) _
    refine XS.lloadN X0.here hx rfl (hb hby d7_0) rfl ?_
    show Steps p.tables e below (s₁.setTop (mkF m 1 #[.val (.ref a), .val (.long arr), .second] [(.long arr)])) _
    refine XS.aloadN X0.here hx rfl (hb hby d7_1) rfl rfl ?_
    show Steps p.tables e below (s₁.setTop (mkF m 2 #[.val (.ref a), .val (.long arr), .second] [(.ref a), (.long arr)])) _
    refine st1 _ ?_
    show Steps p.tables e below (T1.setTop (mkF m 5 #[.val (.ref a), .val (.long arr), .second] [(.long st), (.long arr)])) _
    refine XS.lsub X1.here hx rfl (hb hby d7_5) rfl ?_
    show Steps p.tables e below (T1.setTop (mkF m 6 #[.val (.ref a), .val (.long arr), .second] [(.long (arr - st))])) _
    refine XS.aloadN X1.here hx rfl (hb hby d7_6) rfl rfl ?_
    show Steps p.tables e below (T1.setTop (mkF m 7 #[.val (.ref a), .val (.long arr), .second] [(.ref a), (.long (arr - st))])) _
    refine XS.aloadN X1.here hx rfl (hb hby d7_7) rfl rfl ?_
    show Steps p.tables e below (T1.setTop (mkF m 8 #[.val (.ref a), .val (.long arr), .second] [(.ref a), (.ref a), (.long (arr - st))])) _
    refine st2 _ ?_
    show Steps p.tables e below (T2.setTop (mkF m 11 #[.val (.ref a), .val (.long arr), .second] [(.long cnt), (.ref a), (.long (arr - st))])) _
    refine st3.trans ?_
    show Steps p.tables e below (T3.setTop (mkF m 14 #[.val (.ref a), .val (.long arr), .second] [(.long o), (.long (arr - st))])) _
    refine XS.lcmp X3.here hx rfl (hb hby d7_14) rfl ?_
    show Steps p.tables e below (T3.setTop (mkF m 15 #[.val (.ref a), .val (.long arr), .second] [(.int (lcmpW (arr - st) o))])) _
    refine XS.ifNo X3.here hx rfl (hb hby d7_15) rfl ((Jvm.Own.holdsL _ _ _).trans (Jvm.Own.dF (by omega))) ?_
    show Steps p.tables e below (T3.setTop (mkF m 18 #[.val (.ref a), .val (.long arr), .second] [])) _
    refine XS.aloadN X3.here hx rfl (hb hby d7_18) rfl rfl ?_
    show Steps p.tables e below (T3.setTop (mkF m 19 #[.val (.ref a), .val (.long arr), .second] [(.ref a)])) _
    refine XS.lloadN X3.here hx rfl (hb hby d7_19) rfl ?_
    show Steps p.tables e below (T3.setTop (mkF m 20 #[.val (.ref a), .val (.long arr), .second] [(.long arr), (.ref a)])) _
    refine st4 _ ?_
    show Steps p.tables e below (T4.setTop (mkF m 23 #[.val (.ref a), .val (.long arr), .second] [])) _
    refine XS.aloadN X4.here hx rfl (hb hby d7_23) rfl rfl ?_
    show Steps p.tables e below (T4.setTop (mkF m 24 #[.val (.ref a), .val (.long arr), .second] [(.ref a)])) _
    refine XS.lconst X4.here hx rfl (hb hby d7_24) ?_
    show Steps p.tables e below (T4.setTop (mkF m 25 #[.val (.ref a), .val (.long arr), .second] [(.long (0 : Int64)), (.ref a)])) _
    refine st5 _ ?_
    show Steps p.tables e below (T5.setTop (mkF m 28 #[.val (.ref a), .val (.long arr), .second] [])) _
    refine XS.aloadN X5.here hx rfl (hb hby d7_28) rfl rfl ?_
    show Steps p.tables e below (T5.setTop (mkF m 29 #[.val (.ref a), .val (.long arr), .second] [(.ref a)])) _
    refine st6.trans ?_
    show Steps p.tables e below (T6.setTop (mkF m 32 #[.val (.ref a), .val (.long arr), .second] [(.long (arr + 0))])) _
    exact X6.lreturnOut hx Bd.returns (hb hby d7_32) hr
  · show QF Z a arr (0 + (1 : Int64)) rt (arr + 0) h0 n0 _ T6.heap _
    exact ⟨rfl, Fr.app N5 N6, K5.trans K6 (fun x hx => Or.inl hx), E6, Fs6, Fc6, Fr6⟩
theorem ef_rmFromN (m : MethodId) (a : Addr) (arr : Int64) : entryFrame m #[(.ref a), (.long arr)] 3 = mkF m 0 #[.val (.ref a), .val (.long arr), .second] [] := by first | (simp [entryFrame, mkF, argsToLocals, Value.category]; done) | rfl
set_option maxRecDepth 65536 in
set_option maxHeartbeats 40000000 in
theorem rmFromN (l : Launch) (Z : State) (a0 : Array Value) (hw : ∀ d ∈ tables_1, d.before a0 Z = true) (ws : List Jvm.Cond) (a : Addr) (arr : Int64) (h0 : Heap) (n0 : Nat) (Z0 : n0 ≤ h0.size) (st cnt o : Int64) (rt : UInt64) (Fs : Fld Z h0 a "com/example/earnest_load/earnestload/run/Schedule" "start" "J" (.long st)) (Fc : Fld Z h0 a "com/example/earnest_load/earnestload/run/Schedule" "count" "J" (.long cnt)) (Fr0 : Fld Z h0 a "com/example/earnest_load/earnestload/run/Schedule" "rate" "D" (.double rt)) (E : Exa Z h0 a "com/example/earnest_load/earnestload/run/Schedule") (ga : n0 ≤ a) (hn1 : Jvm.Free.Fl.NoNaN64 (FP.dmul (FP.l2d cnt) (4741671816366391296 : UInt64))) (hn2 : Jvm.Free.Fl.NoNaN64 (FP.ddiv (FP.dmul (FP.l2d cnt) (4741671816366391296 : UInt64)) rt)) (hov : FP.d2l (FP.ddiv (FP.dmul (FP.l2d cnt) (4741671816366391296 : UInt64)) rt) = o) (hz1 : Jvm.Free.Fl.NoNaN64 (FP.dmul (FP.l2d 0) (4741671816366391296 : UInt64))) (hz2 : Jvm.Free.Fl.NoNaN64 (FP.ddiv (FP.dmul (FP.l2d 0) (4741671816366391296 : UInt64)) rt)) (hz3 : FP.d2l (FP.ddiv (FP.dmul (FP.l2d 0) (4741671816366391296 : UInt64)) rt) = 0) (hc : ¬ o.toInt < (arr - st).toInt) :
    MetFree l (⟨"com/example/earnest_load/earnestload/run/Schedule", "nextFrom", "(J)J"⟩ : MethodName) (head1 (Jvm.Cond.code (⟨"com/example/earnest_load/earnestload/run/Schedule", "nextFrom", "(J)J"⟩ : MethodName) prog_10_method_3_code 3 (some .long) :: ws) ({ frames := 2, cells := 0, slots := 0, locals := 28 } : Room)) (fun a_ U_ => a_ = #[(.ref a), (.long arr)] ∧ Z.Warmed39 U_.vm ∧ U_.heap = h0) (fun _ _ _ _ _ => True) (fun _ U_ o_ V_ => ∃ v_ L_, o_ = .returned v_ ∧ QF Z a st (cnt + (1 : Int64)) rt (st + o) h0 n0 v_ V_.heap L_ ∧ FrameEnd U_ o_ V_ L_ ({ frames := 2, cells := 0, slots := 0, locals := 28 } : Room).cells ({ frames := 2, cells := 0, slots := 0, locals := 28 } : Room).slots) := by
  refine MetFree.of_bodySF (plainFor_of_name pn_0) hisR ?_
  intro p e s m args below meth c s₁ Bd hml0 hP hK
  obtain ⟨rfl, hZ, hh⟩ := hP
  have hx := Bd.exec
  have hby := Bd.bytes
  have hml : c.maxLocals = 3 := hml0
  have hown : s.vm.findClass "com/example/earnest_load/earnestload/run/Schedule" = some m.cls := findClass_of_methodNamed Bd.named
  have hnm := (name_of_methodNamed Bd.named Bd.method).1
  have X0 : Stand p l e ({ frames := 2, cells := 0, slots := 0, locals := 28 } : Room) s m #[(.ref a), (.long arr)] below meth c s₁ [] 0 0 := Stand.of_body Bd
  have e0 : s₁.heap = h0 := by rw [← hh, Bd.state]; rfl
  have N0 := Fr.nil n0
  have pre0 : ∀ t, Steps p.tables e below (s₁.setTop (mkF m 0 #[.val (.ref a), .val (.long arr), .second] [])) t → Steps p.tables e below (s₁.setTop (entryFrame m #[(.ref a), (.long arr)] 3)) t := fun t_ k_ => castTop (ef_rmFromN m a arr) k_
  obtain ⟨T1, X1, e1, st1⟩ := getF X0 hx hZ hown (host := "") (Or.inl (hw _ (List.mem_of_getElem? (i := 19) rfl))) Via.refl e0 Fs (g := (mkF m 2 #[.val (.ref a), .val (.long arr), .second] [(.ref a), (.long arr)])) rfl rfl (hb hby d7_2)
  obtain ⟨T2, X2, e2, st2⟩ := getF X1 hx hZ hown (host := "") (Or.inl (hw _ (List.mem_of_getElem? (i := 26) rfl))) Via.refl e1 Fc (g := (mkF m 8 #[.val (.ref a), .val (.long arr), .second] [(.ref a), (.ref a), (.long (arr - st))])) rfl rfl (hb hby d7_8)
  have hselP : (Cond.selects "com/example/earnest_load/earnestload/run/Schedule" (⟨"com/example/earnest_load/earnestload/run/Schedule", "offset", "(J)J"⟩ : MethodName) (⟨"com/example/earnest_load/earnestload/run/Schedule", "offset", "(J)J"⟩ : MethodName)).before #[(.ref a), (.long arr)] s = true := by
    obtain ⟨c2, r2, m2, q1, -, q3, -, kP, hkP, hkPi⟩ := Cond.selects_spec (mvT hZ (hw _ (List.mem_of_getElem? (i := 24) rfl)) (args := #[(.ref a), (.long arr)]))
    exact Stand.selects_self_of_private (y := (⟨"com/example/earnest_load/earnestload/run/Schedule", "offset", "(J)J"⟩ : MethodName)) (show s.vm.findClass "com/example/earnest_load/earnestload/run/Schedule" = some _ from findClass_of_methodNamed q3) hkP hkPi (Cond.privateMethod_at (mvP hZ (hw _ (List.mem_of_getElem? (i := 30) rfl)) (args := #[]))) (mvT hZ (hw _ (List.mem_of_getElem? (i := 29) rfl))) (by decide)
  obtain ⟨cq3, q3, q3'⟩ := (E).cell
  obtain ⟨_, _, ⟨T3, L3, k3, n3⟩, -, X3, ⟨Lc3, hQ3, l3, y3, z3⟩, st3⟩ := X2.privateBack hx (y := (⟨"com/example/earnest_load/earnestload/run/Schedule", "offset", "(J)J"⟩ : MethodName)) hown (mvT hZ (hw _ (List.mem_of_getElem? (i := 28) rfl))) (mvT hZ (hw _ (List.mem_of_getElem? (i := 29) rfl))) hselP (Cond.privateMethod_at (mvP hZ (hw _ (List.mem_of_getElem? (i := 30) rfl)) (args := #[]))) (mvT hZ (hw _ (List.mem_of_getElem? (i := 31) rfl))) (by decide) (backOf (W := 2) (rmOff l Z a0 hw [] a cnt h0 n0 Z0 rt o Fr0 hn1 hn2 hov) hZ (hw _ (List.mem_of_getElem? (i := 31) rfl)) (hw _ (List.mem_of_getElem? (i := 7) rfl)) (by decide) (by decide)) (g := (mkF m 11 #[.val (.ref a), .val (.long arr), .second] [(.long cnt), (.ref a), (.long (arr - st))])) rfl (by rw [hml]; rfl) (Steps.refl _) (a := a) (by rw [e2]; exact q3) q3' (argsL := [(.long cnt)]) (rest := [(.long (arr - st))]) (lenOf pd_0 rfl) rfl (by show 2 * 0 + _ ≤ _; exact Nat.le_of_eq rfl) (hb hby d7_11) (fun _ _ => ⟨rfl, e2, (by decide : 0 + 0 ≤ _), (by decide : 0 + 0 ≤ _)⟩)
  dsimp only [Pt.U, Pt.locs, Pt.cells, Pt.slots] at X3 l3 y3 z3 st3 hQ3
  subst l3 y3 z3
  obtain ⟨rfl, N3, e3⟩ := hQ3
  obtain ⟨cq6, kq6, q6a, q6b, q6c⟩ := isOf hZ e3 E
  obtain ⟨_, _, ⟨T6, L6, k6, n6⟩, -, X6, ⟨Lc6, hQ6, l6, y6, z6⟩, st6⟩ := X3.virtualBack hx (y := (⟨"com/example/earnest_load/earnestload/run/Schedule", "next", "()J"⟩ : MethodName)) (z := (⟨"com/example/earnest_load/earnestload/run/Schedule", "next", "()J"⟩ : MethodName)) hown (mvT hZ (hw _ (List.mem_of_getElem? (i := 38) rfl))) (mvT hZ (hw _ (List.mem_of_getElem? (i := 22) rfl))) (notFace_of_selects (args := #[]) (mvT hZ (hw _ (List.mem_of_getElem? (i := 24) rfl)))) (mvT hZ (hw _ (List.mem_of_getElem? (i := 24) rfl))) (mvT hZ (hw _ (List.mem_of_getElem? (i := 23) rfl))) (by decide) (backOf (W := 0) (rmNext l Z a0 hw [] a h0 n0 Z0 st cnt o rt Fs Fc Fr0 E ga hn1 hn2 hov) hZ (hw _ (List.mem_of_getElem? (i := 25) rfl)) (hw _ (List.mem_of_getElem? (i := 7) rfl)) (by decide) (by decide)) q6a q6c (g := (mkF m 29 #[.val (.ref a), .val (.long arr), .second] [(.ref a)])) rfl (by rw [hml]; rfl) (Steps.refl _) (argsL := []) (rest := []) (lenOf pd_1 rfl) rfl (by show 2 * 0 + _ ≤ _; exact Nat.le_of_eq rfl) (hb hby d7_29) (fun _ _ => ⟨rfl, e3, (by decide : 0 + 0 ≤ _), (by decide : 0 + 0 ≤ _)⟩)
  dsimp only [Pt.U, Pt.locs, Pt.cells, Pt.slots] at X6 l6 y6 z6 st6 hQ6
  subst l6 y6 z6
  obtain ⟨rfl, N6, K6, E6, Fs6, Fc6, Fr6⟩ := hQ6
  obtain ⟨fs, hr, hrun, hended, hW, hsame⟩ := X6.leave (v := some (.long (st + o))) (fun h => by rw [Bd.returns] at h; cases h)
  refine ⟨_, _, pre0 _ ?_, hrun, hended, _, _, rfl, ?_, ⟨_, rfl⟩, hW, hsame.mono (by decide) (by decide)⟩
  · show Steps p.tables e below (s₁.setTop (mkF m 0 #[.val (.ref a), .val (.long arr), .second] [])) _
    refine XS.lloadN X0.here hx rfl (hb hby d7_0) rfl ?_
    show Steps p.tables e below (s₁.setTop (mkF m 1 #[.val (.ref a), .val (.long arr), .second] [(.long arr)])) _
    refine XS.aloadN X0.here hx rfl (hb hby d7_1) rfl rfl ?_
    show Steps p.tables e below (s₁.setTop (mkF m 2 #[.val (.ref a), .val (.long arr), .second] [(.ref a), (.long arr)])) _
    refine st1 _ ?_
    show Steps p.tables e below (T1.setTop (mkF m 5 #[.val (.ref a), .val (.long arr), .second] [(.long st), (.long arr)])) _
    refine XS.lsub X1.here hx rfl (hb hby d7_5) rfl ?_
    show Steps p.tables e below (T1.setTop (mkF m 6 #[.val (.ref a), .val (.long arr), .second] [(.long (arr - st))])) _
    refine XS.aloadN X1.here hx rfl (hb hby d7_6) rfl rfl ?_
    show Steps p.tables e below (T1.setTop (mkF m 7 #[.val (.ref a), .val (.long arr), .second] [(.ref a), (.long (arr - st))])) _
    refine XS.aloadN X1.here hx rfl (hb hby d7_7) rfl rfl ?_
    show Steps p.tables e below (T1.setTop (mkF m 8 #[.val (.ref a), .val (.long arr), .second] [(.ref a), (.ref a), (.long (arr - st))])) _
    refine st2 _ ?_
    show Steps p.tables e below (T2.setTop (mkF m 11 #[.val (.ref a), .val (.long arr), .second] [(.long cnt), (.ref a), (.long (arr - st))])) _
    refine st3.trans ?_
    show Steps p.tables e below (T3.setTop (mkF m 14 #[.val (.ref a), .val (.long arr), .second] [(.long o), (.long (arr - st))])) _
    refine XS.lcmp X3.here hx rfl (hb hby d7_14) rfl ?_
    show Steps p.tables e below (T3.setTop (mkF m 15 #[.val (.ref a), .val (.long arr), .second] [(.int (lcmpW (arr - st) o))])) _
    refine XS.ifYes X3.here hx rfl (pc0 := 15) (pc' := 28) rfl (hb hby d7_15) rfl ((Jvm.Own.holdsL _ _ _).trans (Jvm.Own.dT (by omega))) (by decide) (by decide) ?_
    show Steps p.tables e below (T3.setTop (mkF m 28 #[.val (.ref a), .val (.long arr), .second] [])) _
    refine XS.aloadN X3.here hx rfl (hb hby d7_28) rfl rfl ?_
    show Steps p.tables e below (T3.setTop (mkF m 29 #[.val (.ref a), .val (.long arr), .second] [(.ref a)])) _
    refine st6.trans ?_
    show Steps p.tables e below (T6.setTop (mkF m 32 #[.val (.ref a), .val (.long arr), .second] [(.long (st + o))])) _
    exact X6.lreturnOut hx Bd.returns (hb hby d7_32) hr
  · show QF Z a st (cnt + (1 : Int64)) rt (st + o) h0 n0 _ T6.heap _
    exact ⟨rfl, Fr.app (Fr.app N0 N3) N6, (Keep.refl h0 [a]).trans K6 (fun x hx => Or.inl hx), E6, Fs6, Fc6, Fr6⟩

theorem z_K9 : Jvm.Own.z (4741671816366391296 : UInt64) = 1000000000 * (Jvm.Own.PN 1074 : Int) := by decide +kernel
theorem fin_K9 : Jvm.FP.Core.DFin (4741671816366391296 : UInt64) := (Jvm.FP.Core.fin_bits _).mpr (by decide)
theorem own_sel (x : Int32) : ∃ (sel : Int32) (q : Int64) (rr : Int32), x &&& (7 : Int32) = sel ∧ own_tri sel q rr ∧ 0 < rr.toInt ∧ 0 < q.toInt ∧ q.toInt ≤ 1000000000 ∧ q.toInt * rr.toInt = 1000000000 := by
  have h1 := c_mask x 7 3 (by decide) (by decide)
  obtain ⟨sel, hs⟩ : ∃ v, x &&& (7 : Int32) = v := ⟨_, rfl⟩
  rw [hs] at h1
  have h2 : sel = 0 ∨ sel = 1 ∨ sel = 2 ∨ sel = 3 ∨ sel = 4 ∨ sel = 5 ∨ sel = 6 ∨ sel = 7 := by
    have e0 : (0 : Int32).toInt = 0 := by decide
    have e1 : (1 : Int32).toInt = 1 := by decide
    have e2 : (2 : Int32).toInt = 2 := by decide
    have e3 : (3 : Int32).toInt = 3 := by decide
    have e4 : (4 : Int32).toInt = 4 := by decide
    have e5 : (5 : Int32).toInt = 5 := by decide
    have e6 : (6 : Int32).toInt = 6 := by decide
    have e7 : (7 : Int32).toInt = 7 := by decide
    rw [← Int32.toInt_inj, ← Int32.toInt_inj, ← Int32.toInt_inj, ← Int32.toInt_inj, ← Int32.toInt_inj, ← Int32.toInt_inj, ← Int32.toInt_inj, ← Int32.toInt_inj, e0, e1, e2, e3, e4, e5, e6, e7]
    omega
  rcases h2 with rfl | rfl | rfl | rfl | rfl | rfl | rfl | rfl
  · exact ⟨0, 1000000000, 1, hs, by unfold own_tri; simp, by decide, by decide, by decide, by decide⟩
  · exact ⟨1, 500000000, 2, hs, by unfold own_tri; simp, by decide, by decide, by decide, by decide⟩
  · exact ⟨2, 250000000, 4, hs, by unfold own_tri; simp, by decide, by decide, by decide, by decide⟩
  · exact ⟨3, 200000000, 5, hs, by unfold own_tri; simp, by decide, by decide, by decide, by decide⟩
  · exact ⟨4, 125000000, 8, hs, by unfold own_tri; simp, by decide, by decide, by decide, by decide⟩
  · exact ⟨5, 100000000, 10, hs, by unfold own_tri; simp, by decide, by decide, by decide, by decide⟩
  · exact ⟨6, 1000000, 1000, hs, by unfold own_tri; simp, by decide, by decide, by decide, by decide⟩
  · exact ⟨7, 1, 1000000000, hs, by unfold own_tri; simp, by decide, by decide, by decide, by decide⟩
theorem own_off (cnt : Int64) (rr : Int32) (q o : Int64) (c0 : 0 ≤ cnt.toInt) (c4 : cnt.toInt ≤ 4) (r0 : 0 < rr.toInt) (q0 : 0 < q.toInt) (q1 : q.toInt ≤ 1000000000) (hq : q.toInt * rr.toInt = 1000000000) (ho : o.toInt = cnt.toInt * q.toInt) :
    Jvm.Free.Fl.NoNaN64 (FP.dmul (FP.l2d cnt) (4741671816366391296 : UInt64)) ∧ Jvm.Free.Fl.NoNaN64 (FP.ddiv (FP.dmul (FP.l2d cnt) (4741671816366391296 : UInt64)) (FP.i2d rr)) ∧ FP.d2l (FP.ddiv (FP.dmul (FP.l2d cnt) (4741671816366391296 : UInt64)) (FP.i2d rr)) = o := by
  obtain ⟨f1, z1⟩ := Jvm.Own.z_l2d (v := cnt) (by omega)
  obtain ⟨f2, z2⟩ := Jvm.Own.z_i2d rr
  have hP := Jvm.Own.PN_posI 1074
  obtain ⟨f3, z3⟩ := (Jvm.Own.rnd_dmul f1 fin_K9).exact (cnt.toInt * 1000000000) 1074 (by omega) (by omega) (by
    rw [z1, z_K9]; generalize (Jvm.Own.PN 1074 : Int) = P; ac_rfl)
  have hp : 0 < Jvm.Own.z (FP.Core.i2d rr) := by rw [z2]; exact Int.mul_pos r0 hP
  have h4 := Jvm.Own.rnd_ddiv f3 f2 hp
  have hD : (Jvm.Own.z (FP.Core.i2d rr)).natAbs = rr.toInt.natAbs * Jvm.Own.PN 1074 := by rw [z2, Int.natAbs_mul, Int.natAbs_natCast]
  rw [hD, z3] at h4
  have h5 := h4.scale (Jvm.Own.PN 1074) (Jvm.Own.PN_pos _)
  have hr : ((rr.toInt.natAbs : Nat) : Int) = rr.toInt := by omega
  have hb : (cnt.toInt * q.toInt).natAbs ≤ 4 * 1000000000 := Jvm.Own.pb (by omega) (by omega)
  obtain ⟨f5, z5⟩ := h5.exact (cnt.toInt * q.toInt) 1074 (by omega) (by omega) (by
    rw [hr, Int.mul_right_comm (cnt.toInt * q.toInt) _ rr.toInt, Int.mul_assoc cnt.toInt q.toInt, hq])
  refine ⟨Jvm.Own.nn f3, Jvm.Own.nn f5, ?_⟩
  refine Jvm.FP.Core.d2l_int (a := o) ?_
  rw [ho]
  exact Jvm.Own.DI.of_z f5 z5

theorem ef_rm0 (m : MethodId) (xs : Int32) (st : Int64) (stp : Int32) (exc : Int64) : entryFrame m #[(.int xs), (.long st), (.int stp), (.long exc)] maxLocals = mkF m 0 #[.val (.int xs), .val (.long st), .second, .val (.int stp), .val (.long exc), .second, .unset, .unset, .unset, .unset, .unset, .unset, .unset, .unset, .unset, .unset, .unset, .unset, .unset, .unset, .unset, .unset, .unset, .unset, .unset, .unset, .unset] [] := by first | (simp [entryFrame, mkF, argsToLocals, Value.category, maxLocals]; done) | rfl
set_option maxRecDepth 65536 in
set_option maxHeartbeats 40000000 in
theorem rm0 (l : Launch) (Z : State) (a0 : Array Value) (hw : ∀ d ∈ tables_1, d.before a0 Z = true) (ws : List Jvm.Cond) (xs : Int32) (st : Int64) (stp : Int32) (exc : Int64) (h0 : Heap) (n0 : Nat) (Z0 : n0 ≤ h0.size)  :
    MetFree l x (head1 (Jvm.Cond.code x code maxLocals ret :: ws) room_1) (fun a_ U_ => a_ = #[(.int xs), (.long st), (.int stp), (.long exc)] ∧ Z.Warmed39 U_.vm ∧ U_.heap = h0) (fun _ _ _ _ _ => True) (fun _ U_ o_ V_ => ∃ v_ L_, o_ = .returned v_ ∧ QL n0 v_ V_.heap L_ ∧ FrameEnd U_ o_ V_ L_ room_1.cells room_1.slots) := by
  refine MetFree.of_bodySF (plainFor_of_name pn_1) hisR ?_
  intro p e s m args below meth c s₁ Bd hml0 hP hK
  obtain ⟨rfl, hZ, hh⟩ := hP
  have hx := Bd.exec
  have hby := Bd.bytes
  have hml : c.maxLocals = 27 := hml0
  have hown : s.vm.findClass "com/example/earnest_load/earnestload/run/ScheduleNextFromPinLaw" = some m.cls := findClass_of_methodNamed Bd.named
  have hnm := (name_of_methodNamed Bd.named Bd.method).1
  have X0 : Stand p l e room_1 s m #[(.int xs), (.long st), (.int stp), (.long exc)] below meth c s₁ [] 0 0 := Stand.of_body Bd
  have e0 : s₁.heap = h0 := by rw [← hh, Bd.state]; rfl
  have N0 := Fr.nil n0
  have pre0 : ∀ t, Steps p.tables e below (s₁.setTop (mkF m 0 #[.val (.int xs), .val (.long st), .second, .val (.int stp), .val (.long exc), .second, .unset, .unset, .unset, .unset, .unset, .unset, .unset, .unset, .unset, .unset, .unset, .unset, .unset, .unset, .unset, .unset, .unset, .unset, .unset, .unset, .unset] [])) t → Steps p.tables e below (s₁.setTop (entryFrame m #[(.int xs), (.long st), (.int stp), (.long exc)] maxLocals)) t := fun t_ k_ => castTop (ef_rm0 m xs st stp exc) k_
  obtain ⟨sel, q, rr, hsel, htri, r0, q0, q1, hq⟩ := own_sel xs
  obtain ⟨kk, hkk⟩ : ∃ v, stp &&& (3 : Int32) = v := ⟨_, rfl⟩
  have hk4 : kk = 0 ∨ kk = 1 ∨ kk = 2 ∨ kk = 3 := by
    have h1 := c_mask stp 3 2 (by decide) (by decide)
    rw [hkk] at h1
    have e0 : (0 : Int32).toInt = 0 := by decide
    have e1 : (1 : Int32).toInt = 1 := by decide
    have e2 : (2 : Int32).toInt = 2 := by decide
    have e3 : (3 : Int32).toInt = 3 := by decide
    rw [← Int32.toInt_inj, ← Int32.toInt_inj, ← Int32.toInt_inj, ← Int32.toInt_inj, e0, e1, e2, e3]
    omega
  obtain ⟨o2, ho2⟩ := Jvm.Own.i64_of (N := 2 * q.toInt) (by omega) (by omega)
  obtain ⟨o3, ho3⟩ := Jvm.Own.i64_of (N := 3 * q.toInt) (by omega) (by omega)
  obtain ⟨o4, ho4⟩ := Jvm.Own.i64_of (N := 4 * q.toInt) (by omega) (by omega)
  have i0 : (0 : Int64).toInt = 0 := by decide
  have i2 : (2 : Int64).toInt = 2 := by decide
  have k0 : (0 : Int32).toInt64 * q = 0 := Int64.toInt_inj.mp (by rw [Jvm.Own.lm 0 1000000000 (i := 0) (by decide) rfl (by decide) (by omega) (by decide), i0]; omega)
  have k1 : (1 : Int32).toInt64 * q = q := Int64.toInt_inj.mp (by rw [Jvm.Own.lm 1 1000000000 (i := 1) (by decide) rfl (by decide) (by omega) (by decide)]; omega)
  have k2 : (2 : Int32).toInt64 * q = o2 := Int64.toInt_inj.mp (by rw [Jvm.Own.lm 2 1000000000 (i := 2) (by decide) rfl (by decide) (by omega) (by decide), ho2])
  have k3 : (3 : Int32).toInt64 * q = o3 := Int64.toInt_inj.mp (by rw [Jvm.Own.lm 3 1000000000 (i := 3) (by decide) rfl (by decide) (by omega) (by decide), ho3])
  have m2 : (2 : Int64) * q = o2 := Int64.toInt_inj.mp (by rw [Jvm.Own.lm 2 1000000000 (i := 2) (by decide) rfl (by decide) (by omega) (by decide), ho2])
  have pa1 : (0 : Int64) + q = q := Int64.zero_add q
  have pa2 : q + q = o2 := Int64.toInt_inj.mp (by rw [Jvm.Own.la rfl rfl (by omega), ho2]; omega)
  have pa3 : o2 + q = o3 := Int64.toInt_inj.mp (by rw [Jvm.Own.la ho2 rfl (by omega), ho3]; omega)
  have pa4 : o3 + q = o4 := Int64.toInt_inj.mp (by rw [Jvm.Own.la ho3 rfl (by omega), ho4]; omega)
  have sz : ∀ v : Int64, v + 0 = v := fun v => Int64.add_zero v
  have p0 := own_off (0 : Int64) rr q (0 : Int64) (by decide) (by decide) r0 q0 q1 hq (by rw [i0, Int.zero_mul])
  have p1 := own_off (0 + (1 : Int64)) rr q q (by decide) (by decide) r0 q0 q1 hq (by rw [show ((0 + (1 : Int64))).toInt = 1 by decide]; omega)
  have p2 := own_off (0 + (1 : Int64) + (1 : Int64)) rr q o2 (by decide) (by decide) r0 q0 q1 hq (by rw [show ((0 + (1 : Int64) + (1 : Int64))).toInt = 2 by decide, ho2])
  have p3 := own_off (0 + (1 : Int64) + (1 : Int64) + (1 : Int64)) rr q o3 (by decide) (by decide) r0 q0 q1 hq (by rw [show ((0 + (1 : Int64) + (1 : Int64) + (1 : Int64))).toInt = 3 by decide, ho3])
  have p4 := own_off (0 + (1 : Int64) + (1 : Int64) + (1 : Int64) + (1 : Int64)) rr q o4 (by decide) (by decide) r0 q0 q1 hq (by rw [show ((0 + (1 : Int64) + (1 : Int64) + (1 : Int64) + (1 : Int64))).toInt = 4 by decide, ho4])
  rcases hk4 with rfl | rfl | rfl | rfl
  · obtain ⟨arr, harr⟩ : ∃ v, st + (0 : Int64) + exc = v := ⟨_, rfl⟩
    by_cases hc : ((0 : Int64)).toInt < (arr - st).toInt
    · obtain ⟨_, _, ⟨T1, L1, k1, n1⟩, -, X1, ⟨Lc1, hQ1, l1, y1, z1⟩, st1⟩ := Jvm.LawKit.callS X0 hx (y := (⟨"com/example/earnest_load/earnestload/run/ScheduleNextFromPinLaw", "period", "(I)J"⟩ : MethodName)) hown (mvT hZ (hw _ (List.mem_of_getElem? (i := 0) rfl))) (mvT hZ (hw _ (List.mem_of_getElem? (i := 1) rfl))) (mvT hZ (hw _ (List.mem_of_getElem? (i := 2) rfl))) (mvT hZ (hw _ (List.mem_of_getElem? (i := 3) rfl))) (by decide) (backOf (W := 0) (rmPer l Z a0 hw [] sel h0 n0 Z0 q rr htri) hZ (hw _ (List.mem_of_getElem? (i := 3) rfl)) (hw _ (List.mem_of_getElem? (i := 2) rfl)) (by decide) (by decide)) (g := (mkF m 8 #[.val (.int xs), .val (.long st), .second, .val (.int stp), .val (.long exc), .second, .val (.int sel), .unset, .unset, .unset, .unset, .unset, .unset, .unset, .unset, .unset, .unset, .unset, .unset, .unset, .unset, .unset, .unset, .unset, .unset, .unset, .unset] [(.int sel)])) rfl (by rw [hml]; rfl) (argsL := [(.int sel)]) (rest := []) (lenOf pd_2 rfl) rfl (by show 2 * 0 + _ ≤ _; exact Nat.le_of_eq rfl) (hb hby at_8) (fun _ _ => ⟨rfl, e0, (by decide : 0 + 0 ≤ _), (by decide : 0 + 0 ≤ _)⟩)
      dsimp only [Pt.U, Pt.locs, Pt.cells, Pt.slots] at X1 l1 y1 z1 st1 hQ1
      subst l1 y1 z1
      obtain ⟨rfl, N1, e1⟩ := hQ1
      obtain ⟨T2, h2, X2, e2, E2, A2, D2, -, st2⟩ := newO X1 hx hZ hown (hw _ (List.mem_of_getElem? (i := 5) rfl)) (hw _ (List.mem_of_getElem? (i := 6) rfl)) (hw _ (List.mem_of_getElem? (i := 7) rfl)) e1 (g := (mkF m 13 #[.val (.int xs), .val (.long st), .second, .val (.int stp), .val (.long exc), .second, .val (.int sel), .val (.long q), .second, .unset, .unset, .unset, .unset, .unset, .unset, .unset, .unset, .unset, .unset, .unset, .unset, .unset, .unset, .unset, .unset, .unset, .unset] [])) rfl (hb hby at_13) (by decide) (by decide)
      obtain ⟨a2, g2⟩ : ∃ z, z = h0.size := ⟨_, rfl⟩
      rw [← g2] at A2 D2 st2
      have D_start := D2 (Or.inl (hw _ (List.mem_of_getElem? (i := 20) rfl))) (ty := .long) (by decide)
      have D_count := D2 (Or.inl (hw _ (List.mem_of_getElem? (i := 27) rfl))) (ty := .long) (by decide)
      have D_rate := D2 (Or.inr (hw _ (List.mem_of_getElem? (i := 18) rfl))) (ty := .double) (by decide)
      have Z2 : n0 ≤ h2.size := Nat.le_trans Z0 E2.1
      have ga : n0 ≤ a2 := Nat.le_trans Z0 (Nat.le_of_eq g2.symm)
      obtain ⟨_, _, ⟨T3, L3, k3, n3⟩, -, X3, ⟨Lc3, hQ3, l3, y3, z3⟩, st3⟩ := Jvm.LawKit.callS X2 hx (y := (⟨"com/example/earnest_load/earnestload/run/ScheduleNextFromPinLaw", "rate", "(I)I"⟩ : MethodName)) hown (mvT hZ (hw _ (List.mem_of_getElem? (i := 8) rfl))) (mvT hZ (hw _ (List.mem_of_getElem? (i := 9) rfl))) (mvT hZ (hw _ (List.mem_of_getElem? (i := 2) rfl))) (mvT hZ (hw _ (List.mem_of_getElem? (i := 10) rfl))) (by decide) (backOf (W := 2) (rmRate l Z a0 hw [] sel h2 n0 Z2 q rr htri) hZ (hw _ (List.mem_of_getElem? (i := 10) rfl)) (hw _ (List.mem_of_getElem? (i := 2) rfl)) (by decide) (by decide)) (g := (mkF m 19 #[.val (.int xs), .val (.long st), .second, .val (.int stp), .val (.long exc), .second, .val (.int sel), .val (.long q), .second, .unset, .unset, .unset, .unset, .unset, .unset, .unset, .unset, .unset, .unset, .unset, .unset, .unset, .unset, .unset, .unset, .unset, .unset] [(.int sel), (.ref a2), (.ref a2)])) rfl (by rw [hml]; rfl) (argsL := [(.int sel)]) (rest := [(.ref a2), (.ref a2)]) (lenOf pd_3 rfl) rfl (by show 2 * 0 + _ ≤ _; exact Nat.le_of_eq rfl) (hb hby at_19) (fun _ _ => ⟨rfl, e2, (by decide : 1 + 0 ≤ _), (by decide : 3 + 0 ≤ _)⟩)
      dsimp only [Pt.U, Pt.locs, Pt.cells, Pt.slots] at X3 l3 y3 z3 st3 hQ3
      subst l3 y3 z3
      obtain ⟨rfl, N3, e3⟩ := hQ3
      obtain ⟨_, _, ⟨T4, L4, k4, n4⟩, -, X4, ⟨Lc4, hQ4, l4, y4, z4⟩, st4⟩ := X3.specialBack hx (y := (⟨"com/example/earnest_load/earnestload/run/Schedule", "<init>", "(DJ)V"⟩ : MethodName)) rfl hown (mvT hZ (hw _ (List.mem_of_getElem? (i := 11) rfl))) (mvT hZ (hw _ (List.mem_of_getElem? (i := 12) rfl))) (mvT hZ (hw _ (List.mem_of_getElem? (i := 13) rfl))) (by decide) (backOf (W := 1) (rmInit l Z a0 hw [] a2 (FP.i2d rr) st h2 n0 Z2 A2 ga D_start D_count D_rate) hZ (hw _ (List.mem_of_getElem? (i := 13) rfl)) (hw _ (List.mem_of_getElem? (i := 7) rfl)) (by decide) (by decide)) (g := (mkF m 24 #[.val (.int xs), .val (.long st), .second, .val (.int stp), .val (.long exc), .second, .val (.int sel), .val (.long q), .second, .unset, .unset, .unset, .unset, .unset, .unset, .unset, .unset, .unset, .unset, .unset, .unset, .unset, .unset, .unset, .unset, .unset, .unset] [(.long st), (.double (FP.i2d rr)), (.ref a2), (.ref a2)])) rfl (by rw [hml]; rfl) (Steps.refl _) (a := a2) (argsL := [(.double (FP.i2d rr)), (.long st)]) (rest := [(.ref a2)]) (lenOf pd_4 rfl) rfl (by show 2 * 0 + _ ≤ _; exact Nat.le_of_eq rfl) (hb hby at_24) (fun _ _ => ⟨rfl, e3, (by decide : 1 + 0 ≤ _), (by decide : 3 + 0 ≤ _)⟩)
      dsimp only [Pt.U, Pt.locs, Pt.cells, Pt.slots] at X4 l4 y4 z4 st4 hQ4
      subst l4 y4 z4
      obtain ⟨rfl, N4, K4, E4, Fs4, Fc4, Fr4⟩ := hQ4
      have Z4 : n0 ≤ T4.heap.size := Nat.le_trans Z2 K4.1
      obtain ⟨cq8, kq8, q8a, q8b, q8c⟩ := isOf hZ rfl E4
      obtain ⟨_, _, ⟨T8, L8, k8, n8⟩, -, X8, ⟨Lc8, hQ8, l8, y8, z8⟩, st8⟩ := X4.virtualBack hx (y := (⟨"com/example/earnest_load/earnestload/run/Schedule", "nextFrom", "(J)J"⟩ : MethodName)) (z := (⟨"com/example/earnest_load/earnestload/run/Schedule", "nextFrom", "(J)J"⟩ : MethodName)) hown (mvT hZ (hw _ (List.mem_of_getElem? (i := 33) rfl))) (mvT hZ (hw _ (List.mem_of_getElem? (i := 34) rfl))) (notFace_of_selects (args := #[]) (mvT hZ (hw _ (List.mem_of_getElem? (i := 36) rfl)))) (mvT hZ (hw _ (List.mem_of_getElem? (i := 36) rfl))) (mvT hZ (hw _ (List.mem_of_getElem? (i := 35) rfl))) (by decide) (backOf (W := 0) (rmFromL l Z a0 hw [] a2 arr T4.heap n0 Z4 st (0 : Int64) (0 : Int64) (FP.i2d rr) Fs4 Fc4 Fr4 E4 ga p0.1 p0.2.1 p0.2.2 p0.1 p0.2.1 p0.2.2 hc) hZ (hw _ (List.mem_of_getElem? (i := 37) rfl)) (hw _ (List.mem_of_getElem? (i := 7) rfl)) (by decide) (by decide)) q8a q8c (g := (mkF m 151 #[.val (.int xs), .val (.long st), .second, .val (.int stp), .val (.long exc), .second, .val (.int sel), .val (.long q), .second, .val (.ref a2), .val (.int (0 : Int32)), .val (.int (1 : Int32)), .val (.long (0 : Int64)), .second, .val (.long arr), .second, .unset, .unset, .unset, .unset, .unset, .unset, .unset, .unset, .unset, .unset, .unset] [(.long arr), (.ref a2)])) rfl (by rw [hml]; rfl) (Steps.refl _) (argsL := [(.long arr)]) (rest := []) (lenOf pd_0 rfl) rfl (by show 2 * 0 + _ ≤ _; exact Nat.le_of_eq rfl) (hb hby at_151) (fun _ _ => ⟨rfl, rfl, (by decide : 1 + 0 ≤ _), (by decide : 3 + 0 ≤ _)⟩)
      dsimp only [Pt.U, Pt.locs, Pt.cells, Pt.slots] at X8 l8 y8 z8 st8 hQ8
      subst l8 y8 z8
      obtain ⟨rfl, N8, K8, E8, Fs8, Fc8, Fr8⟩ := hQ8
      have Z8 : n0 ≤ T8.heap.size := Nat.le_trans Z4 K8.1
      obtain ⟨cq9, kq9, q9a, q9b, q9c⟩ := isOf hZ rfl E8
      obtain ⟨_, _, ⟨T9, L9, k9, n9⟩, -, X9, ⟨Lc9, hQ9, l9, y9, z9⟩, st9⟩ := X8.virtualBack hx (y := (⟨"com/example/earnest_load/earnestload/run/Schedule", "next", "()J"⟩ : MethodName)) (z := (⟨"com/example/earnest_load/earnestload/run/Schedule", "next", "()J"⟩ : MethodName)) hown (mvT hZ (hw _ (List.mem_of_getElem? (i := 21) rfl))) (mvT hZ (hw _ (List.mem_of_getElem? (i := 22) rfl))) (notFace_of_selects (args := #[]) (mvT hZ (hw _ (List.mem_of_getElem? (i := 24) rfl)))) (mvT hZ (hw _ (List.mem_of_getElem? (i := 24) rfl))) (mvT hZ (hw _ (List.mem_of_getElem? (i := 23) rfl))) (by decide) (backOf (W := 0) (rmNext l Z a0 hw [] a2 T8.heap n0 Z8 arr (0 + (1 : Int64)) q (FP.i2d rr) Fs8 Fc8 Fr8 E8 ga p1.1 p1.2.1 p1.2.2) hZ (hw _ (List.mem_of_getElem? (i := 25) rfl)) (hw _ (List.mem_of_getElem? (i := 7) rfl)) (by decide) (by decide)) q9a q9c (g := (mkF m 158 #[.val (.int xs), .val (.long st), .second, .val (.int stp), .val (.long exc), .second, .val (.int sel), .val (.long q), .second, .val (.ref a2), .val (.int (0 : Int32)), .val (.int (1 : Int32)), .val (.long (0 : Int64)), .second, .val (.long arr), .second, .val (.long (arr + 0)), .second, .unset, .unset, .unset, .unset, .unset, .unset, .unset, .unset, .unset] [(.ref a2)])) rfl (by rw [hml]; rfl) (Steps.refl _) (argsL := []) (rest := []) (lenOf pd_1 rfl) rfl (by show 2 * 0 + _ ≤ _; exact Nat.le_of_eq rfl) (hb hby at_158) (fun _ _ => ⟨rfl, rfl, (by decide : 1 + 0 ≤ _), (by decide : 3 + 0 ≤ _)⟩)
      dsimp only [Pt.U, Pt.locs, Pt.cells, Pt.slots] at X9 l9 y9 z9 st9 hQ9
      subst l9 y9 z9
      obtain ⟨rfl, N9, K9, E9, Fs9, Fc9, Fr9⟩ := hQ9
      obtain ⟨fs, hr, hrun, hended, hW, hsame⟩ := X9.leave (v := some (.int (1 : Int32))) (fun h => by rw [Bd.returns] at h; cases h)
      refine ⟨_, _, pre0 _ ?_, hrun, hended, _, _, rfl, ?_, ⟨_, rfl⟩, hW, hsame.mono (by decide) (by decide)⟩
      · show Steps p.tables e below (s₁.setTop (mkF m 0 #[.val (.int xs), .val (.long st), .second, .val (.int stp), .val (.long exc), .second, .unset, .unset, .unset, .unset, .unset, .unset, .unset, .unset, .unset, .unset, .unset, .unset, .unset, .unset, .unset, .unset, .unset, .unset, .unset, .unset, .unset] [])) _
        refine XS.iloadN X0.here hx rfl (hb hby at_0) rfl ?_
        show Steps p.tables e below (s₁.setTop (mkF m 1 #[.val (.int xs), .val (.long st), .second, .val (.int stp), .val (.long exc), .second, .unset, .unset, .unset, .unset, .unset, .unset, .unset, .unset, .unset, .unset, .unset, .unset, .unset, .unset, .unset, .unset, .unset, .unset, .unset, .unset, .unset] [(.int xs)])) _
        refine XS.bipush X0.here hx rfl (hb hby at_1) ?_
        show Steps p.tables e below (s₁.setTop (mkF m 3 #[.val (.int xs), .val (.long st), .second, .val (.int stp), .val (.long exc), .second, .unset, .unset, .unset, .unset, .unset, .unset, .unset, .unset, .unset, .unset, .unset, .unset, .unset, .unset, .unset, .unset, .unset, .unset, .unset, .unset, .unset] [(.int (7 : Int32)), (.int xs)])) _
        refine XS.iand X0.here hx rfl (hb hby at_3) rfl ?_
        rw [hsel]
        show Steps p.tables e below (s₁.setTop (mkF m 4 #[.val (.int xs), .val (.long st), .second, .val (.int stp), .val (.long exc), .second, .unset, .unset, .unset, .unset, .unset, .unset, .unset, .unset, .unset, .unset, .unset, .unset, .unset, .unset, .unset, .unset, .unset, .unset, .unset, .unset, .unset] [(.int sel)])) _
        refine XS.istore X0.here hx rfl (hb hby at_4) rfl (l' := #[.val (.int xs), .val (.long st), .second, .val (.int stp), .val (.long exc), .second, .val (.int sel), .unset, .unset, .unset, .unset, .unset, .unset, .unset, .unset, .unset, .unset, .unset, .unset, .unset, .unset, .unset, .unset, .unset, .unset, .unset, .unset]) rfl ?_
        show Steps p.tables e below (s₁.setTop (mkF m 6 #[.val (.int xs), .val (.long st), .second, .val (.int stp), .val (.long exc), .second, .val (.int sel), .unset, .unset, .unset, .unset, .unset, .unset, .unset, .unset, .unset, .unset, .unset, .unset, .unset, .unset, .unset, .unset, .unset, .unset, .unset, .unset] [])) _
        refine XS.iload X0.here hx rfl (hb hby at_6) rfl ?_
        show Steps p.tables e below (s₁.setTop (mkF m 8 #[.val (.int xs), .val (.long st), .second, .val (.int stp), .val (.long exc), .second, .val (.int sel), .unset, .unset, .unset, .unset, .unset, .unset, .unset, .unset, .unset, .unset, .unset, .unset, .unset, .unset, .unset, .unset, .unset, .unset, .unset, .unset] [(.int sel)])) _
        refine st1 _ ?_
        show Steps p.tables e below (T1.setTop (mkF m 11 #[.val (.int xs), .val (.long st), .second, .val (.int stp), .val (.long exc), .second, .val (.int sel), .unset, .unset, .unset, .unset, .unset, .unset, .unset, .unset, .unset, .unset, .unset, .unset, .unset, .unset, .unset, .unset, .unset, .unset, .unset, .unset] [(.long q)])) _
        refine XS.lstore X1.here hx rfl (hb hby at_11) rfl (l' := #[.val (.int xs), .val (.long st), .second, .val (.int stp), .val (.long exc), .second, .val (.int sel), .val (.long q), .second, .unset, .unset, .unset, .unset, .unset, .unset, .unset, .unset, .unset, .unset, .unset, .unset, .unset, .unset, .unset, .unset, .unset, .unset]) rfl ?_
        show Steps p.tables e below (T1.setTop (mkF m 13 #[.val (.int xs), .val (.long st), .second, .val (.int stp), .val (.long exc), .second, .val (.int sel), .val (.long q), .second, .unset, .unset, .unset, .unset, .unset, .unset, .unset, .unset, .unset, .unset, .unset, .unset, .unset, .unset, .unset, .unset, .unset, .unset] [])) _
        refine st2 _ ?_
        show Steps p.tables e below (T2.setTop (mkF m 16 #[.val (.int xs), .val (.long st), .second, .val (.int stp), .val (.long exc), .second, .val (.int sel), .val (.long q), .second, .unset, .unset, .unset, .unset, .unset, .unset, .unset, .unset, .unset, .unset, .unset, .unset, .unset, .unset, .unset, .unset, .unset, .unset] [(.ref a2)])) _
        refine XS.dup X2.here hx rfl (hb hby at_16) rfl rfl ?_
        show Steps p.tables e below (T2.setTop (mkF m 17 #[.val (.int xs), .val (.long st), .second, .val (.int stp), .val (.long exc), .second, .val (.int sel), .val (.long q), .second, .unset, .unset, .unset, .unset, .unset, .unset, .unset, .unset, .unset, .unset, .unset, .unset, .unset, .unset, .unset, .unset, .unset, .unset] [(.ref a2), (.ref a2)])) _
        refine XS.iload X2.here hx rfl (hb hby at_17) rfl ?_
        show Steps p.tables e below (T2.setTop (mkF m 19 #[.val (.int xs), .val (.long st), .second, .val (.int stp), .val (.long exc), .second, .val (.int sel), .val (.long q), .second, .unset, .unset, .unset, .unset, .unset, .unset, .unset, .unset, .unset, .unset, .unset, .unset, .unset, .unset, .unset, .unset, .unset, .unset] [(.int sel), (.ref a2), (.ref a2)])) _
        refine st3 _ ?_
        show Steps p.tables e below (T3.setTop (mkF m 22 #[.val (.int xs), .val (.long st), .second, .val (.int stp), .val (.long exc), .second, .val (.int sel), .val (.long q), .second, .unset, .unset, .unset, .unset, .unset, .unset, .unset, .unset, .unset, .unset, .unset, .unset, .unset, .unset, .unset, .unset, .unset, .unset] [(.int rr), (.ref a2), (.ref a2)])) _
        refine XS.i2dS X3.here hx rfl (hb hby at_22) rfl (v := FP.i2d rr) rfl ?_
        show Steps p.tables e below (T3.setTop (mkF m 23 #[.val (.int xs), .val (.long st), .second, .val (.int stp), .val (.long exc), .second, .val (.int sel), .val (.long q), .second, .unset, .unset, .unset, .unset, .unset, .unset, .unset, .unset, .unset, .unset, .unset, .unset, .unset, .unset, .unset, .unset, .unset, .unset] [(.double (FP.i2d rr)), (.ref a2), (.ref a2)])) _
        refine XS.lloadN X3.here hx rfl (hb hby at_23) rfl ?_
        show Steps p.tables e below (T3.setTop (mkF m 24 #[.val (.int xs), .val (.long st), .second, .val (.int stp), .val (.long exc), .second, .val (.int sel), .val (.long q), .second, .unset, .unset, .unset, .unset, .unset, .unset, .unset, .unset, .unset, .unset, .unset, .unset, .unset, .unset, .unset, .unset, .unset, .unset] [(.long st), (.double (FP.i2d rr)), (.ref a2), (.ref a2)])) _
        refine st4.trans ?_
        show Steps p.tables e below (T4.setTop (mkF m 27 #[.val (.int xs), .val (.long st), .second, .val (.int stp), .val (.long exc), .second, .val (.int sel), .val (.long q), .second, .unset, .unset, .unset, .unset, .unset, .unset, .unset, .unset, .unset, .unset, .unset, .unset, .unset, .unset, .unset, .unset, .unset, .unset] [(.ref a2)])) _
        refine XS.astore X4.here hx rfl (hb hby at_27) rfl rfl (l' := #[.val (.int xs), .val (.long st), .second, .val (.int stp), .val (.long exc), .second, .val (.int sel), .val (.long q), .second, .val (.ref a2), .unset, .unset, .unset, .unset, .unset, .unset, .unset, .unset, .unset, .unset, .unset, .unset, .unset, .unset, .unset, .unset, .unset]) rfl ?_
        show Steps p.tables e below (T4.setTop (mkF m 29 #[.val (.int xs), .val (.long st), .second, .val (.int stp), .val (.long exc), .second, .val (.int sel), .val (.long q), .second, .val (.ref a2), .unset, .unset, .unset, .unset, .unset, .unset, .unset, .unset, .unset, .unset, .unset, .unset, .unset, .unset, .unset, .unset, .unset] [])) _
        refine XS.iloadN X4.here hx rfl (hb hby at_29) rfl ?_
        show Steps p.tables e below (T4.setTop (mkF m 30 #[.val (.int xs), .val (.long st), .second, .val (.int stp), .val (.long exc), .second, .val (.int sel), .val (.long q), .second, .val (.ref a2), .unset, .unset, .unset, .unset, .unset, .unset, .unset, .unset, .unset, .unset, .unset, .unset, .unset, .unset, .unset, .unset, .unset] [(.int stp)])) _
        refine XS.iconst X4.here hx rfl (hb hby at_30) ?_
        show Steps p.tables e below (T4.setTop (mkF m 31 #[.val (.int xs), .val (.long st), .second, .val (.int stp), .val (.long exc), .second, .val (.int sel), .val (.long q), .second, .val (.ref a2), .unset, .unset, .unset, .unset, .unset, .unset, .unset, .unset, .unset, .unset, .unset, .unset, .unset, .unset, .unset, .unset, .unset] [(.int (3 : Int32)), (.int stp)])) _
        refine XS.iand X4.here hx rfl (hb hby at_31) rfl ?_
        rw [hkk]
        show Steps p.tables e below (T4.setTop (mkF m 32 #[.val (.int xs), .val (.long st), .second, .val (.int stp), .val (.long exc), .second, .val (.int sel), .val (.long q), .second, .val (.ref a2), .unset, .unset, .unset, .unset, .unset, .unset, .unset, .unset, .unset, .unset, .unset, .unset, .unset, .unset, .unset, .unset, .unset] [(.int (0 : Int32))])) _
        refine XS.istore X4.here hx rfl (hb hby at_32) rfl (l' := #[.val (.int xs), .val (.long st), .second, .val (.int stp), .val (.long exc), .second, .val (.int sel), .val (.long q), .second, .val (.ref a2), .val (.int (0 : Int32)), .unset, .unset, .unset, .unset, .unset, .unset, .unset, .unset, .unset, .unset, .unset, .unset, .unset, .unset, .unset, .unset]) rfl ?_
        show Steps p.tables e below (T4.setTop (mkF m 34 #[.val (.int xs), .val (.long st), .second, .val (.int stp), .val (.long exc), .second, .val (.int sel), .val (.long q), .second, .val (.ref a2), .val (.int (0 : Int32)), .unset, .unset, .unset, .unset, .unset, .unset, .unset, .unset, .unset, .unset, .unset, .unset, .unset, .unset, .unset, .unset] [])) _
        refine XS.iconst X4.here hx rfl (hb hby at_34) ?_
        show Steps p.tables e below (T4.setTop (mkF m 35 #[.val (.int xs), .val (.long st), .second, .val (.int stp), .val (.long exc), .second, .val (.int sel), .val (.long q), .second, .val (.ref a2), .val (.int (0 : Int32)), .unset, .unset, .unset, .unset, .unset, .unset, .unset, .unset, .unset, .unset, .unset, .unset, .unset, .unset, .unset, .unset] [(.int (1 : Int32))])) _
        refine XS.istore X4.here hx rfl (hb hby at_35) rfl (l' := #[.val (.int xs), .val (.long st), .second, .val (.int stp), .val (.long exc), .second, .val (.int sel), .val (.long q), .second, .val (.ref a2), .val (.int (0 : Int32)), .val (.int (1 : Int32)), .unset, .unset, .unset, .unset, .unset, .unset, .unset, .unset, .unset, .unset, .unset, .unset, .unset, .unset, .unset]) rfl ?_
        show Steps p.tables e below (T4.setTop (mkF m 37 #[.val (.int xs), .val (.long st), .second, .val (.int stp), .val (.long exc), .second, .val (.int sel), .val (.long q), .second, .val (.ref a2), .val (.int (0 : Int32)), .val (.int (1 : Int32)), .unset, .unset, .unset, .unset, .unset, .unset, .unset, .unset, .unset, .unset, .unset, .unset, .unset, .unset, .unset] [])) _
        refine XS.iload X4.here hx rfl (hb hby at_37) rfl ?_
        show Steps p.tables e below (T4.setTop (mkF m 39 #[.val (.int xs), .val (.long st), .second, .val (.int stp), .val (.long exc), .second, .val (.int sel), .val (.long q), .second, .val (.ref a2), .val (.int (0 : Int32)), .val (.int (1 : Int32)), .unset, .unset, .unset, .unset, .unset, .unset, .unset, .unset, .unset, .unset, .unset, .unset, .unset, .unset, .unset] [(.int (0 : Int32))])) _
        refine XS.ifYes X4.here hx rfl (pc0 := 39) (pc' := 64) rfl (hb hby at_39) rfl rfl (by decide) (by decide) ?_
        show Steps p.tables e below (T4.setTop (mkF m 64 #[.val (.int xs), .val (.long st), .second, .val (.int stp), .val (.long exc), .second, .val (.int sel), .val (.long q), .second, .val (.ref a2), .val (.int (0 : Int32)), .val (.int (1 : Int32)), .unset, .unset, .unset, .unset, .unset, .unset, .unset, .unset, .unset, .unset, .unset, .unset, .unset, .unset, .unset] [])) _
        refine XS.iload X4.here hx rfl (hb hby at_64) rfl ?_
        show Steps p.tables e below (T4.setTop (mkF m 66 #[.val (.int xs), .val (.long st), .second, .val (.int stp), .val (.long exc), .second, .val (.int sel), .val (.long q), .second, .val (.ref a2), .val (.int (0 : Int32)), .val (.int (1 : Int32)), .unset, .unset, .unset, .unset, .unset, .unset, .unset, .unset, .unset, .unset, .unset, .unset, .unset, .unset, .unset] [(.int (0 : Int32))])) _
        refine XS.iconst X4.here hx rfl (hb hby at_66) ?_
        show Steps p.tables e below (T4.setTop (mkF m 67 #[.val (.int xs), .val (.long st), .second, .val (.int stp), .val (.long exc), .second, .val (.int sel), .val (.long q), .second, .val (.ref a2), .val (.int (0 : Int32)), .val (.int (1 : Int32)), .unset, .unset, .unset, .unset, .unset, .unset, .unset, .unset, .unset, .unset, .unset, .unset, .unset, .unset, .unset] [(.int (1 : Int32)), (.int (0 : Int32))])) _
        refine XS.icmpYes X4.here hx rfl (pc0 := 67) (pc' := 95) rfl (hb hby at_67) rfl rfl (by decide) (by decide) ?_
        show Steps p.tables e below (T4.setTop (mkF m 95 #[.val (.int xs), .val (.long st), .second, .val (.int stp), .val (.long exc), .second, .val (.int sel), .val (.long q), .second, .val (.ref a2), .val (.int (0 : Int32)), .val (.int (1 : Int32)), .unset, .unset, .unset, .unset, .unset, .unset, .unset, .unset, .unset, .unset, .unset, .unset, .unset, .unset, .unset] [])) _
        refine XS.iload X4.here hx rfl (hb hby at_95) rfl ?_
        show Steps p.tables e below (T4.setTop (mkF m 97 #[.val (.int xs), .val (.long st), .second, .val (.int stp), .val (.long exc), .second, .val (.int sel), .val (.long q), .second, .val (.ref a2), .val (.int (0 : Int32)), .val (.int (1 : Int32)), .unset, .unset, .unset, .unset, .unset, .unset, .unset, .unset, .unset, .unset, .unset, .unset, .unset, .unset, .unset] [(.int (0 : Int32))])) _
        refine XS.iconst X4.here hx rfl (hb hby at_97) ?_
        show Steps p.tables e below (T4.setTop (mkF m 98 #[.val (.int xs), .val (.long st), .second, .val (.int stp), .val (.long exc), .second, .val (.int sel), .val (.long q), .second, .val (.ref a2), .val (.int (0 : Int32)), .val (.int (1 : Int32)), .unset, .unset, .unset, .unset, .unset, .unset, .unset, .unset, .unset, .unset, .unset, .unset, .unset, .unset, .unset] [(.int (2 : Int32)), (.int (0 : Int32))])) _
        refine XS.icmpYes X4.here hx rfl (pc0 := 98) (pc' := 130) rfl (hb hby at_98) rfl rfl (by decide) (by decide) ?_
        show Steps p.tables e below (T4.setTop (mkF m 130 #[.val (.int xs), .val (.long st), .second, .val (.int stp), .val (.long exc), .second, .val (.int sel), .val (.long q), .second, .val (.ref a2), .val (.int (0 : Int32)), .val (.int (1 : Int32)), .unset, .unset, .unset, .unset, .unset, .unset, .unset, .unset, .unset, .unset, .unset, .unset, .unset, .unset, .unset] [])) _
        refine XS.iload X4.here hx rfl (hb hby at_130) rfl ?_
        show Steps p.tables e below (T4.setTop (mkF m 132 #[.val (.int xs), .val (.long st), .second, .val (.int stp), .val (.long exc), .second, .val (.int sel), .val (.long q), .second, .val (.ref a2), .val (.int (0 : Int32)), .val (.int (1 : Int32)), .unset, .unset, .unset, .unset, .unset, .unset, .unset, .unset, .unset, .unset, .unset, .unset, .unset, .unset, .unset] [(.int (0 : Int32))])) _
        refine XS.i2l X4.here hx rfl (hb hby at_132) rfl ?_
        show Steps p.tables e below (T4.setTop (mkF m 133 #[.val (.int xs), .val (.long st), .second, .val (.int stp), .val (.long exc), .second, .val (.int sel), .val (.long q), .second, .val (.ref a2), .val (.int (0 : Int32)), .val (.int (1 : Int32)), .unset, .unset, .unset, .unset, .unset, .unset, .unset, .unset, .unset, .unset, .unset, .unset, .unset, .unset, .unset] [(.long ((0 : Int32).toInt64))])) _
        refine XS.lload X4.here hx rfl (hb hby at_133) rfl ?_
        show Steps p.tables e below (T4.setTop (mkF m 135 #[.val (.int xs), .val (.long st), .second, .val (.int stp), .val (.long exc), .second, .val (.int sel), .val (.long q), .second, .val (.ref a2), .val (.int (0 : Int32)), .val (.int (1 : Int32)), .unset, .unset, .unset, .unset, .unset, .unset, .unset, .unset, .unset, .unset, .unset, .unset, .unset, .unset, .unset] [(.long q), (.long ((0 : Int32).toInt64))])) _
        refine XS.lmul X4.here hx rfl (hb hby at_135) rfl ?_
        rw [k0]
        show Steps p.tables e below (T4.setTop (mkF m 136 #[.val (.int xs), .val (.long st), .second, .val (.int stp), .val (.long exc), .second, .val (.int sel), .val (.long q), .second, .val (.ref a2), .val (.int (0 : Int32)), .val (.int (1 : Int32)), .unset, .unset, .unset, .unset, .unset, .unset, .unset, .unset, .unset, .unset, .unset, .unset, .unset, .unset, .unset] [(.long (0 : Int64))])) _
        refine XS.lstore X4.here hx rfl (hb hby at_136) rfl (l' := #[.val (.int xs), .val (.long st), .second, .val (.int stp), .val (.long exc), .second, .val (.int sel), .val (.long q), .second, .val (.ref a2), .val (.int (0 : Int32)), .val (.int (1 : Int32)), .val (.long (0 : Int64)), .second, .unset, .unset, .unset, .unset, .unset, .unset, .unset, .unset, .unset, .unset, .unset, .unset, .unset]) rfl ?_
        show Steps p.tables e below (T4.setTop (mkF m 138 #[.val (.int xs), .val (.long st), .second, .val (.int stp), .val (.long exc), .second, .val (.int sel), .val (.long q), .second, .val (.ref a2), .val (.int (0 : Int32)), .val (.int (1 : Int32)), .val (.long (0 : Int64)), .second, .unset, .unset, .unset, .unset, .unset, .unset, .unset, .unset, .unset, .unset, .unset, .unset, .unset] [])) _
        refine XS.lloadN X4.here hx rfl (hb hby at_138) rfl ?_
        show Steps p.tables e below (T4.setTop (mkF m 139 #[.val (.int xs), .val (.long st), .second, .val (.int stp), .val (.long exc), .second, .val (.int sel), .val (.long q), .second, .val (.ref a2), .val (.int (0 : Int32)), .val (.int (1 : Int32)), .val (.long (0 : Int64)), .second, .unset, .unset, .unset, .unset, .unset, .unset, .unset, .unset, .unset, .unset, .unset, .unset, .unset] [(.long st)])) _
        refine XS.lload X4.here hx rfl (hb hby at_139) rfl ?_
        show Steps p.tables e below (T4.setTop (mkF m 141 #[.val (.int xs), .val (.long st), .second, .val (.int stp), .val (.long exc), .second, .val (.int sel), .val (.long q), .second, .val (.ref a2), .val (.int (0 : Int32)), .val (.int (1 : Int32)), .val (.long (0 : Int64)), .second, .unset, .unset, .unset, .unset, .unset, .unset, .unset, .unset, .unset, .unset, .unset, .unset, .unset] [(.long (0 : Int64)), (.long st)])) _
        refine XS.ladd X4.here hx rfl (hb hby at_141) rfl ?_
        show Steps p.tables e below (T4.setTop (mkF m 142 #[.val (.int xs), .val (.long st), .second, .val (.int stp), .val (.long exc), .second, .val (.int sel), .val (.long q), .second, .val (.ref a2), .val (.int (0 : Int32)), .val (.int (1 : Int32)), .val (.long (0 : Int64)), .second, .unset, .unset, .unset, .unset, .unset, .unset, .unset, .unset, .unset, .unset, .unset, .unset, .unset] [(.long (st + (0 : Int64)))])) _
        refine XS.lload X4.here hx rfl (hb hby at_142) rfl ?_
        show Steps p.tables e below (T4.setTop (mkF m 144 #[.val (.int xs), .val (.long st), .second, .val (.int stp), .val (.long exc), .second, .val (.int sel), .val (.long q), .second, .val (.ref a2), .val (.int (0 : Int32)), .val (.int (1 : Int32)), .val (.long (0 : Int64)), .second, .unset, .unset, .unset, .unset, .unset, .unset, .unset, .unset, .unset, .unset, .unset, .unset, .unset] [(.long exc), (.long (st + (0 : Int64)))])) _
        refine XS.ladd X4.here hx rfl (hb hby at_144) rfl ?_
        rw [harr]
        show Steps p.tables e below (T4.setTop (mkF m 145 #[.val (.int xs), .val (.long st), .second, .val (.int stp), .val (.long exc), .second, .val (.int sel), .val (.long q), .second, .val (.ref a2), .val (.int (0 : Int32)), .val (.int (1 : Int32)), .val (.long (0 : Int64)), .second, .unset, .unset, .unset, .unset, .unset, .unset, .unset, .unset, .unset, .unset, .unset, .unset, .unset] [(.long arr)])) _
        refine XS.lstore X4.here hx rfl (hb hby at_145) rfl (l' := #[.val (.int xs), .val (.long st), .second, .val (.int stp), .val (.long exc), .second, .val (.int sel), .val (.long q), .second, .val (.ref a2), .val (.int (0 : Int32)), .val (.int (1 : Int32)), .val (.long (0 : Int64)), .second, .val (.long arr), .second, .unset, .unset, .unset, .unset, .unset, .unset, .unset, .unset, .unset, .unset, .unset]) rfl ?_
        show Steps p.tables e below (T4.setTop (mkF m 147 #[.val (.int xs), .val (.long st), .second, .val (.int stp), .val (.long exc), .second, .val (.int sel), .val (.long q), .second, .val (.ref a2), .val (.int (0 : Int32)), .val (.int (1 : Int32)), .val (.long (0 : Int64)), .second, .val (.long arr), .second, .unset, .unset, .unset, .unset, .unset, .unset, .unset, .unset, .unset, .unset, .unset] [])) _
        refine XS.aload X4.here hx rfl (hb hby at_147) rfl rfl ?_
        show Steps p.tables e below (T4.setTop (mkF m 149 #[.val (.int xs), .val (.long st), .second, .val (.int stp), .val (.long exc), .second, .val (.int sel), .val (.long q), .second, .val (.ref a2), .val (.int (0 : Int32)), .val (.int (1 : Int32)), .val (.long (0 : Int64)), .second, .val (.long arr), .second, .unset, .unset, .unset, .unset, .unset, .unset, .unset, .unset, .unset, .unset, .unset] [(.ref a2)])) _
        refine XS.lload X4.here hx rfl (hb hby at_149) rfl ?_
        show Steps p.tables e below (T4.setTop (mkF m 151 #[.val (.int xs), .val (.long st), .second, .val (.int stp), .val (.long exc), .second, .val (.int sel), .val (.long q), .second, .val (.ref a2), .val (.int (0 : Int32)), .val (.int (1 : Int32)), .val (.long (0 : Int64)), .second, .val (.long arr), .second, .unset, .unset, .unset, .unset, .unset, .unset, .unset, .unset, .unset, .unset, .unset] [(.long arr), (.ref a2)])) _
        refine st8.trans ?_
        show Steps p.tables e below (T8.setTop (mkF m 154 #[.val (.int xs), .val (.long st), .second, .val (.int stp), .val (.long exc), .second, .val (.int sel), .val (.long q), .second, .val (.ref a2), .val (.int (0 : Int32)), .val (.int (1 : Int32)), .val (.long (0 : Int64)), .second, .val (.long arr), .second, .unset, .unset, .unset, .unset, .unset, .unset, .unset, .unset, .unset, .unset, .unset] [(.long (arr + 0))])) _
        refine XS.lstore X8.here hx rfl (hb hby at_154) rfl (l' := #[.val (.int xs), .val (.long st), .second, .val (.int stp), .val (.long exc), .second, .val (.int sel), .val (.long q), .second, .val (.ref a2), .val (.int (0 : Int32)), .val (.int (1 : Int32)), .val (.long (0 : Int64)), .second, .val (.long arr), .second, .val (.long (arr + 0)), .second, .unset, .unset, .unset, .unset, .unset, .unset, .unset, .unset, .unset]) rfl ?_
        show Steps p.tables e below (T8.setTop (mkF m 156 #[.val (.int xs), .val (.long st), .second, .val (.int stp), .val (.long exc), .second, .val (.int sel), .val (.long q), .second, .val (.ref a2), .val (.int (0 : Int32)), .val (.int (1 : Int32)), .val (.long (0 : Int64)), .second, .val (.long arr), .second, .val (.long (arr + 0)), .second, .unset, .unset, .unset, .unset, .unset, .unset, .unset, .unset, .unset] [])) _
        refine XS.aload X8.here hx rfl (hb hby at_156) rfl rfl ?_
        show Steps p.tables e below (T8.setTop (mkF m 158 #[.val (.int xs), .val (.long st), .second, .val (.int stp), .val (.long exc), .second, .val (.int sel), .val (.long q), .second, .val (.ref a2), .val (.int (0 : Int32)), .val (.int (1 : Int32)), .val (.long (0 : Int64)), .second, .val (.long arr), .second, .val (.long (arr + 0)), .second, .unset, .unset, .unset, .unset, .unset, .unset, .unset, .unset, .unset] [(.ref a2)])) _
        refine st9.trans ?_
        show Steps p.tables e below (T9.setTop (mkF m 161 #[.val (.int xs), .val (.long st), .second, .val (.int stp), .val (.long exc), .second, .val (.int sel), .val (.long q), .second, .val (.ref a2), .val (.int (0 : Int32)), .val (.int (1 : Int32)), .val (.long (0 : Int64)), .second, .val (.long arr), .second, .val (.long (arr + 0)), .second, .unset, .unset, .unset, .unset, .unset, .unset, .unset, .unset, .unset] [(.long (arr + q))])) _
        refine XS.lstore X9.here hx rfl (hb hby at_161) rfl (l' := #[.val (.int xs), .val (.long st), .second, .val (.int stp), .val (.long exc), .second, .val (.int sel), .val (.long q), .second, .val (.ref a2), .val (.int (0 : Int32)), .val (.int (1 : Int32)), .val (.long (0 : Int64)), .second, .val (.long arr), .second, .val (.long (arr + 0)), .second, .val (.long (arr + q)), .second, .unset, .unset, .unset, .unset, .unset, .unset, .unset]) rfl ?_
        show Steps p.tables e below (T9.setTop (mkF m 163 #[.val (.int xs), .val (.long st), .second, .val (.int stp), .val (.long exc), .second, .val (.int sel), .val (.long q), .second, .val (.ref a2), .val (.int (0 : Int32)), .val (.int (1 : Int32)), .val (.long (0 : Int64)), .second, .val (.long arr), .second, .val (.long (arr + 0)), .second, .val (.long (arr + q)), .second, .unset, .unset, .unset, .unset, .unset, .unset, .unset] [])) _
        refine XS.lloadN X9.here hx rfl (hb hby at_163) rfl ?_
        show Steps p.tables e below (T9.setTop (mkF m 164 #[.val (.int xs), .val (.long st), .second, .val (.int stp), .val (.long exc), .second, .val (.int sel), .val (.long q), .second, .val (.ref a2), .val (.int (0 : Int32)), .val (.int (1 : Int32)), .val (.long (0 : Int64)), .second, .val (.long arr), .second, .val (.long (arr + 0)), .second, .val (.long (arr + q)), .second, .unset, .unset, .unset, .unset, .unset, .unset, .unset] [(.long st)])) _
        refine XS.lload X9.here hx rfl (hb hby at_164) rfl ?_
        show Steps p.tables e below (T9.setTop (mkF m 166 #[.val (.int xs), .val (.long st), .second, .val (.int stp), .val (.long exc), .second, .val (.int sel), .val (.long q), .second, .val (.ref a2), .val (.int (0 : Int32)), .val (.int (1 : Int32)), .val (.long (0 : Int64)), .second, .val (.long arr), .second, .val (.long (arr + 0)), .second, .val (.long (arr + q)), .second, .unset, .unset, .unset, .unset, .unset, .unset, .unset] [(.long (0 : Int64)), (.long st)])) _
        refine XS.ladd X9.here hx rfl (hb hby at_166) rfl ?_
        show Steps p.tables e below (T9.setTop (mkF m 167 #[.val (.int xs), .val (.long st), .second, .val (.int stp), .val (.long exc), .second, .val (.int sel), .val (.long q), .second, .val (.ref a2), .val (.int (0 : Int32)), .val (.int (1 : Int32)), .val (.long (0 : Int64)), .second, .val (.long arr), .second, .val (.long (arr + 0)), .second, .val (.long (arr + q)), .second, .unset, .unset, .unset, .unset, .unset, .unset, .unset] [(.long (st + (0 : Int64)))])) _
        refine XS.lstore X9.here hx rfl (hb hby at_167) rfl (l' := #[.val (.int xs), .val (.long st), .second, .val (.int stp), .val (.long exc), .second, .val (.int sel), .val (.long q), .second, .val (.ref a2), .val (.int (0 : Int32)), .val (.int (1 : Int32)), .val (.long (0 : Int64)), .second, .val (.long arr), .second, .val (.long (arr + 0)), .second, .val (.long (arr + q)), .second, .val (.long (st + (0 : Int64))), .second, .unset, .unset, .unset, .unset, .unset]) rfl ?_
        show Steps p.tables e below (T9.setTop (mkF m 169 #[.val (.int xs), .val (.long st), .second, .val (.int stp), .val (.long exc), .second, .val (.int sel), .val (.long q), .second, .val (.ref a2), .val (.int (0 : Int32)), .val (.int (1 : Int32)), .val (.long (0 : Int64)), .second, .val (.long arr), .second, .val (.long (arr + 0)), .second, .val (.long (arr + q)), .second, .val (.long (st + (0 : Int64))), .second, .unset, .unset, .unset, .unset, .unset] [])) _
        refine XS.lload X9.here hx rfl (hb hby at_169) rfl ?_
        show Steps p.tables e below (T9.setTop (mkF m 171 #[.val (.int xs), .val (.long st), .second, .val (.int stp), .val (.long exc), .second, .val (.int sel), .val (.long q), .second, .val (.ref a2), .val (.int (0 : Int32)), .val (.int (1 : Int32)), .val (.long (0 : Int64)), .second, .val (.long arr), .second, .val (.long (arr + 0)), .second, .val (.long (arr + q)), .second, .val (.long (st + (0 : Int64))), .second, .unset, .unset, .unset, .unset, .unset] [(.long arr)])) _
        refine XS.lloadN X9.here hx rfl (hb hby at_171) rfl ?_
        show Steps p.tables e below (T9.setTop (mkF m 172 #[.val (.int xs), .val (.long st), .second, .val (.int stp), .val (.long exc), .second, .val (.int sel), .val (.long q), .second, .val (.ref a2), .val (.int (0 : Int32)), .val (.int (1 : Int32)), .val (.long (0 : Int64)), .second, .val (.long arr), .second, .val (.long (arr + 0)), .second, .val (.long (arr + q)), .second, .val (.long (st + (0 : Int64))), .second, .unset, .unset, .unset, .unset, .unset] [(.long st), (.long arr)])) _
        refine XS.lsub X9.here hx rfl (hb hby at_172) rfl ?_
        show Steps p.tables e below (T9.setTop (mkF m 173 #[.val (.int xs), .val (.long st), .second, .val (.int stp), .val (.long exc), .second, .val (.int sel), .val (.long q), .second, .val (.ref a2), .val (.int (0 : Int32)), .val (.int (1 : Int32)), .val (.long (0 : Int64)), .second, .val (.long arr), .second, .val (.long (arr + 0)), .second, .val (.long (arr + q)), .second, .val (.long (st + (0 : Int64))), .second, .unset, .unset, .unset, .unset, .unset] [(.long (arr - st))])) _
        refine XS.lload X9.here hx rfl (hb hby at_173) rfl ?_
        show Steps p.tables e below (T9.setTop (mkF m 175 #[.val (.int xs), .val (.long st), .second, .val (.int stp), .val (.long exc), .second, .val (.int sel), .val (.long q), .second, .val (.ref a2), .val (.int (0 : Int32)), .val (.int (1 : Int32)), .val (.long (0 : Int64)), .second, .val (.long arr), .second, .val (.long (arr + 0)), .second, .val (.long (arr + q)), .second, .val (.long (st + (0 : Int64))), .second, .unset, .unset, .unset, .unset, .unset] [(.long (0 : Int64)), (.long (arr - st))])) _
        refine XS.lcmp X9.here hx rfl (hb hby at_175) rfl ?_
        show Steps p.tables e below (T9.setTop (mkF m 176 #[.val (.int xs), .val (.long st), .second, .val (.int stp), .val (.long exc), .second, .val (.int sel), .val (.long q), .second, .val (.ref a2), .val (.int (0 : Int32)), .val (.int (1 : Int32)), .val (.long (0 : Int64)), .second, .val (.long arr), .second, .val (.long (arr + 0)), .second, .val (.long (arr + q)), .second, .val (.long (st + (0 : Int64))), .second, .unset, .unset, .unset, .unset, .unset] [(.int (lcmpW (arr - st) (0 : Int64)))])) _
        refine XS.ifNo X9.here hx rfl (hb hby at_176) rfl ((Jvm.Own.holdsL _ _ _).trans (Jvm.Own.dF (by omega))) ?_
        show Steps p.tables e below (T9.setTop (mkF m 179 #[.val (.int xs), .val (.long st), .second, .val (.int stp), .val (.long exc), .second, .val (.int sel), .val (.long q), .second, .val (.ref a2), .val (.int (0 : Int32)), .val (.int (1 : Int32)), .val (.long (0 : Int64)), .second, .val (.long arr), .second, .val (.long (arr + 0)), .second, .val (.long (arr + q)), .second, .val (.long (st + (0 : Int64))), .second, .unset, .unset, .unset, .unset, .unset] [])) _
        refine XS.iconst X9.here hx rfl (hb hby at_179) ?_
        show Steps p.tables e below (T9.setTop (mkF m 180 #[.val (.int xs), .val (.long st), .second, .val (.int stp), .val (.long exc), .second, .val (.int sel), .val (.long q), .second, .val (.ref a2), .val (.int (0 : Int32)), .val (.int (1 : Int32)), .val (.long (0 : Int64)), .second, .val (.long arr), .second, .val (.long (arr + 0)), .second, .val (.long (arr + q)), .second, .val (.long (st + (0 : Int64))), .second, .unset, .unset, .unset, .unset, .unset] [(.int (1 : Int32))])) _
        refine XS.goto X9.here hx rfl (pc0 := 180) (pc' := 184) rfl (hb hby at_180) (by decide) (by decide) ?_
        show Steps p.tables e below (T9.setTop (mkF m 184 #[.val (.int xs), .val (.long st), .second, .val (.int stp), .val (.long exc), .second, .val (.int sel), .val (.long q), .second, .val (.ref a2), .val (.int (0 : Int32)), .val (.int (1 : Int32)), .val (.long (0 : Int64)), .second, .val (.long arr), .second, .val (.long (arr + 0)), .second, .val (.long (arr + q)), .second, .val (.long (st + (0 : Int64))), .second, .unset, .unset, .unset, .unset, .unset] [(.int (1 : Int32))])) _
        refine XS.istore X9.here hx rfl (hb hby at_184) rfl (l' := #[.val (.int xs), .val (.long st), .second, .val (.int stp), .val (.long exc), .second, .val (.int sel), .val (.long q), .second, .val (.ref a2), .val (.int (0 : Int32)), .val (.int (1 : Int32)), .val (.long (0 : Int64)), .second, .val (.long arr), .second, .val (.long (arr + 0)), .second, .val (.long (arr + q)), .second, .val (.long (st + (0 : Int64))), .second, .val (.int (1 : Int32)), .unset, .unset, .unset, .unset]) rfl ?_
        show Steps p.tables e below (T9.setTop (mkF m 186 #[.val (.int xs), .val (.long st), .second, .val (.int stp), .val (.long exc), .second, .val (.int sel), .val (.long q), .second, .val (.ref a2), .val (.int (0 : Int32)), .val (.int (1 : Int32)), .val (.long (0 : Int64)), .second, .val (.long arr), .second, .val (.long (arr + 0)), .second, .val (.long (arr + q)), .second, .val (.long (st + (0 : Int64))), .second, .val (.int (1 : Int32)), .unset, .unset, .unset, .unset] [])) _
        refine XS.iload X9.here hx rfl (hb hby at_186) rfl ?_
        show Steps p.tables e below (T9.setTop (mkF m 188 #[.val (.int xs), .val (.long st), .second, .val (.int stp), .val (.long exc), .second, .val (.int sel), .val (.long q), .second, .val (.ref a2), .val (.int (0 : Int32)), .val (.int (1 : Int32)), .val (.long (0 : Int64)), .second, .val (.long arr), .second, .val (.long (arr + 0)), .second, .val (.long (arr + q)), .second, .val (.long (st + (0 : Int64))), .second, .val (.int (1 : Int32)), .unset, .unset, .unset, .unset] [(.int (1 : Int32))])) _
        refine XS.ifNo X9.here hx rfl (hb hby at_188) rfl rfl ?_
        show Steps p.tables e below (T9.setTop (mkF m 191 #[.val (.int xs), .val (.long st), .second, .val (.int stp), .val (.long exc), .second, .val (.int sel), .val (.long q), .second, .val (.ref a2), .val (.int (0 : Int32)), .val (.int (1 : Int32)), .val (.long (0 : Int64)), .second, .val (.long arr), .second, .val (.long (arr + 0)), .second, .val (.long (arr + q)), .second, .val (.long (st + (0 : Int64))), .second, .val (.int (1 : Int32)), .unset, .unset, .unset, .unset] [])) _
        refine XS.lload X9.here hx rfl (hb hby at_191) rfl ?_
        show Steps p.tables e below (T9.setTop (mkF m 193 #[.val (.int xs), .val (.long st), .second, .val (.int stp), .val (.long exc), .second, .val (.int sel), .val (.long q), .second, .val (.ref a2), .val (.int (0 : Int32)), .val (.int (1 : Int32)), .val (.long (0 : Int64)), .second, .val (.long arr), .second, .val (.long (arr + 0)), .second, .val (.long (arr + q)), .second, .val (.long (st + (0 : Int64))), .second, .val (.int (1 : Int32)), .unset, .unset, .unset, .unset] [(.long arr)])) _
        refine XS.goto X9.here hx rfl (pc0 := 193) (pc' := 198) rfl (hb hby at_193) (by decide) (by decide) ?_
        show Steps p.tables e below (T9.setTop (mkF m 198 #[.val (.int xs), .val (.long st), .second, .val (.int stp), .val (.long exc), .second, .val (.int sel), .val (.long q), .second, .val (.ref a2), .val (.int (0 : Int32)), .val (.int (1 : Int32)), .val (.long (0 : Int64)), .second, .val (.long arr), .second, .val (.long (arr + 0)), .second, .val (.long (arr + q)), .second, .val (.long (st + (0 : Int64))), .second, .val (.int (1 : Int32)), .unset, .unset, .unset, .unset] [(.long arr)])) _
        refine XS.lstore X9.here hx rfl (hb hby at_198) rfl (l' := #[.val (.int xs), .val (.long st), .second, .val (.int stp), .val (.long exc), .second, .val (.int sel), .val (.long q), .second, .val (.ref a2), .val (.int (0 : Int32)), .val (.int (1 : Int32)), .val (.long (0 : Int64)), .second, .val (.long arr), .second, .val (.long (arr + 0)), .second, .val (.long (arr + q)), .second, .val (.long (st + (0 : Int64))), .second, .val (.int (1 : Int32)), .val (.long arr), .second, .unset, .unset]) rfl ?_
        show Steps p.tables e below (T9.setTop (mkF m 200 #[.val (.int xs), .val (.long st), .second, .val (.int stp), .val (.long exc), .second, .val (.int sel), .val (.long q), .second, .val (.ref a2), .val (.int (0 : Int32)), .val (.int (1 : Int32)), .val (.long (0 : Int64)), .second, .val (.long arr), .second, .val (.long (arr + 0)), .second, .val (.long (arr + q)), .second, .val (.long (st + (0 : Int64))), .second, .val (.int (1 : Int32)), .val (.long arr), .second, .unset, .unset] [])) _
        refine XS.lload X9.here hx rfl (hb hby at_200) rfl ?_
        show Steps p.tables e below (T9.setTop (mkF m 202 #[.val (.int xs), .val (.long st), .second, .val (.int stp), .val (.long exc), .second, .val (.int sel), .val (.long q), .second, .val (.ref a2), .val (.int (0 : Int32)), .val (.int (1 : Int32)), .val (.long (0 : Int64)), .second, .val (.long arr), .second, .val (.long (arr + 0)), .second, .val (.long (arr + q)), .second, .val (.long (st + (0 : Int64))), .second, .val (.int (1 : Int32)), .val (.long arr), .second, .unset, .unset] [(.long arr)])) _
        refine XS.lload X9.here hx rfl (hb hby at_202) rfl ?_
        show Steps p.tables e below (T9.setTop (mkF m 204 #[.val (.int xs), .val (.long st), .second, .val (.int stp), .val (.long exc), .second, .val (.int sel), .val (.long q), .second, .val (.ref a2), .val (.int (0 : Int32)), .val (.int (1 : Int32)), .val (.long (0 : Int64)), .second, .val (.long arr), .second, .val (.long (arr + 0)), .second, .val (.long (arr + q)), .second, .val (.long (st + (0 : Int64))), .second, .val (.int (1 : Int32)), .val (.long arr), .second, .unset, .unset] [(.long q), (.long arr)])) _
        refine XS.ladd X9.here hx rfl (hb hby at_204) rfl ?_
        show Steps p.tables e below (T9.setTop (mkF m 205 #[.val (.int xs), .val (.long st), .second, .val (.int stp), .val (.long exc), .second, .val (.int sel), .val (.long q), .second, .val (.ref a2), .val (.int (0 : Int32)), .val (.int (1 : Int32)), .val (.long (0 : Int64)), .second, .val (.long arr), .second, .val (.long (arr + 0)), .second, .val (.long (arr + q)), .second, .val (.long (st + (0 : Int64))), .second, .val (.int (1 : Int32)), .val (.long arr), .second, .unset, .unset] [(.long (arr + q))])) _
        refine XS.lstore X9.here hx rfl (hb hby at_205) rfl (l' := #[.val (.int xs), .val (.long st), .second, .val (.int stp), .val (.long exc), .second, .val (.int sel), .val (.long q), .second, .val (.ref a2), .val (.int (0 : Int32)), .val (.int (1 : Int32)), .val (.long (0 : Int64)), .second, .val (.long arr), .second, .val (.long (arr + 0)), .second, .val (.long (arr + q)), .second, .val (.long (st + (0 : Int64))), .second, .val (.int (1 : Int32)), .val (.long arr), .second, .val (.long (arr + q)), .second]) rfl ?_
        show Steps p.tables e below (T9.setTop (mkF m 207 #[.val (.int xs), .val (.long st), .second, .val (.int stp), .val (.long exc), .second, .val (.int sel), .val (.long q), .second, .val (.ref a2), .val (.int (0 : Int32)), .val (.int (1 : Int32)), .val (.long (0 : Int64)), .second, .val (.long arr), .second, .val (.long (arr + 0)), .second, .val (.long (arr + q)), .second, .val (.long (st + (0 : Int64))), .second, .val (.int (1 : Int32)), .val (.long arr), .second, .val (.long (arr + q)), .second] [])) _
        refine XS.iload X9.here hx rfl (hb hby at_207) rfl ?_
        show Steps p.tables e below (T9.setTop (mkF m 209 #[.val (.int xs), .val (.long st), .second, .val (.int stp), .val (.long exc), .second, .val (.int sel), .val (.long q), .second, .val (.ref a2), .val (.int (0 : Int32)), .val (.int (1 : Int32)), .val (.long (0 : Int64)), .second, .val (.long arr), .second, .val (.long (arr + 0)), .second, .val (.long (arr + q)), .second, .val (.long (st + (0 : Int64))), .second, .val (.int (1 : Int32)), .val (.long arr), .second, .val (.long (arr + q)), .second] [(.int (1 : Int32))])) _
        refine XS.ifNo X9.here hx rfl (hb hby at_209) rfl rfl ?_
        show Steps p.tables e below (T9.setTop (mkF m 212 #[.val (.int xs), .val (.long st), .second, .val (.int stp), .val (.long exc), .second, .val (.int sel), .val (.long q), .second, .val (.ref a2), .val (.int (0 : Int32)), .val (.int (1 : Int32)), .val (.long (0 : Int64)), .second, .val (.long arr), .second, .val (.long (arr + 0)), .second, .val (.long (arr + q)), .second, .val (.long (st + (0 : Int64))), .second, .val (.int (1 : Int32)), .val (.long arr), .second, .val (.long (arr + q)), .second] [])) _
        refine XS.lload X9.here hx rfl (hb hby at_212) rfl ?_
        show Steps p.tables e below (T9.setTop (mkF m 214 #[.val (.int xs), .val (.long st), .second, .val (.int stp), .val (.long exc), .second, .val (.int sel), .val (.long q), .second, .val (.ref a2), .val (.int (0 : Int32)), .val (.int (1 : Int32)), .val (.long (0 : Int64)), .second, .val (.long arr), .second, .val (.long (arr + 0)), .second, .val (.long (arr + q)), .second, .val (.long (st + (0 : Int64))), .second, .val (.int (1 : Int32)), .val (.long arr), .second, .val (.long (arr + q)), .second] [(.long (arr + 0))])) _
        refine XS.lload X9.here hx rfl (hb hby at_214) rfl ?_
        show Steps p.tables e below (T9.setTop (mkF m 216 #[.val (.int xs), .val (.long st), .second, .val (.int stp), .val (.long exc), .second, .val (.int sel), .val (.long q), .second, .val (.ref a2), .val (.int (0 : Int32)), .val (.int (1 : Int32)), .val (.long (0 : Int64)), .second, .val (.long arr), .second, .val (.long (arr + 0)), .second, .val (.long (arr + q)), .second, .val (.long (st + (0 : Int64))), .second, .val (.int (1 : Int32)), .val (.long arr), .second, .val (.long (arr + q)), .second] [(.long arr), (.long (arr + 0))])) _
        refine XS.lcmp X9.here hx rfl (hb hby at_216) rfl ?_
        show Steps p.tables e below (T9.setTop (mkF m 217 #[.val (.int xs), .val (.long st), .second, .val (.int stp), .val (.long exc), .second, .val (.int sel), .val (.long q), .second, .val (.ref a2), .val (.int (0 : Int32)), .val (.int (1 : Int32)), .val (.long (0 : Int64)), .second, .val (.long arr), .second, .val (.long (arr + 0)), .second, .val (.long (arr + q)), .second, .val (.long (st + (0 : Int64))), .second, .val (.int (1 : Int32)), .val (.long arr), .second, .val (.long (arr + q)), .second] [(.int (lcmpW (arr + 0) arr))])) _
        refine XS.ifNo X9.here hx rfl (hb hby at_217) rfl ((Jvm.Own.holdsL _ _ _).trans (Jvm.Own.dF (by rw [sz]; exact fun q => q rfl))) ?_
        show Steps p.tables e below (T9.setTop (mkF m 220 #[.val (.int xs), .val (.long st), .second, .val (.int stp), .val (.long exc), .second, .val (.int sel), .val (.long q), .second, .val (.ref a2), .val (.int (0 : Int32)), .val (.int (1 : Int32)), .val (.long (0 : Int64)), .second, .val (.long arr), .second, .val (.long (arr + 0)), .second, .val (.long (arr + q)), .second, .val (.long (st + (0 : Int64))), .second, .val (.int (1 : Int32)), .val (.long arr), .second, .val (.long (arr + q)), .second] [])) _
        refine XS.lload X9.here hx rfl (hb hby at_220) rfl ?_
        show Steps p.tables e below (T9.setTop (mkF m 222 #[.val (.int xs), .val (.long st), .second, .val (.int stp), .val (.long exc), .second, .val (.int sel), .val (.long q), .second, .val (.ref a2), .val (.int (0 : Int32)), .val (.int (1 : Int32)), .val (.long (0 : Int64)), .second, .val (.long arr), .second, .val (.long (arr + 0)), .second, .val (.long (arr + q)), .second, .val (.long (st + (0 : Int64))), .second, .val (.int (1 : Int32)), .val (.long arr), .second, .val (.long (arr + q)), .second] [(.long (arr + q))])) _
        refine XS.lload X9.here hx rfl (hb hby at_222) rfl ?_
        show Steps p.tables e below (T9.setTop (mkF m 224 #[.val (.int xs), .val (.long st), .second, .val (.int stp), .val (.long exc), .second, .val (.int sel), .val (.long q), .second, .val (.ref a2), .val (.int (0 : Int32)), .val (.int (1 : Int32)), .val (.long (0 : Int64)), .second, .val (.long arr), .second, .val (.long (arr + 0)), .second, .val (.long (arr + q)), .second, .val (.long (st + (0 : Int64))), .second, .val (.int (1 : Int32)), .val (.long arr), .second, .val (.long (arr + q)), .second] [(.long (arr + q)), (.long (arr + q))])) _
        refine XS.lcmp X9.here hx rfl (hb hby at_224) rfl ?_
        show Steps p.tables e below (T9.setTop (mkF m 225 #[.val (.int xs), .val (.long st), .second, .val (.int stp), .val (.long exc), .second, .val (.int sel), .val (.long q), .second, .val (.ref a2), .val (.int (0 : Int32)), .val (.int (1 : Int32)), .val (.long (0 : Int64)), .second, .val (.long arr), .second, .val (.long (arr + 0)), .second, .val (.long (arr + q)), .second, .val (.long (st + (0 : Int64))), .second, .val (.int (1 : Int32)), .val (.long arr), .second, .val (.long (arr + q)), .second] [(.int (lcmpW (arr + q) (arr + q)))])) _
        refine XS.ifNo X9.here hx rfl (hb hby at_225) rfl ((Jvm.Own.holdsL _ _ _).trans (Jvm.Own.dF (fun q => q rfl))) ?_
        show Steps p.tables e below (T9.setTop (mkF m 228 #[.val (.int xs), .val (.long st), .second, .val (.int stp), .val (.long exc), .second, .val (.int sel), .val (.long q), .second, .val (.ref a2), .val (.int (0 : Int32)), .val (.int (1 : Int32)), .val (.long (0 : Int64)), .second, .val (.long arr), .second, .val (.long (arr + 0)), .second, .val (.long (arr + q)), .second, .val (.long (st + (0 : Int64))), .second, .val (.int (1 : Int32)), .val (.long arr), .second, .val (.long (arr + q)), .second] [])) _
        refine XS.iconst X9.here hx rfl (hb hby at_228) ?_
        show Steps p.tables e below (T9.setTop (mkF m 229 #[.val (.int xs), .val (.long st), .second, .val (.int stp), .val (.long exc), .second, .val (.int sel), .val (.long q), .second, .val (.ref a2), .val (.int (0 : Int32)), .val (.int (1 : Int32)), .val (.long (0 : Int64)), .second, .val (.long arr), .second, .val (.long (arr + 0)), .second, .val (.long (arr + q)), .second, .val (.long (st + (0 : Int64))), .second, .val (.int (1 : Int32)), .val (.long arr), .second, .val (.long (arr + q)), .second] [(.int (1 : Int32))])) _
        refine XS.goto X9.here hx rfl (pc0 := 229) (pc' := 233) rfl (hb hby at_229) (by decide) (by decide) ?_
        show Steps p.tables e below (T9.setTop (mkF m 233 #[.val (.int xs), .val (.long st), .second, .val (.int stp), .val (.long exc), .second, .val (.int sel), .val (.long q), .second, .val (.ref a2), .val (.int (0 : Int32)), .val (.int (1 : Int32)), .val (.long (0 : Int64)), .second, .val (.long arr), .second, .val (.long (arr + 0)), .second, .val (.long (arr + q)), .second, .val (.long (st + (0 : Int64))), .second, .val (.int (1 : Int32)), .val (.long arr), .second, .val (.long (arr + q)), .second] [(.int (1 : Int32))])) _
        exact retN X9 hx (t := .boolean) Bd.returns (by simp) (hb hby at_233) hr
      · show QL n0 _ T9.heap _
        exact ⟨rfl, (Fr.app (Fr.app (Fr.app (Fr.app (Fr.app N0 N1) N3) N4) N8) N9)⟩
    · obtain ⟨_, _, ⟨T1, L1, k1, n1⟩, -, X1, ⟨Lc1, hQ1, l1, y1, z1⟩, st1⟩ := Jvm.LawKit.callS X0 hx (y := (⟨"com/example/earnest_load/earnestload/run/ScheduleNextFromPinLaw", "period", "(I)J"⟩ : MethodName)) hown (mvT hZ (hw _ (List.mem_of_getElem? (i := 0) rfl))) (mvT hZ (hw _ (List.mem_of_getElem? (i := 1) rfl))) (mvT hZ (hw _ (List.mem_of_getElem? (i := 2) rfl))) (mvT hZ (hw _ (List.mem_of_getElem? (i := 3) rfl))) (by decide) (backOf (W := 0) (rmPer l Z a0 hw [] sel h0 n0 Z0 q rr htri) hZ (hw _ (List.mem_of_getElem? (i := 3) rfl)) (hw _ (List.mem_of_getElem? (i := 2) rfl)) (by decide) (by decide)) (g := (mkF m 8 #[.val (.int xs), .val (.long st), .second, .val (.int stp), .val (.long exc), .second, .val (.int sel), .unset, .unset, .unset, .unset, .unset, .unset, .unset, .unset, .unset, .unset, .unset, .unset, .unset, .unset, .unset, .unset, .unset, .unset, .unset, .unset] [(.int sel)])) rfl (by rw [hml]; rfl) (argsL := [(.int sel)]) (rest := []) (lenOf pd_2 rfl) rfl (by show 2 * 0 + _ ≤ _; exact Nat.le_of_eq rfl) (hb hby at_8) (fun _ _ => ⟨rfl, e0, (by decide : 0 + 0 ≤ _), (by decide : 0 + 0 ≤ _)⟩)
      dsimp only [Pt.U, Pt.locs, Pt.cells, Pt.slots] at X1 l1 y1 z1 st1 hQ1
      subst l1 y1 z1
      obtain ⟨rfl, N1, e1⟩ := hQ1
      obtain ⟨T2, h2, X2, e2, E2, A2, D2, -, st2⟩ := newO X1 hx hZ hown (hw _ (List.mem_of_getElem? (i := 5) rfl)) (hw _ (List.mem_of_getElem? (i := 6) rfl)) (hw _ (List.mem_of_getElem? (i := 7) rfl)) e1 (g := (mkF m 13 #[.val (.int xs), .val (.long st), .second, .val (.int stp), .val (.long exc), .second, .val (.int sel), .val (.long q), .second, .unset, .unset, .unset, .unset, .unset, .unset, .unset, .unset, .unset, .unset, .unset, .unset, .unset, .unset, .unset, .unset, .unset, .unset] [])) rfl (hb hby at_13) (by decide) (by decide)
      obtain ⟨a2, g2⟩ : ∃ z, z = h0.size := ⟨_, rfl⟩
      rw [← g2] at A2 D2 st2
      have D_start := D2 (Or.inl (hw _ (List.mem_of_getElem? (i := 20) rfl))) (ty := .long) (by decide)
      have D_count := D2 (Or.inl (hw _ (List.mem_of_getElem? (i := 27) rfl))) (ty := .long) (by decide)
      have D_rate := D2 (Or.inr (hw _ (List.mem_of_getElem? (i := 18) rfl))) (ty := .double) (by decide)
      have Z2 : n0 ≤ h2.size := Nat.le_trans Z0 E2.1
      have ga : n0 ≤ a2 := Nat.le_trans Z0 (Nat.le_of_eq g2.symm)
      obtain ⟨_, _, ⟨T3, L3, k3, n3⟩, -, X3, ⟨Lc3, hQ3, l3, y3, z3⟩, st3⟩ := Jvm.LawKit.callS X2 hx (y := (⟨"com/example/earnest_load/earnestload/run/ScheduleNextFromPinLaw", "rate", "(I)I"⟩ : MethodName)) hown (mvT hZ (hw _ (List.mem_of_getElem? (i := 8) rfl))) (mvT hZ (hw _ (List.mem_of_getElem? (i := 9) rfl))) (mvT hZ (hw _ (List.mem_of_getElem? (i := 2) rfl))) (mvT hZ (hw _ (List.mem_of_getElem? (i := 10) rfl))) (by decide) (backOf (W := 2) (rmRate l Z a0 hw [] sel h2 n0 Z2 q rr htri) hZ (hw _ (List.mem_of_getElem? (i := 10) rfl)) (hw _ (List.mem_of_getElem? (i := 2) rfl)) (by decide) (by decide)) (g := (mkF m 19 #[.val (.int xs), .val (.long st), .second, .val (.int stp), .val (.long exc), .second, .val (.int sel), .val (.long q), .second, .unset, .unset, .unset, .unset, .unset, .unset, .unset, .unset, .unset, .unset, .unset, .unset, .unset, .unset, .unset, .unset, .unset, .unset] [(.int sel), (.ref a2), (.ref a2)])) rfl (by rw [hml]; rfl) (argsL := [(.int sel)]) (rest := [(.ref a2), (.ref a2)]) (lenOf pd_3 rfl) rfl (by show 2 * 0 + _ ≤ _; exact Nat.le_of_eq rfl) (hb hby at_19) (fun _ _ => ⟨rfl, e2, (by decide : 1 + 0 ≤ _), (by decide : 3 + 0 ≤ _)⟩)
      dsimp only [Pt.U, Pt.locs, Pt.cells, Pt.slots] at X3 l3 y3 z3 st3 hQ3
      subst l3 y3 z3
      obtain ⟨rfl, N3, e3⟩ := hQ3
      obtain ⟨_, _, ⟨T4, L4, k4, n4⟩, -, X4, ⟨Lc4, hQ4, l4, y4, z4⟩, st4⟩ := X3.specialBack hx (y := (⟨"com/example/earnest_load/earnestload/run/Schedule", "<init>", "(DJ)V"⟩ : MethodName)) rfl hown (mvT hZ (hw _ (List.mem_of_getElem? (i := 11) rfl))) (mvT hZ (hw _ (List.mem_of_getElem? (i := 12) rfl))) (mvT hZ (hw _ (List.mem_of_getElem? (i := 13) rfl))) (by decide) (backOf (W := 1) (rmInit l Z a0 hw [] a2 (FP.i2d rr) st h2 n0 Z2 A2 ga D_start D_count D_rate) hZ (hw _ (List.mem_of_getElem? (i := 13) rfl)) (hw _ (List.mem_of_getElem? (i := 7) rfl)) (by decide) (by decide)) (g := (mkF m 24 #[.val (.int xs), .val (.long st), .second, .val (.int stp), .val (.long exc), .second, .val (.int sel), .val (.long q), .second, .unset, .unset, .unset, .unset, .unset, .unset, .unset, .unset, .unset, .unset, .unset, .unset, .unset, .unset, .unset, .unset, .unset, .unset] [(.long st), (.double (FP.i2d rr)), (.ref a2), (.ref a2)])) rfl (by rw [hml]; rfl) (Steps.refl _) (a := a2) (argsL := [(.double (FP.i2d rr)), (.long st)]) (rest := [(.ref a2)]) (lenOf pd_4 rfl) rfl (by show 2 * 0 + _ ≤ _; exact Nat.le_of_eq rfl) (hb hby at_24) (fun _ _ => ⟨rfl, e3, (by decide : 1 + 0 ≤ _), (by decide : 3 + 0 ≤ _)⟩)
      dsimp only [Pt.U, Pt.locs, Pt.cells, Pt.slots] at X4 l4 y4 z4 st4 hQ4
      subst l4 y4 z4
      obtain ⟨rfl, N4, K4, E4, Fs4, Fc4, Fr4⟩ := hQ4
      have Z4 : n0 ≤ T4.heap.size := Nat.le_trans Z2 K4.1
      obtain ⟨cq8, kq8, q8a, q8b, q8c⟩ := isOf hZ rfl E4
      obtain ⟨_, _, ⟨T8, L8, k8, n8⟩, -, X8, ⟨Lc8, hQ8, l8, y8, z8⟩, st8⟩ := X4.virtualBack hx (y := (⟨"com/example/earnest_load/earnestload/run/Schedule", "nextFrom", "(J)J"⟩ : MethodName)) (z := (⟨"com/example/earnest_load/earnestload/run/Schedule", "nextFrom", "(J)J"⟩ : MethodName)) hown (mvT hZ (hw _ (List.mem_of_getElem? (i := 33) rfl))) (mvT hZ (hw _ (List.mem_of_getElem? (i := 34) rfl))) (notFace_of_selects (args := #[]) (mvT hZ (hw _ (List.mem_of_getElem? (i := 36) rfl)))) (mvT hZ (hw _ (List.mem_of_getElem? (i := 36) rfl))) (mvT hZ (hw _ (List.mem_of_getElem? (i := 35) rfl))) (by decide) (backOf (W := 0) (rmFromN l Z a0 hw [] a2 arr T4.heap n0 Z4 st (0 : Int64) (0 : Int64) (FP.i2d rr) Fs4 Fc4 Fr4 E4 ga p0.1 p0.2.1 p0.2.2 p0.1 p0.2.1 p0.2.2 hc) hZ (hw _ (List.mem_of_getElem? (i := 37) rfl)) (hw _ (List.mem_of_getElem? (i := 7) rfl)) (by decide) (by decide)) q8a q8c (g := (mkF m 151 #[.val (.int xs), .val (.long st), .second, .val (.int stp), .val (.long exc), .second, .val (.int sel), .val (.long q), .second, .val (.ref a2), .val (.int (0 : Int32)), .val (.int (1 : Int32)), .val (.long (0 : Int64)), .second, .val (.long arr), .second, .unset, .unset, .unset, .unset, .unset, .unset, .unset, .unset, .unset, .unset, .unset] [(.long arr), (.ref a2)])) rfl (by rw [hml]; rfl) (Steps.refl _) (argsL := [(.long arr)]) (rest := []) (lenOf pd_0 rfl) rfl (by show 2 * 0 + _ ≤ _; exact Nat.le_of_eq rfl) (hb hby at_151) (fun _ _ => ⟨rfl, rfl, (by decide : 1 + 0 ≤ _), (by decide : 3 + 0 ≤ _)⟩)
      dsimp only [Pt.U, Pt.locs, Pt.cells, Pt.slots] at X8 l8 y8 z8 st8 hQ8
      subst l8 y8 z8
      obtain ⟨rfl, N8, K8, E8, Fs8, Fc8, Fr8⟩ := hQ8
      have Z8 : n0 ≤ T8.heap.size := Nat.le_trans Z4 K8.1
      obtain ⟨cq9, kq9, q9a, q9b, q9c⟩ := isOf hZ rfl E8
      obtain ⟨_, _, ⟨T9, L9, k9, n9⟩, -, X9, ⟨Lc9, hQ9, l9, y9, z9⟩, st9⟩ := X8.virtualBack hx (y := (⟨"com/example/earnest_load/earnestload/run/Schedule", "next", "()J"⟩ : MethodName)) (z := (⟨"com/example/earnest_load/earnestload/run/Schedule", "next", "()J"⟩ : MethodName)) hown (mvT hZ (hw _ (List.mem_of_getElem? (i := 21) rfl))) (mvT hZ (hw _ (List.mem_of_getElem? (i := 22) rfl))) (notFace_of_selects (args := #[]) (mvT hZ (hw _ (List.mem_of_getElem? (i := 24) rfl)))) (mvT hZ (hw _ (List.mem_of_getElem? (i := 24) rfl))) (mvT hZ (hw _ (List.mem_of_getElem? (i := 23) rfl))) (by decide) (backOf (W := 0) (rmNext l Z a0 hw [] a2 T8.heap n0 Z8 st (0 + (1 : Int64)) q (FP.i2d rr) Fs8 Fc8 Fr8 E8 ga p1.1 p1.2.1 p1.2.2) hZ (hw _ (List.mem_of_getElem? (i := 25) rfl)) (hw _ (List.mem_of_getElem? (i := 7) rfl)) (by decide) (by decide)) q9a q9c (g := (mkF m 158 #[.val (.int xs), .val (.long st), .second, .val (.int stp), .val (.long exc), .second, .val (.int sel), .val (.long q), .second, .val (.ref a2), .val (.int (0 : Int32)), .val (.int (1 : Int32)), .val (.long (0 : Int64)), .second, .val (.long arr), .second, .val (.long (st + (0 : Int64))), .second, .unset, .unset, .unset, .unset, .unset, .unset, .unset, .unset, .unset] [(.ref a2)])) rfl (by rw [hml]; rfl) (Steps.refl _) (argsL := []) (rest := []) (lenOf pd_1 rfl) rfl (by show 2 * 0 + _ ≤ _; exact Nat.le_of_eq rfl) (hb hby at_158) (fun _ _ => ⟨rfl, rfl, (by decide : 1 + 0 ≤ _), (by decide : 3 + 0 ≤ _)⟩)
      dsimp only [Pt.U, Pt.locs, Pt.cells, Pt.slots] at X9 l9 y9 z9 st9 hQ9
      subst l9 y9 z9
      obtain ⟨rfl, N9, K9, E9, Fs9, Fc9, Fr9⟩ := hQ9
      obtain ⟨fs, hr, hrun, hended, hW, hsame⟩ := X9.leave (v := some (.int (1 : Int32))) (fun h => by rw [Bd.returns] at h; cases h)
      refine ⟨_, _, pre0 _ ?_, hrun, hended, _, _, rfl, ?_, ⟨_, rfl⟩, hW, hsame.mono (by decide) (by decide)⟩
      · show Steps p.tables e below (s₁.setTop (mkF m 0 #[.val (.int xs), .val (.long st), .second, .val (.int stp), .val (.long exc), .second, .unset, .unset, .unset, .unset, .unset, .unset, .unset, .unset, .unset, .unset, .unset, .unset, .unset, .unset, .unset, .unset, .unset, .unset, .unset, .unset, .unset] [])) _
        refine XS.iloadN X0.here hx rfl (hb hby at_0) rfl ?_
        show Steps p.tables e below (s₁.setTop (mkF m 1 #[.val (.int xs), .val (.long st), .second, .val (.int stp), .val (.long exc), .second, .unset, .unset, .unset, .unset, .unset, .unset, .unset, .unset, .unset, .unset, .unset, .unset, .unset, .unset, .unset, .unset, .unset, .unset, .unset, .unset, .unset] [(.int xs)])) _
        refine XS.bipush X0.here hx rfl (hb hby at_1) ?_
        show Steps p.tables e below (s₁.setTop (mkF m 3 #[.val (.int xs), .val (.long st), .second, .val (.int stp), .val (.long exc), .second, .unset, .unset, .unset, .unset, .unset, .unset, .unset, .unset, .unset, .unset, .unset, .unset, .unset, .unset, .unset, .unset, .unset, .unset, .unset, .unset, .unset] [(.int (7 : Int32)), (.int xs)])) _
        refine XS.iand X0.here hx rfl (hb hby at_3) rfl ?_
        rw [hsel]
        show Steps p.tables e below (s₁.setTop (mkF m 4 #[.val (.int xs), .val (.long st), .second, .val (.int stp), .val (.long exc), .second, .unset, .unset, .unset, .unset, .unset, .unset, .unset, .unset, .unset, .unset, .unset, .unset, .unset, .unset, .unset, .unset, .unset, .unset, .unset, .unset, .unset] [(.int sel)])) _
        refine XS.istore X0.here hx rfl (hb hby at_4) rfl (l' := #[.val (.int xs), .val (.long st), .second, .val (.int stp), .val (.long exc), .second, .val (.int sel), .unset, .unset, .unset, .unset, .unset, .unset, .unset, .unset, .unset, .unset, .unset, .unset, .unset, .unset, .unset, .unset, .unset, .unset, .unset, .unset]) rfl ?_
        show Steps p.tables e below (s₁.setTop (mkF m 6 #[.val (.int xs), .val (.long st), .second, .val (.int stp), .val (.long exc), .second, .val (.int sel), .unset, .unset, .unset, .unset, .unset, .unset, .unset, .unset, .unset, .unset, .unset, .unset, .unset, .unset, .unset, .unset, .unset, .unset, .unset, .unset] [])) _
        refine XS.iload X0.here hx rfl (hb hby at_6) rfl ?_
        show Steps p.tables e below (s₁.setTop (mkF m 8 #[.val (.int xs), .val (.long st), .second, .val (.int stp), .val (.long exc), .second, .val (.int sel), .unset, .unset, .unset, .unset, .unset, .unset, .unset, .unset, .unset, .unset, .unset, .unset, .unset, .unset, .unset, .unset, .unset, .unset, .unset, .unset] [(.int sel)])) _
        refine st1 _ ?_
        show Steps p.tables e below (T1.setTop (mkF m 11 #[.val (.int xs), .val (.long st), .second, .val (.int stp), .val (.long exc), .second, .val (.int sel), .unset, .unset, .unset, .unset, .unset, .unset, .unset, .unset, .unset, .unset, .unset, .unset, .unset, .unset, .unset, .unset, .unset, .unset, .unset, .unset] [(.long q)])) _
        refine XS.lstore X1.here hx rfl (hb hby at_11) rfl (l' := #[.val (.int xs), .val (.long st), .second, .val (.int stp), .val (.long exc), .second, .val (.int sel), .val (.long q), .second, .unset, .unset, .unset, .unset, .unset, .unset, .unset, .unset, .unset, .unset, .unset, .unset, .unset, .unset, .unset, .unset, .unset, .unset]) rfl ?_
        show Steps p.tables e below (T1.setTop (mkF m 13 #[.val (.int xs), .val (.long st), .second, .val (.int stp), .val (.long exc), .second, .val (.int sel), .val (.long q), .second, .unset, .unset, .unset, .unset, .unset, .unset, .unset, .unset, .unset, .unset, .unset, .unset, .unset, .unset, .unset, .unset, .unset, .unset] [])) _
        refine st2 _ ?_
        show Steps p.tables e below (T2.setTop (mkF m 16 #[.val (.int xs), .val (.long st), .second, .val (.int stp), .val (.long exc), .second, .val (.int sel), .val (.long q), .second, .unset, .unset, .unset, .unset, .unset, .unset, .unset, .unset, .unset, .unset, .unset, .unset, .unset, .unset, .unset, .unset, .unset, .unset] [(.ref a2)])) _
        refine XS.dup X2.here hx rfl (hb hby at_16) rfl rfl ?_
        show Steps p.tables e below (T2.setTop (mkF m 17 #[.val (.int xs), .val (.long st), .second, .val (.int stp), .val (.long exc), .second, .val (.int sel), .val (.long q), .second, .unset, .unset, .unset, .unset, .unset, .unset, .unset, .unset, .unset, .unset, .unset, .unset, .unset, .unset, .unset, .unset, .unset, .unset] [(.ref a2), (.ref a2)])) _
        refine XS.iload X2.here hx rfl (hb hby at_17) rfl ?_
        show Steps p.tables e below (T2.setTop (mkF m 19 #[.val (.int xs), .val (.long st), .second, .val (.int stp), .val (.long exc), .second, .val (.int sel), .val (.long q), .second, .unset, .unset, .unset, .unset, .unset, .unset, .unset, .unset, .unset, .unset, .unset, .unset, .unset, .unset, .unset, .unset, .unset, .unset] [(.int sel), (.ref a2), (.ref a2)])) _
        refine st3 _ ?_
        show Steps p.tables e below (T3.setTop (mkF m 22 #[.val (.int xs), .val (.long st), .second, .val (.int stp), .val (.long exc), .second, .val (.int sel), .val (.long q), .second, .unset, .unset, .unset, .unset, .unset, .unset, .unset, .unset, .unset, .unset, .unset, .unset, .unset, .unset, .unset, .unset, .unset, .unset] [(.int rr), (.ref a2), (.ref a2)])) _
        refine XS.i2dS X3.here hx rfl (hb hby at_22) rfl (v := FP.i2d rr) rfl ?_
        show Steps p.tables e below (T3.setTop (mkF m 23 #[.val (.int xs), .val (.long st), .second, .val (.int stp), .val (.long exc), .second, .val (.int sel), .val (.long q), .second, .unset, .unset, .unset, .unset, .unset, .unset, .unset, .unset, .unset, .unset, .unset, .unset, .unset, .unset, .unset, .unset, .unset, .unset] [(.double (FP.i2d rr)), (.ref a2), (.ref a2)])) _
        refine XS.lloadN X3.here hx rfl (hb hby at_23) rfl ?_
        show Steps p.tables e below (T3.setTop (mkF m 24 #[.val (.int xs), .val (.long st), .second, .val (.int stp), .val (.long exc), .second, .val (.int sel), .val (.long q), .second, .unset, .unset, .unset, .unset, .unset, .unset, .unset, .unset, .unset, .unset, .unset, .unset, .unset, .unset, .unset, .unset, .unset, .unset] [(.long st), (.double (FP.i2d rr)), (.ref a2), (.ref a2)])) _
        refine st4.trans ?_
        show Steps p.tables e below (T4.setTop (mkF m 27 #[.val (.int xs), .val (.long st), .second, .val (.int stp), .val (.long exc), .second, .val (.int sel), .val (.long q), .second, .unset, .unset, .unset, .unset, .unset, .unset, .unset, .unset, .unset, .unset, .unset, .unset, .unset, .unset, .unset, .unset, .unset, .unset] [(.ref a2)])) _
        refine XS.astore X4.here hx rfl (hb hby at_27) rfl rfl (l' := #[.val (.int xs), .val (.long st), .second, .val (.int stp), .val (.long exc), .second, .val (.int sel), .val (.long q), .second, .val (.ref a2), .unset, .unset, .unset, .unset, .unset, .unset, .unset, .unset, .unset, .unset, .unset, .unset, .unset, .unset, .unset, .unset, .unset]) rfl ?_
        show Steps p.tables e below (T4.setTop (mkF m 29 #[.val (.int xs), .val (.long st), .second, .val (.int stp), .val (.long exc), .second, .val (.int sel), .val (.long q), .second, .val (.ref a2), .unset, .unset, .unset, .unset, .unset, .unset, .unset, .unset, .unset, .unset, .unset, .unset, .unset, .unset, .unset, .unset, .unset] [])) _
        refine XS.iloadN X4.here hx rfl (hb hby at_29) rfl ?_
        show Steps p.tables e below (T4.setTop (mkF m 30 #[.val (.int xs), .val (.long st), .second, .val (.int stp), .val (.long exc), .second, .val (.int sel), .val (.long q), .second, .val (.ref a2), .unset, .unset, .unset, .unset, .unset, .unset, .unset, .unset, .unset, .unset, .unset, .unset, .unset, .unset, .unset, .unset, .unset] [(.int stp)])) _
        refine XS.iconst X4.here hx rfl (hb hby at_30) ?_
        show Steps p.tables e below (T4.setTop (mkF m 31 #[.val (.int xs), .val (.long st), .second, .val (.int stp), .val (.long exc), .second, .val (.int sel), .val (.long q), .second, .val (.ref a2), .unset, .unset, .unset, .unset, .unset, .unset, .unset, .unset, .unset, .unset, .unset, .unset, .unset, .unset, .unset, .unset, .unset] [(.int (3 : Int32)), (.int stp)])) _
        refine XS.iand X4.here hx rfl (hb hby at_31) rfl ?_
        rw [hkk]
        show Steps p.tables e below (T4.setTop (mkF m 32 #[.val (.int xs), .val (.long st), .second, .val (.int stp), .val (.long exc), .second, .val (.int sel), .val (.long q), .second, .val (.ref a2), .unset, .unset, .unset, .unset, .unset, .unset, .unset, .unset, .unset, .unset, .unset, .unset, .unset, .unset, .unset, .unset, .unset] [(.int (0 : Int32))])) _
        refine XS.istore X4.here hx rfl (hb hby at_32) rfl (l' := #[.val (.int xs), .val (.long st), .second, .val (.int stp), .val (.long exc), .second, .val (.int sel), .val (.long q), .second, .val (.ref a2), .val (.int (0 : Int32)), .unset, .unset, .unset, .unset, .unset, .unset, .unset, .unset, .unset, .unset, .unset, .unset, .unset, .unset, .unset, .unset]) rfl ?_
        show Steps p.tables e below (T4.setTop (mkF m 34 #[.val (.int xs), .val (.long st), .second, .val (.int stp), .val (.long exc), .second, .val (.int sel), .val (.long q), .second, .val (.ref a2), .val (.int (0 : Int32)), .unset, .unset, .unset, .unset, .unset, .unset, .unset, .unset, .unset, .unset, .unset, .unset, .unset, .unset, .unset, .unset] [])) _
        refine XS.iconst X4.here hx rfl (hb hby at_34) ?_
        show Steps p.tables e below (T4.setTop (mkF m 35 #[.val (.int xs), .val (.long st), .second, .val (.int stp), .val (.long exc), .second, .val (.int sel), .val (.long q), .second, .val (.ref a2), .val (.int (0 : Int32)), .unset, .unset, .unset, .unset, .unset, .unset, .unset, .unset, .unset, .unset, .unset, .unset, .unset, .unset, .unset, .unset] [(.int (1 : Int32))])) _
        refine XS.istore X4.here hx rfl (hb hby at_35) rfl (l' := #[.val (.int xs), .val (.long st), .second, .val (.int stp), .val (.long exc), .second, .val (.int sel), .val (.long q), .second, .val (.ref a2), .val (.int (0 : Int32)), .val (.int (1 : Int32)), .unset, .unset, .unset, .unset, .unset, .unset, .unset, .unset, .unset, .unset, .unset, .unset, .unset, .unset, .unset]) rfl ?_
        show Steps p.tables e below (T4.setTop (mkF m 37 #[.val (.int xs), .val (.long st), .second, .val (.int stp), .val (.long exc), .second, .val (.int sel), .val (.long q), .second, .val (.ref a2), .val (.int (0 : Int32)), .val (.int (1 : Int32)), .unset, .unset, .unset, .unset, .unset, .unset, .unset, .unset, .unset, .unset, .unset, .unset, .unset, .unset, .unset] [])) _
        refine XS.iload X4.here hx rfl (hb hby at_37) rfl ?_
        show Steps p.tables e below (T4.setTop (mkF m 39 #[.val (.int xs), .val (.long st), .second, .val (.int stp), .val (.long exc), .second, .val (.int sel), .val (.long q), .second, .val (.ref a2), .val (.int (0 : Int32)), .val (.int (1 : Int32)), .unset, .unset, .unset, .unset, .unset, .unset, .unset, .unset, .unset, .unset, .unset, .unset, .unset, .unset, .unset] [(.int (0 : Int32))])) _
        refine XS.ifYes X4.here hx rfl (pc0 := 39) (pc' := 64) rfl (hb hby at_39) rfl rfl (by decide) (by decide) ?_
        show Steps p.tables e below (T4.setTop (mkF m 64 #[.val (.int xs), .val (.long st), .second, .val (.int stp), .val (.long exc), .second, .val (.int sel), .val (.long q), .second, .val (.ref a2), .val (.int (0 : Int32)), .val (.int (1 : Int32)), .unset, .unset, .unset, .unset, .unset, .unset, .unset, .unset, .unset, .unset, .unset, .unset, .unset, .unset, .unset] [])) _
        refine XS.iload X4.here hx rfl (hb hby at_64) rfl ?_
        show Steps p.tables e below (T4.setTop (mkF m 66 #[.val (.int xs), .val (.long st), .second, .val (.int stp), .val (.long exc), .second, .val (.int sel), .val (.long q), .second, .val (.ref a2), .val (.int (0 : Int32)), .val (.int (1 : Int32)), .unset, .unset, .unset, .unset, .unset, .unset, .unset, .unset, .unset, .unset, .unset, .unset, .unset, .unset, .unset] [(.int (0 : Int32))])) _
        refine XS.iconst X4.here hx rfl (hb hby at_66) ?_
        show Steps p.tables e below (T4.setTop (mkF m 67 #[.val (.int xs), .val (.long st), .second, .val (.int stp), .val (.long exc), .second, .val (.int sel), .val (.long q), .second, .val (.ref a2), .val (.int (0 : Int32)), .val (.int (1 : Int32)), .unset, .unset, .unset, .unset, .unset, .unset, .unset, .unset, .unset, .unset, .unset, .unset, .unset, .unset, .unset] [(.int (1 : Int32)), (.int (0 : Int32))])) _
        refine XS.icmpYes X4.here hx rfl (pc0 := 67) (pc' := 95) rfl (hb hby at_67) rfl rfl (by decide) (by decide) ?_
        show Steps p.tables e below (T4.setTop (mkF m 95 #[.val (.int xs), .val (.long st), .second, .val (.int stp), .val (.long exc), .second, .val (.int sel), .val (.long q), .second, .val (.ref a2), .val (.int (0 : Int32)), .val (.int (1 : Int32)), .unset, .unset, .unset, .unset, .unset, .unset, .unset, .unset, .unset, .unset, .unset, .unset, .unset, .unset, .unset] [])) _
        refine XS.iload X4.here hx rfl (hb hby at_95) rfl ?_
        show Steps p.tables e below (T4.setTop (mkF m 97 #[.val (.int xs), .val (.long st), .second, .val (.int stp), .val (.long exc), .second, .val (.int sel), .val (.long q), .second, .val (.ref a2), .val (.int (0 : Int32)), .val (.int (1 : Int32)), .unset, .unset, .unset, .unset, .unset, .unset, .unset, .unset, .unset, .unset, .unset, .unset, .unset, .unset, .unset] [(.int (0 : Int32))])) _
        refine XS.iconst X4.here hx rfl (hb hby at_97) ?_
        show Steps p.tables e below (T4.setTop (mkF m 98 #[.val (.int xs), .val (.long st), .second, .val (.int stp), .val (.long exc), .second, .val (.int sel), .val (.long q), .second, .val (.ref a2), .val (.int (0 : Int32)), .val (.int (1 : Int32)), .unset, .unset, .unset, .unset, .unset, .unset, .unset, .unset, .unset, .unset, .unset, .unset, .unset, .unset, .unset] [(.int (2 : Int32)), (.int (0 : Int32))])) _
        refine XS.icmpYes X4.here hx rfl (pc0 := 98) (pc' := 130) rfl (hb hby at_98) rfl rfl (by decide) (by decide) ?_
        show Steps p.tables e below (T4.setTop (mkF m 130 #[.val (.int xs), .val (.long st), .second, .val (.int stp), .val (.long exc), .second, .val (.int sel), .val (.long q), .second, .val (.ref a2), .val (.int (0 : Int32)), .val (.int (1 : Int32)), .unset, .unset, .unset, .unset, .unset, .unset, .unset, .unset, .unset, .unset, .unset, .unset, .unset, .unset, .unset] [])) _
        refine XS.iload X4.here hx rfl (hb hby at_130) rfl ?_
        show Steps p.tables e below (T4.setTop (mkF m 132 #[.val (.int xs), .val (.long st), .second, .val (.int stp), .val (.long exc), .second, .val (.int sel), .val (.long q), .second, .val (.ref a2), .val (.int (0 : Int32)), .val (.int (1 : Int32)), .unset, .unset, .unset, .unset, .unset, .unset, .unset, .unset, .unset, .unset, .unset, .unset, .unset, .unset, .unset] [(.int (0 : Int32))])) _
        refine XS.i2l X4.here hx rfl (hb hby at_132) rfl ?_
        show Steps p.tables e below (T4.setTop (mkF m 133 #[.val (.int xs), .val (.long st), .second, .val (.int stp), .val (.long exc), .second, .val (.int sel), .val (.long q), .second, .val (.ref a2), .val (.int (0 : Int32)), .val (.int (1 : Int32)), .unset, .unset, .unset, .unset, .unset, .unset, .unset, .unset, .unset, .unset, .unset, .unset, .unset, .unset, .unset] [(.long ((0 : Int32).toInt64))])) _
        refine XS.lload X4.here hx rfl (hb hby at_133) rfl ?_
        show Steps p.tables e below (T4.setTop (mkF m 135 #[.val (.int xs), .val (.long st), .second, .val (.int stp), .val (.long exc), .second, .val (.int sel), .val (.long q), .second, .val (.ref a2), .val (.int (0 : Int32)), .val (.int (1 : Int32)), .unset, .unset, .unset, .unset, .unset, .unset, .unset, .unset, .unset, .unset, .unset, .unset, .unset, .unset, .unset] [(.long q), (.long ((0 : Int32).toInt64))])) _
        refine XS.lmul X4.here hx rfl (hb hby at_135) rfl ?_
        rw [k0]
        show Steps p.tables e below (T4.setTop (mkF m 136 #[.val (.int xs), .val (.long st), .second, .val (.int stp), .val (.long exc), .second, .val (.int sel), .val (.long q), .second, .val (.ref a2), .val (.int (0 : Int32)), .val (.int (1 : Int32)), .unset, .unset, .unset, .unset, .unset, .unset, .unset, .unset, .unset, .unset, .unset, .unset, .unset, .unset, .unset] [(.long (0 : Int64))])) _
        refine XS.lstore X4.here hx rfl (hb hby at_136) rfl (l' := #[.val (.int xs), .val (.long st), .second, .val (.int stp), .val (.long exc), .second, .val (.int sel), .val (.long q), .second, .val (.ref a2), .val (.int (0 : Int32)), .val (.int (1 : Int32)), .val (.long (0 : Int64)), .second, .unset, .unset, .unset, .unset, .unset, .unset, .unset, .unset, .unset, .unset, .unset, .unset, .unset]) rfl ?_
        show Steps p.tables e below (T4.setTop (mkF m 138 #[.val (.int xs), .val (.long st), .second, .val (.int stp), .val (.long exc), .second, .val (.int sel), .val (.long q), .second, .val (.ref a2), .val (.int (0 : Int32)), .val (.int (1 : Int32)), .val (.long (0 : Int64)), .second, .unset, .unset, .unset, .unset, .unset, .unset, .unset, .unset, .unset, .unset, .unset, .unset, .unset] [])) _
        refine XS.lloadN X4.here hx rfl (hb hby at_138) rfl ?_
        show Steps p.tables e below (T4.setTop (mkF m 139 #[.val (.int xs), .val (.long st), .second, .val (.int stp), .val (.long exc), .second, .val (.int sel), .val (.long q), .second, .val (.ref a2), .val (.int (0 : Int32)), .val (.int (1 : Int32)), .val (.long (0 : Int64)), .second, .unset, .unset, .unset, .unset, .unset, .unset, .unset, .unset, .unset, .unset, .unset, .unset, .unset] [(.long st)])) _
        refine XS.lload X4.here hx rfl (hb hby at_139) rfl ?_
        show Steps p.tables e below (T4.setTop (mkF m 141 #[.val (.int xs), .val (.long st), .second, .val (.int stp), .val (.long exc), .second, .val (.int sel), .val (.long q), .second, .val (.ref a2), .val (.int (0 : Int32)), .val (.int (1 : Int32)), .val (.long (0 : Int64)), .second, .unset, .unset, .unset, .unset, .unset, .unset, .unset, .unset, .unset, .unset, .unset, .unset, .unset] [(.long (0 : Int64)), (.long st)])) _
        refine XS.ladd X4.here hx rfl (hb hby at_141) rfl ?_
        show Steps p.tables e below (T4.setTop (mkF m 142 #[.val (.int xs), .val (.long st), .second, .val (.int stp), .val (.long exc), .second, .val (.int sel), .val (.long q), .second, .val (.ref a2), .val (.int (0 : Int32)), .val (.int (1 : Int32)), .val (.long (0 : Int64)), .second, .unset, .unset, .unset, .unset, .unset, .unset, .unset, .unset, .unset, .unset, .unset, .unset, .unset] [(.long (st + (0 : Int64)))])) _
        refine XS.lload X4.here hx rfl (hb hby at_142) rfl ?_
        show Steps p.tables e below (T4.setTop (mkF m 144 #[.val (.int xs), .val (.long st), .second, .val (.int stp), .val (.long exc), .second, .val (.int sel), .val (.long q), .second, .val (.ref a2), .val (.int (0 : Int32)), .val (.int (1 : Int32)), .val (.long (0 : Int64)), .second, .unset, .unset, .unset, .unset, .unset, .unset, .unset, .unset, .unset, .unset, .unset, .unset, .unset] [(.long exc), (.long (st + (0 : Int64)))])) _
        refine XS.ladd X4.here hx rfl (hb hby at_144) rfl ?_
        rw [harr]
        show Steps p.tables e below (T4.setTop (mkF m 145 #[.val (.int xs), .val (.long st), .second, .val (.int stp), .val (.long exc), .second, .val (.int sel), .val (.long q), .second, .val (.ref a2), .val (.int (0 : Int32)), .val (.int (1 : Int32)), .val (.long (0 : Int64)), .second, .unset, .unset, .unset, .unset, .unset, .unset, .unset, .unset, .unset, .unset, .unset, .unset, .unset] [(.long arr)])) _
        refine XS.lstore X4.here hx rfl (hb hby at_145) rfl (l' := #[.val (.int xs), .val (.long st), .second, .val (.int stp), .val (.long exc), .second, .val (.int sel), .val (.long q), .second, .val (.ref a2), .val (.int (0 : Int32)), .val (.int (1 : Int32)), .val (.long (0 : Int64)), .second, .val (.long arr), .second, .unset, .unset, .unset, .unset, .unset, .unset, .unset, .unset, .unset, .unset, .unset]) rfl ?_
        show Steps p.tables e below (T4.setTop (mkF m 147 #[.val (.int xs), .val (.long st), .second, .val (.int stp), .val (.long exc), .second, .val (.int sel), .val (.long q), .second, .val (.ref a2), .val (.int (0 : Int32)), .val (.int (1 : Int32)), .val (.long (0 : Int64)), .second, .val (.long arr), .second, .unset, .unset, .unset, .unset, .unset, .unset, .unset, .unset, .unset, .unset, .unset] [])) _
        refine XS.aload X4.here hx rfl (hb hby at_147) rfl rfl ?_
        show Steps p.tables e below (T4.setTop (mkF m 149 #[.val (.int xs), .val (.long st), .second, .val (.int stp), .val (.long exc), .second, .val (.int sel), .val (.long q), .second, .val (.ref a2), .val (.int (0 : Int32)), .val (.int (1 : Int32)), .val (.long (0 : Int64)), .second, .val (.long arr), .second, .unset, .unset, .unset, .unset, .unset, .unset, .unset, .unset, .unset, .unset, .unset] [(.ref a2)])) _
        refine XS.lload X4.here hx rfl (hb hby at_149) rfl ?_
        show Steps p.tables e below (T4.setTop (mkF m 151 #[.val (.int xs), .val (.long st), .second, .val (.int stp), .val (.long exc), .second, .val (.int sel), .val (.long q), .second, .val (.ref a2), .val (.int (0 : Int32)), .val (.int (1 : Int32)), .val (.long (0 : Int64)), .second, .val (.long arr), .second, .unset, .unset, .unset, .unset, .unset, .unset, .unset, .unset, .unset, .unset, .unset] [(.long arr), (.ref a2)])) _
        refine st8.trans ?_
        show Steps p.tables e below (T8.setTop (mkF m 154 #[.val (.int xs), .val (.long st), .second, .val (.int stp), .val (.long exc), .second, .val (.int sel), .val (.long q), .second, .val (.ref a2), .val (.int (0 : Int32)), .val (.int (1 : Int32)), .val (.long (0 : Int64)), .second, .val (.long arr), .second, .unset, .unset, .unset, .unset, .unset, .unset, .unset, .unset, .unset, .unset, .unset] [(.long (st + (0 : Int64)))])) _
        refine XS.lstore X8.here hx rfl (hb hby at_154) rfl (l' := #[.val (.int xs), .val (.long st), .second, .val (.int stp), .val (.long exc), .second, .val (.int sel), .val (.long q), .second, .val (.ref a2), .val (.int (0 : Int32)), .val (.int (1 : Int32)), .val (.long (0 : Int64)), .second, .val (.long arr), .second, .val (.long (st + (0 : Int64))), .second, .unset, .unset, .unset, .unset, .unset, .unset, .unset, .unset, .unset]) rfl ?_
        show Steps p.tables e below (T8.setTop (mkF m 156 #[.val (.int xs), .val (.long st), .second, .val (.int stp), .val (.long exc), .second, .val (.int sel), .val (.long q), .second, .val (.ref a2), .val (.int (0 : Int32)), .val (.int (1 : Int32)), .val (.long (0 : Int64)), .second, .val (.long arr), .second, .val (.long (st + (0 : Int64))), .second, .unset, .unset, .unset, .unset, .unset, .unset, .unset, .unset, .unset] [])) _
        refine XS.aload X8.here hx rfl (hb hby at_156) rfl rfl ?_
        show Steps p.tables e below (T8.setTop (mkF m 158 #[.val (.int xs), .val (.long st), .second, .val (.int stp), .val (.long exc), .second, .val (.int sel), .val (.long q), .second, .val (.ref a2), .val (.int (0 : Int32)), .val (.int (1 : Int32)), .val (.long (0 : Int64)), .second, .val (.long arr), .second, .val (.long (st + (0 : Int64))), .second, .unset, .unset, .unset, .unset, .unset, .unset, .unset, .unset, .unset] [(.ref a2)])) _
        refine st9.trans ?_
        show Steps p.tables e below (T9.setTop (mkF m 161 #[.val (.int xs), .val (.long st), .second, .val (.int stp), .val (.long exc), .second, .val (.int sel), .val (.long q), .second, .val (.ref a2), .val (.int (0 : Int32)), .val (.int (1 : Int32)), .val (.long (0 : Int64)), .second, .val (.long arr), .second, .val (.long (st + (0 : Int64))), .second, .unset, .unset, .unset, .unset, .unset, .unset, .unset, .unset, .unset] [(.long (st + q))])) _
        refine XS.lstore X9.here hx rfl (hb hby at_161) rfl (l' := #[.val (.int xs), .val (.long st), .second, .val (.int stp), .val (.long exc), .second, .val (.int sel), .val (.long q), .second, .val (.ref a2), .val (.int (0 : Int32)), .val (.int (1 : Int32)), .val (.long (0 : Int64)), .second, .val (.long arr), .second, .val (.long (st + (0 : Int64))), .second, .val (.long (st + q)), .second, .unset, .unset, .unset, .unset, .unset, .unset, .unset]) rfl ?_
        show Steps p.tables e below (T9.setTop (mkF m 163 #[.val (.int xs), .val (.long st), .second, .val (.int stp), .val (.long exc), .second, .val (.int sel), .val (.long q), .second, .val (.ref a2), .val (.int (0 : Int32)), .val (.int (1 : Int32)), .val (.long (0 : Int64)), .second, .val (.long arr), .second, .val (.long (st + (0 : Int64))), .second, .val (.long (st + q)), .second, .unset, .unset, .unset, .unset, .unset, .unset, .unset] [])) _
        refine XS.lloadN X9.here hx rfl (hb hby at_163) rfl ?_
        show Steps p.tables e below (T9.setTop (mkF m 164 #[.val (.int xs), .val (.long st), .second, .val (.int stp), .val (.long exc), .second, .val (.int sel), .val (.long q), .second, .val (.ref a2), .val (.int (0 : Int32)), .val (.int (1 : Int32)), .val (.long (0 : Int64)), .second, .val (.long arr), .second, .val (.long (st + (0 : Int64))), .second, .val (.long (st + q)), .second, .unset, .unset, .unset, .unset, .unset, .unset, .unset] [(.long st)])) _
        refine XS.lload X9.here hx rfl (hb hby at_164) rfl ?_
        show Steps p.tables e below (T9.setTop (mkF m 166 #[.val (.int xs), .val (.long st), .second, .val (.int stp), .val (.long exc), .second, .val (.int sel), .val (.long q), .second, .val (.ref a2), .val (.int (0 : Int32)), .val (.int (1 : Int32)), .val (.long (0 : Int64)), .second, .val (.long arr), .second, .val (.long (st + (0 : Int64))), .second, .val (.long (st + q)), .second, .unset, .unset, .unset, .unset, .unset, .unset, .unset] [(.long (0 : Int64)), (.long st)])) _
        refine XS.ladd X9.here hx rfl (hb hby at_166) rfl ?_
        show Steps p.tables e below (T9.setTop (mkF m 167 #[.val (.int xs), .val (.long st), .second, .val (.int stp), .val (.long exc), .second, .val (.int sel), .val (.long q), .second, .val (.ref a2), .val (.int (0 : Int32)), .val (.int (1 : Int32)), .val (.long (0 : Int64)), .second, .val (.long arr), .second, .val (.long (st + (0 : Int64))), .second, .val (.long (st + q)), .second, .unset, .unset, .unset, .unset, .unset, .unset, .unset] [(.long (st + (0 : Int64)))])) _
        refine XS.lstore X9.here hx rfl (hb hby at_167) rfl (l' := #[.val (.int xs), .val (.long st), .second, .val (.int stp), .val (.long exc), .second, .val (.int sel), .val (.long q), .second, .val (.ref a2), .val (.int (0 : Int32)), .val (.int (1 : Int32)), .val (.long (0 : Int64)), .second, .val (.long arr), .second, .val (.long (st + (0 : Int64))), .second, .val (.long (st + q)), .second, .val (.long (st + (0 : Int64))), .second, .unset, .unset, .unset, .unset, .unset]) rfl ?_
        show Steps p.tables e below (T9.setTop (mkF m 169 #[.val (.int xs), .val (.long st), .second, .val (.int stp), .val (.long exc), .second, .val (.int sel), .val (.long q), .second, .val (.ref a2), .val (.int (0 : Int32)), .val (.int (1 : Int32)), .val (.long (0 : Int64)), .second, .val (.long arr), .second, .val (.long (st + (0 : Int64))), .second, .val (.long (st + q)), .second, .val (.long (st + (0 : Int64))), .second, .unset, .unset, .unset, .unset, .unset] [])) _
        refine XS.lload X9.here hx rfl (hb hby at_169) rfl ?_
        show Steps p.tables e below (T9.setTop (mkF m 171 #[.val (.int xs), .val (.long st), .second, .val (.int stp), .val (.long exc), .second, .val (.int sel), .val (.long q), .second, .val (.ref a2), .val (.int (0 : Int32)), .val (.int (1 : Int32)), .val (.long (0 : Int64)), .second, .val (.long arr), .second, .val (.long (st + (0 : Int64))), .second, .val (.long (st + q)), .second, .val (.long (st + (0 : Int64))), .second, .unset, .unset, .unset, .unset, .unset] [(.long arr)])) _
        refine XS.lloadN X9.here hx rfl (hb hby at_171) rfl ?_
        show Steps p.tables e below (T9.setTop (mkF m 172 #[.val (.int xs), .val (.long st), .second, .val (.int stp), .val (.long exc), .second, .val (.int sel), .val (.long q), .second, .val (.ref a2), .val (.int (0 : Int32)), .val (.int (1 : Int32)), .val (.long (0 : Int64)), .second, .val (.long arr), .second, .val (.long (st + (0 : Int64))), .second, .val (.long (st + q)), .second, .val (.long (st + (0 : Int64))), .second, .unset, .unset, .unset, .unset, .unset] [(.long st), (.long arr)])) _
        refine XS.lsub X9.here hx rfl (hb hby at_172) rfl ?_
        show Steps p.tables e below (T9.setTop (mkF m 173 #[.val (.int xs), .val (.long st), .second, .val (.int stp), .val (.long exc), .second, .val (.int sel), .val (.long q), .second, .val (.ref a2), .val (.int (0 : Int32)), .val (.int (1 : Int32)), .val (.long (0 : Int64)), .second, .val (.long arr), .second, .val (.long (st + (0 : Int64))), .second, .val (.long (st + q)), .second, .val (.long (st + (0 : Int64))), .second, .unset, .unset, .unset, .unset, .unset] [(.long (arr - st))])) _
        refine XS.lload X9.here hx rfl (hb hby at_173) rfl ?_
        show Steps p.tables e below (T9.setTop (mkF m 175 #[.val (.int xs), .val (.long st), .second, .val (.int stp), .val (.long exc), .second, .val (.int sel), .val (.long q), .second, .val (.ref a2), .val (.int (0 : Int32)), .val (.int (1 : Int32)), .val (.long (0 : Int64)), .second, .val (.long arr), .second, .val (.long (st + (0 : Int64))), .second, .val (.long (st + q)), .second, .val (.long (st + (0 : Int64))), .second, .unset, .unset, .unset, .unset, .unset] [(.long (0 : Int64)), (.long (arr - st))])) _
        refine XS.lcmp X9.here hx rfl (hb hby at_175) rfl ?_
        show Steps p.tables e below (T9.setTop (mkF m 176 #[.val (.int xs), .val (.long st), .second, .val (.int stp), .val (.long exc), .second, .val (.int sel), .val (.long q), .second, .val (.ref a2), .val (.int (0 : Int32)), .val (.int (1 : Int32)), .val (.long (0 : Int64)), .second, .val (.long arr), .second, .val (.long (st + (0 : Int64))), .second, .val (.long (st + q)), .second, .val (.long (st + (0 : Int64))), .second, .unset, .unset, .unset, .unset, .unset] [(.int (lcmpW (arr - st) (0 : Int64)))])) _
        refine XS.ifYes X9.here hx rfl (pc0 := 176) (pc' := 183) rfl (hb hby at_176) rfl ((Jvm.Own.holdsL _ _ _).trans (Jvm.Own.dT (by omega))) (by decide) (by decide) ?_
        show Steps p.tables e below (T9.setTop (mkF m 183 #[.val (.int xs), .val (.long st), .second, .val (.int stp), .val (.long exc), .second, .val (.int sel), .val (.long q), .second, .val (.ref a2), .val (.int (0 : Int32)), .val (.int (1 : Int32)), .val (.long (0 : Int64)), .second, .val (.long arr), .second, .val (.long (st + (0 : Int64))), .second, .val (.long (st + q)), .second, .val (.long (st + (0 : Int64))), .second, .unset, .unset, .unset, .unset, .unset] [])) _
        refine XS.iconst X9.here hx rfl (hb hby at_183) ?_
        show Steps p.tables e below (T9.setTop (mkF m 184 #[.val (.int xs), .val (.long st), .second, .val (.int stp), .val (.long exc), .second, .val (.int sel), .val (.long q), .second, .val (.ref a2), .val (.int (0 : Int32)), .val (.int (1 : Int32)), .val (.long (0 : Int64)), .second, .val (.long arr), .second, .val (.long (st + (0 : Int64))), .second, .val (.long (st + q)), .second, .val (.long (st + (0 : Int64))), .second, .unset, .unset, .unset, .unset, .unset] [(.int (0 : Int32))])) _
        refine XS.istore X9.here hx rfl (hb hby at_184) rfl (l' := #[.val (.int xs), .val (.long st), .second, .val (.int stp), .val (.long exc), .second, .val (.int sel), .val (.long q), .second, .val (.ref a2), .val (.int (0 : Int32)), .val (.int (1 : Int32)), .val (.long (0 : Int64)), .second, .val (.long arr), .second, .val (.long (st + (0 : Int64))), .second, .val (.long (st + q)), .second, .val (.long (st + (0 : Int64))), .second, .val (.int (0 : Int32)), .unset, .unset, .unset, .unset]) rfl ?_
        show Steps p.tables e below (T9.setTop (mkF m 186 #[.val (.int xs), .val (.long st), .second, .val (.int stp), .val (.long exc), .second, .val (.int sel), .val (.long q), .second, .val (.ref a2), .val (.int (0 : Int32)), .val (.int (1 : Int32)), .val (.long (0 : Int64)), .second, .val (.long arr), .second, .val (.long (st + (0 : Int64))), .second, .val (.long (st + q)), .second, .val (.long (st + (0 : Int64))), .second, .val (.int (0 : Int32)), .unset, .unset, .unset, .unset] [])) _
        refine XS.iload X9.here hx rfl (hb hby at_186) rfl ?_
        show Steps p.tables e below (T9.setTop (mkF m 188 #[.val (.int xs), .val (.long st), .second, .val (.int stp), .val (.long exc), .second, .val (.int sel), .val (.long q), .second, .val (.ref a2), .val (.int (0 : Int32)), .val (.int (1 : Int32)), .val (.long (0 : Int64)), .second, .val (.long arr), .second, .val (.long (st + (0 : Int64))), .second, .val (.long (st + q)), .second, .val (.long (st + (0 : Int64))), .second, .val (.int (0 : Int32)), .unset, .unset, .unset, .unset] [(.int (0 : Int32))])) _
        refine XS.ifYes X9.here hx rfl (pc0 := 188) (pc' := 196) rfl (hb hby at_188) rfl rfl (by decide) (by decide) ?_
        show Steps p.tables e below (T9.setTop (mkF m 196 #[.val (.int xs), .val (.long st), .second, .val (.int stp), .val (.long exc), .second, .val (.int sel), .val (.long q), .second, .val (.ref a2), .val (.int (0 : Int32)), .val (.int (1 : Int32)), .val (.long (0 : Int64)), .second, .val (.long arr), .second, .val (.long (st + (0 : Int64))), .second, .val (.long (st + q)), .second, .val (.long (st + (0 : Int64))), .second, .val (.int (0 : Int32)), .unset, .unset, .unset, .unset] [])) _
        refine XS.lload X9.here hx rfl (hb hby at_196) rfl ?_
        show Steps p.tables e below (T9.setTop (mkF m 198 #[.val (.int xs), .val (.long st), .second, .val (.int stp), .val (.long exc), .second, .val (.int sel), .val (.long q), .second, .val (.ref a2), .val (.int (0 : Int32)), .val (.int (1 : Int32)), .val (.long (0 : Int64)), .second, .val (.long arr), .second, .val (.long (st + (0 : Int64))), .second, .val (.long (st + q)), .second, .val (.long (st + (0 : Int64))), .second, .val (.int (0 : Int32)), .unset, .unset, .unset, .unset] [(.long (st + (0 : Int64)))])) _
        refine XS.lstore X9.here hx rfl (hb hby at_198) rfl (l' := #[.val (.int xs), .val (.long st), .second, .val (.int stp), .val (.long exc), .second, .val (.int sel), .val (.long q), .second, .val (.ref a2), .val (.int (0 : Int32)), .val (.int (1 : Int32)), .val (.long (0 : Int64)), .second, .val (.long arr), .second, .val (.long (st + (0 : Int64))), .second, .val (.long (st + q)), .second, .val (.long (st + (0 : Int64))), .second, .val (.int (0 : Int32)), .val (.long (st + (0 : Int64))), .second, .unset, .unset]) rfl ?_
        show Steps p.tables e below (T9.setTop (mkF m 200 #[.val (.int xs), .val (.long st), .second, .val (.int stp), .val (.long exc), .second, .val (.int sel), .val (.long q), .second, .val (.ref a2), .val (.int (0 : Int32)), .val (.int (1 : Int32)), .val (.long (0 : Int64)), .second, .val (.long arr), .second, .val (.long (st + (0 : Int64))), .second, .val (.long (st + q)), .second, .val (.long (st + (0 : Int64))), .second, .val (.int (0 : Int32)), .val (.long (st + (0 : Int64))), .second, .unset, .unset] [])) _
        refine XS.lload X9.here hx rfl (hb hby at_200) rfl ?_
        show Steps p.tables e below (T9.setTop (mkF m 202 #[.val (.int xs), .val (.long st), .second, .val (.int stp), .val (.long exc), .second, .val (.int sel), .val (.long q), .second, .val (.ref a2), .val (.int (0 : Int32)), .val (.int (1 : Int32)), .val (.long (0 : Int64)), .second, .val (.long arr), .second, .val (.long (st + (0 : Int64))), .second, .val (.long (st + q)), .second, .val (.long (st + (0 : Int64))), .second, .val (.int (0 : Int32)), .val (.long (st + (0 : Int64))), .second, .unset, .unset] [(.long (st + (0 : Int64)))])) _
        refine XS.lload X9.here hx rfl (hb hby at_202) rfl ?_
        show Steps p.tables e below (T9.setTop (mkF m 204 #[.val (.int xs), .val (.long st), .second, .val (.int stp), .val (.long exc), .second, .val (.int sel), .val (.long q), .second, .val (.ref a2), .val (.int (0 : Int32)), .val (.int (1 : Int32)), .val (.long (0 : Int64)), .second, .val (.long arr), .second, .val (.long (st + (0 : Int64))), .second, .val (.long (st + q)), .second, .val (.long (st + (0 : Int64))), .second, .val (.int (0 : Int32)), .val (.long (st + (0 : Int64))), .second, .unset, .unset] [(.long q), (.long (st + (0 : Int64)))])) _
        refine XS.ladd X9.here hx rfl (hb hby at_204) rfl ?_
        show Steps p.tables e below (T9.setTop (mkF m 205 #[.val (.int xs), .val (.long st), .second, .val (.int stp), .val (.long exc), .second, .val (.int sel), .val (.long q), .second, .val (.ref a2), .val (.int (0 : Int32)), .val (.int (1 : Int32)), .val (.long (0 : Int64)), .second, .val (.long arr), .second, .val (.long (st + (0 : Int64))), .second, .val (.long (st + q)), .second, .val (.long (st + (0 : Int64))), .second, .val (.int (0 : Int32)), .val (.long (st + (0 : Int64))), .second, .unset, .unset] [(.long ((st + (0 : Int64)) + q))])) _
        refine XS.lstore X9.here hx rfl (hb hby at_205) rfl (l' := #[.val (.int xs), .val (.long st), .second, .val (.int stp), .val (.long exc), .second, .val (.int sel), .val (.long q), .second, .val (.ref a2), .val (.int (0 : Int32)), .val (.int (1 : Int32)), .val (.long (0 : Int64)), .second, .val (.long arr), .second, .val (.long (st + (0 : Int64))), .second, .val (.long (st + q)), .second, .val (.long (st + (0 : Int64))), .second, .val (.int (0 : Int32)), .val (.long (st + (0 : Int64))), .second, .val (.long ((st + (0 : Int64)) + q)), .second]) rfl ?_
        show Steps p.tables e below (T9.setTop (mkF m 207 #[.val (.int xs), .val (.long st), .second, .val (.int stp), .val (.long exc), .second, .val (.int sel), .val (.long q), .second, .val (.ref a2), .val (.int (0 : Int32)), .val (.int (1 : Int32)), .val (.long (0 : Int64)), .second, .val (.long arr), .second, .val (.long (st + (0 : Int64))), .second, .val (.long (st + q)), .second, .val (.long (st + (0 : Int64))), .second, .val (.int (0 : Int32)), .val (.long (st + (0 : Int64))), .second, .val (.long ((st + (0 : Int64)) + q)), .second] [])) _
        refine XS.iload X9.here hx rfl (hb hby at_207) rfl ?_
        show Steps p.tables e below (T9.setTop (mkF m 209 #[.val (.int xs), .val (.long st), .second, .val (.int stp), .val (.long exc), .second, .val (.int sel), .val (.long q), .second, .val (.ref a2), .val (.int (0 : Int32)), .val (.int (1 : Int32)), .val (.long (0 : Int64)), .second, .val (.long arr), .second, .val (.long (st + (0 : Int64))), .second, .val (.long (st + q)), .second, .val (.long (st + (0 : Int64))), .second, .val (.int (0 : Int32)), .val (.long (st + (0 : Int64))), .second, .val (.long ((st + (0 : Int64)) + q)), .second] [(.int (1 : Int32))])) _
        refine XS.ifNo X9.here hx rfl (hb hby at_209) rfl rfl ?_
        show Steps p.tables e below (T9.setTop (mkF m 212 #[.val (.int xs), .val (.long st), .second, .val (.int stp), .val (.long exc), .second, .val (.int sel), .val (.long q), .second, .val (.ref a2), .val (.int (0 : Int32)), .val (.int (1 : Int32)), .val (.long (0 : Int64)), .second, .val (.long arr), .second, .val (.long (st + (0 : Int64))), .second, .val (.long (st + q)), .second, .val (.long (st + (0 : Int64))), .second, .val (.int (0 : Int32)), .val (.long (st + (0 : Int64))), .second, .val (.long ((st + (0 : Int64)) + q)), .second] [])) _
        refine XS.lload X9.here hx rfl (hb hby at_212) rfl ?_
        show Steps p.tables e below (T9.setTop (mkF m 214 #[.val (.int xs), .val (.long st), .second, .val (.int stp), .val (.long exc), .second, .val (.int sel), .val (.long q), .second, .val (.ref a2), .val (.int (0 : Int32)), .val (.int (1 : Int32)), .val (.long (0 : Int64)), .second, .val (.long arr), .second, .val (.long (st + (0 : Int64))), .second, .val (.long (st + q)), .second, .val (.long (st + (0 : Int64))), .second, .val (.int (0 : Int32)), .val (.long (st + (0 : Int64))), .second, .val (.long ((st + (0 : Int64)) + q)), .second] [(.long (st + (0 : Int64)))])) _
        refine XS.lload X9.here hx rfl (hb hby at_214) rfl ?_
        show Steps p.tables e below (T9.setTop (mkF m 216 #[.val (.int xs), .val (.long st), .second, .val (.int stp), .val (.long exc), .second, .val (.int sel), .val (.long q), .second, .val (.ref a2), .val (.int (0 : Int32)), .val (.int (1 : Int32)), .val (.long (0 : Int64)), .second, .val (.long arr), .second, .val (.long (st + (0 : Int64))), .second, .val (.long (st + q)), .second, .val (.long (st + (0 : Int64))), .second, .val (.int (0 : Int32)), .val (.long (st + (0 : Int64))), .second, .val (.long ((st + (0 : Int64)) + q)), .second] [(.long (st + (0 : Int64))), (.long (st + (0 : Int64)))])) _
        refine XS.lcmp X9.here hx rfl (hb hby at_216) rfl ?_
        show Steps p.tables e below (T9.setTop (mkF m 217 #[.val (.int xs), .val (.long st), .second, .val (.int stp), .val (.long exc), .second, .val (.int sel), .val (.long q), .second, .val (.ref a2), .val (.int (0 : Int32)), .val (.int (1 : Int32)), .val (.long (0 : Int64)), .second, .val (.long arr), .second, .val (.long (st + (0 : Int64))), .second, .val (.long (st + q)), .second, .val (.long (st + (0 : Int64))), .second, .val (.int (0 : Int32)), .val (.long (st + (0 : Int64))), .second, .val (.long ((st + (0 : Int64)) + q)), .second] [(.int (lcmpW (st + (0 : Int64)) (st + (0 : Int64))))])) _
        refine XS.ifNo X9.here hx rfl (hb hby at_217) rfl ((Jvm.Own.holdsL _ _ _).trans (Jvm.Own.dF (fun q => q rfl))) ?_
        show Steps p.tables e below (T9.setTop (mkF m 220 #[.val (.int xs), .val (.long st), .second, .val (.int stp), .val (.long exc), .second, .val (.int sel), .val (.long q), .second, .val (.ref a2), .val (.int (0 : Int32)), .val (.int (1 : Int32)), .val (.long (0 : Int64)), .second, .val (.long arr), .second, .val (.long (st + (0 : Int64))), .second, .val (.long (st + q)), .second, .val (.long (st + (0 : Int64))), .second, .val (.int (0 : Int32)), .val (.long (st + (0 : Int64))), .second, .val (.long ((st + (0 : Int64)) + q)), .second] [])) _
        refine XS.lload X9.here hx rfl (hb hby at_220) rfl ?_
        show Steps p.tables e below (T9.setTop (mkF m 222 #[.val (.int xs), .val (.long st), .second, .val (.int stp), .val (.long exc), .second, .val (.int sel), .val (.long q), .second, .val (.ref a2), .val (.int (0 : Int32)), .val (.int (1 : Int32)), .val (.long (0 : Int64)), .second, .val (.long arr), .second, .val (.long (st + (0 : Int64))), .second, .val (.long (st + q)), .second, .val (.long (st + (0 : Int64))), .second, .val (.int (0 : Int32)), .val (.long (st + (0 : Int64))), .second, .val (.long ((st + (0 : Int64)) + q)), .second] [(.long (st + q))])) _
        refine XS.lload X9.here hx rfl (hb hby at_222) rfl ?_
        show Steps p.tables e below (T9.setTop (mkF m 224 #[.val (.int xs), .val (.long st), .second, .val (.int stp), .val (.long exc), .second, .val (.int sel), .val (.long q), .second, .val (.ref a2), .val (.int (0 : Int32)), .val (.int (1 : Int32)), .val (.long (0 : Int64)), .second, .val (.long arr), .second, .val (.long (st + (0 : Int64))), .second, .val (.long (st + q)), .second, .val (.long (st + (0 : Int64))), .second, .val (.int (0 : Int32)), .val (.long (st + (0 : Int64))), .second, .val (.long ((st + (0 : Int64)) + q)), .second] [(.long ((st + (0 : Int64)) + q)), (.long (st + q))])) _
        refine XS.lcmp X9.here hx rfl (hb hby at_224) rfl ?_
        show Steps p.tables e below (T9.setTop (mkF m 225 #[.val (.int xs), .val (.long st), .second, .val (.int stp), .val (.long exc), .second, .val (.int sel), .val (.long q), .second, .val (.ref a2), .val (.int (0 : Int32)), .val (.int (1 : Int32)), .val (.long (0 : Int64)), .second, .val (.long arr), .second, .val (.long (st + (0 : Int64))), .second, .val (.long (st + q)), .second, .val (.long (st + (0 : Int64))), .second, .val (.int (0 : Int32)), .val (.long (st + (0 : Int64))), .second, .val (.long ((st + (0 : Int64)) + q)), .second] [(.int (lcmpW (st + q) ((st + (0 : Int64)) + q)))])) _
        refine XS.ifNo X9.here hx rfl (hb hby at_225) rfl ((Jvm.Own.holdsL _ _ _).trans (Jvm.Own.dF (fun z => z (by rw [Int64.add_assoc, pa1])))) ?_
        show Steps p.tables e below (T9.setTop (mkF m 228 #[.val (.int xs), .val (.long st), .second, .val (.int stp), .val (.long exc), .second, .val (.int sel), .val (.long q), .second, .val (.ref a2), .val (.int (0 : Int32)), .val (.int (1 : Int32)), .val (.long (0 : Int64)), .second, .val (.long arr), .second, .val (.long (st + (0 : Int64))), .second, .val (.long (st + q)), .second, .val (.long (st + (0 : Int64))), .second, .val (.int (0 : Int32)), .val (.long (st + (0 : Int64))), .second, .val (.long ((st + (0 : Int64)) + q)), .second] [])) _
        refine XS.iconst X9.here hx rfl (hb hby at_228) ?_
        show Steps p.tables e below (T9.setTop (mkF m 229 #[.val (.int xs), .val (.long st), .second, .val (.int stp), .val (.long exc), .second, .val (.int sel), .val (.long q), .second, .val (.ref a2), .val (.int (0 : Int32)), .val (.int (1 : Int32)), .val (.long (0 : Int64)), .second, .val (.long arr), .second, .val (.long (st + (0 : Int64))), .second, .val (.long (st + q)), .second, .val (.long (st + (0 : Int64))), .second, .val (.int (0 : Int32)), .val (.long (st + (0 : Int64))), .second, .val (.long ((st + (0 : Int64)) + q)), .second] [(.int (1 : Int32))])) _
        refine XS.goto X9.here hx rfl (pc0 := 229) (pc' := 233) rfl (hb hby at_229) (by decide) (by decide) ?_
        show Steps p.tables e below (T9.setTop (mkF m 233 #[.val (.int xs), .val (.long st), .second, .val (.int stp), .val (.long exc), .second, .val (.int sel), .val (.long q), .second, .val (.ref a2), .val (.int (0 : Int32)), .val (.int (1 : Int32)), .val (.long (0 : Int64)), .second, .val (.long arr), .second, .val (.long (st + (0 : Int64))), .second, .val (.long (st + q)), .second, .val (.long (st + (0 : Int64))), .second, .val (.int (0 : Int32)), .val (.long (st + (0 : Int64))), .second, .val (.long ((st + (0 : Int64)) + q)), .second] [(.int (1 : Int32))])) _
        exact retN X9 hx (t := .boolean) Bd.returns (by simp) (hb hby at_233) hr
      · show QL n0 _ T9.heap _
        exact ⟨rfl, (Fr.app (Fr.app (Fr.app (Fr.app (Fr.app N0 N1) N3) N4) N8) N9)⟩
  · obtain ⟨arr, harr⟩ : ∃ v, st + q + exc = v := ⟨_, rfl⟩
    by_cases hc : (q).toInt < (arr - st).toInt
    · obtain ⟨_, _, ⟨T1, L1, k1, n1⟩, -, X1, ⟨Lc1, hQ1, l1, y1, z1⟩, st1⟩ := Jvm.LawKit.callS X0 hx (y := (⟨"com/example/earnest_load/earnestload/run/ScheduleNextFromPinLaw", "period", "(I)J"⟩ : MethodName)) hown (mvT hZ (hw _ (List.mem_of_getElem? (i := 0) rfl))) (mvT hZ (hw _ (List.mem_of_getElem? (i := 1) rfl))) (mvT hZ (hw _ (List.mem_of_getElem? (i := 2) rfl))) (mvT hZ (hw _ (List.mem_of_getElem? (i := 3) rfl))) (by decide) (backOf (W := 0) (rmPer l Z a0 hw [] sel h0 n0 Z0 q rr htri) hZ (hw _ (List.mem_of_getElem? (i := 3) rfl)) (hw _ (List.mem_of_getElem? (i := 2) rfl)) (by decide) (by decide)) (g := (mkF m 8 #[.val (.int xs), .val (.long st), .second, .val (.int stp), .val (.long exc), .second, .val (.int sel), .unset, .unset, .unset, .unset, .unset, .unset, .unset, .unset, .unset, .unset, .unset, .unset, .unset, .unset, .unset, .unset, .unset, .unset, .unset, .unset] [(.int sel)])) rfl (by rw [hml]; rfl) (argsL := [(.int sel)]) (rest := []) (lenOf pd_2 rfl) rfl (by show 2 * 0 + _ ≤ _; exact Nat.le_of_eq rfl) (hb hby at_8) (fun _ _ => ⟨rfl, e0, (by decide : 0 + 0 ≤ _), (by decide : 0 + 0 ≤ _)⟩)
      dsimp only [Pt.U, Pt.locs, Pt.cells, Pt.slots] at X1 l1 y1 z1 st1 hQ1
      subst l1 y1 z1
      obtain ⟨rfl, N1, e1⟩ := hQ1
      obtain ⟨T2, h2, X2, e2, E2, A2, D2, -, st2⟩ := newO X1 hx hZ hown (hw _ (List.mem_of_getElem? (i := 5) rfl)) (hw _ (List.mem_of_getElem? (i := 6) rfl)) (hw _ (List.mem_of_getElem? (i := 7) rfl)) e1 (g := (mkF m 13 #[.val (.int xs), .val (.long st), .second, .val (.int stp), .val (.long exc), .second, .val (.int sel), .val (.long q), .second, .unset, .unset, .unset, .unset, .unset, .unset, .unset, .unset, .unset, .unset, .unset, .unset, .unset, .unset, .unset, .unset, .unset, .unset] [])) rfl (hb hby at_13) (by decide) (by decide)
      obtain ⟨a2, g2⟩ : ∃ z, z = h0.size := ⟨_, rfl⟩
      rw [← g2] at A2 D2 st2
      have D_start := D2 (Or.inl (hw _ (List.mem_of_getElem? (i := 20) rfl))) (ty := .long) (by decide)
      have D_count := D2 (Or.inl (hw _ (List.mem_of_getElem? (i := 27) rfl))) (ty := .long) (by decide)
      have D_rate := D2 (Or.inr (hw _ (List.mem_of_getElem? (i := 18) rfl))) (ty := .double) (by decide)
      have Z2 : n0 ≤ h2.size := Nat.le_trans Z0 E2.1
      have ga : n0 ≤ a2 := Nat.le_trans Z0 (Nat.le_of_eq g2.symm)
      obtain ⟨_, _, ⟨T3, L3, k3, n3⟩, -, X3, ⟨Lc3, hQ3, l3, y3, z3⟩, st3⟩ := Jvm.LawKit.callS X2 hx (y := (⟨"com/example/earnest_load/earnestload/run/ScheduleNextFromPinLaw", "rate", "(I)I"⟩ : MethodName)) hown (mvT hZ (hw _ (List.mem_of_getElem? (i := 8) rfl))) (mvT hZ (hw _ (List.mem_of_getElem? (i := 9) rfl))) (mvT hZ (hw _ (List.mem_of_getElem? (i := 2) rfl))) (mvT hZ (hw _ (List.mem_of_getElem? (i := 10) rfl))) (by decide) (backOf (W := 2) (rmRate l Z a0 hw [] sel h2 n0 Z2 q rr htri) hZ (hw _ (List.mem_of_getElem? (i := 10) rfl)) (hw _ (List.mem_of_getElem? (i := 2) rfl)) (by decide) (by decide)) (g := (mkF m 19 #[.val (.int xs), .val (.long st), .second, .val (.int stp), .val (.long exc), .second, .val (.int sel), .val (.long q), .second, .unset, .unset, .unset, .unset, .unset, .unset, .unset, .unset, .unset, .unset, .unset, .unset, .unset, .unset, .unset, .unset, .unset, .unset] [(.int sel), (.ref a2), (.ref a2)])) rfl (by rw [hml]; rfl) (argsL := [(.int sel)]) (rest := [(.ref a2), (.ref a2)]) (lenOf pd_3 rfl) rfl (by show 2 * 0 + _ ≤ _; exact Nat.le_of_eq rfl) (hb hby at_19) (fun _ _ => ⟨rfl, e2, (by decide : 1 + 0 ≤ _), (by decide : 3 + 0 ≤ _)⟩)
      dsimp only [Pt.U, Pt.locs, Pt.cells, Pt.slots] at X3 l3 y3 z3 st3 hQ3
      subst l3 y3 z3
      obtain ⟨rfl, N3, e3⟩ := hQ3
      obtain ⟨_, _, ⟨T4, L4, k4, n4⟩, -, X4, ⟨Lc4, hQ4, l4, y4, z4⟩, st4⟩ := X3.specialBack hx (y := (⟨"com/example/earnest_load/earnestload/run/Schedule", "<init>", "(DJ)V"⟩ : MethodName)) rfl hown (mvT hZ (hw _ (List.mem_of_getElem? (i := 11) rfl))) (mvT hZ (hw _ (List.mem_of_getElem? (i := 12) rfl))) (mvT hZ (hw _ (List.mem_of_getElem? (i := 13) rfl))) (by decide) (backOf (W := 1) (rmInit l Z a0 hw [] a2 (FP.i2d rr) st h2 n0 Z2 A2 ga D_start D_count D_rate) hZ (hw _ (List.mem_of_getElem? (i := 13) rfl)) (hw _ (List.mem_of_getElem? (i := 7) rfl)) (by decide) (by decide)) (g := (mkF m 24 #[.val (.int xs), .val (.long st), .second, .val (.int stp), .val (.long exc), .second, .val (.int sel), .val (.long q), .second, .unset, .unset, .unset, .unset, .unset, .unset, .unset, .unset, .unset, .unset, .unset, .unset, .unset, .unset, .unset, .unset, .unset, .unset] [(.long st), (.double (FP.i2d rr)), (.ref a2), (.ref a2)])) rfl (by rw [hml]; rfl) (Steps.refl _) (a := a2) (argsL := [(.double (FP.i2d rr)), (.long st)]) (rest := [(.ref a2)]) (lenOf pd_4 rfl) rfl (by show 2 * 0 + _ ≤ _; exact Nat.le_of_eq rfl) (hb hby at_24) (fun _ _ => ⟨rfl, e3, (by decide : 1 + 0 ≤ _), (by decide : 3 + 0 ≤ _)⟩)
      dsimp only [Pt.U, Pt.locs, Pt.cells, Pt.slots] at X4 l4 y4 z4 st4 hQ4
      subst l4 y4 z4
      obtain ⟨rfl, N4, K4, E4, Fs4, Fc4, Fr4⟩ := hQ4
      have Z4 : n0 ≤ T4.heap.size := Nat.le_trans Z2 K4.1
      obtain ⟨cq5, kq5, q5a, q5b, q5c⟩ := isOf hZ rfl E4
      obtain ⟨_, _, ⟨T5, L5, k5, n5⟩, -, X5, ⟨Lc5, hQ5, l5, y5, z5⟩, st5⟩ := X4.virtualBack hx (y := (⟨"com/example/earnest_load/earnestload/run/Schedule", "next", "()J"⟩ : MethodName)) (z := (⟨"com/example/earnest_load/earnestload/run/Schedule", "next", "()J"⟩ : MethodName)) hown (mvT hZ (hw _ (List.mem_of_getElem? (i := 21) rfl))) (mvT hZ (hw _ (List.mem_of_getElem? (i := 22) rfl))) (notFace_of_selects (args := #[]) (mvT hZ (hw _ (List.mem_of_getElem? (i := 24) rfl)))) (mvT hZ (hw _ (List.mem_of_getElem? (i := 24) rfl))) (mvT hZ (hw _ (List.mem_of_getElem? (i := 23) rfl))) (by decide) (backOf (W := 0) (rmNext l Z a0 hw [] a2 T4.heap n0 Z4 st (0 : Int64) (0 : Int64) (FP.i2d rr) Fs4 Fc4 Fr4 E4 ga p0.1 p0.2.1 p0.2.2) hZ (hw _ (List.mem_of_getElem? (i := 25) rfl)) (hw _ (List.mem_of_getElem? (i := 7) rfl)) (by decide) (by decide)) q5a q5c (g := (mkF m 49 #[.val (.int xs), .val (.long st), .second, .val (.int stp), .val (.long exc), .second, .val (.int sel), .val (.long q), .second, .val (.ref a2), .val (.int (1 : Int32)), .val (.int (1 : Int32)), .unset, .unset, .unset, .unset, .unset, .unset, .unset, .unset, .unset, .unset, .unset, .unset, .unset, .unset, .unset] [(.ref a2)])) rfl (by rw [hml]; rfl) (Steps.refl _) (argsL := []) (rest := []) (lenOf pd_1 rfl) rfl (by show 2 * 0 + _ ≤ _; exact Nat.le_of_eq rfl) (hb hby at_49) (fun _ _ => ⟨rfl, rfl, (by decide : 1 + 0 ≤ _), (by decide : 3 + 0 ≤ _)⟩)
      dsimp only [Pt.U, Pt.locs, Pt.cells, Pt.slots] at X5 l5 y5 z5 st5 hQ5
      subst l5 y5 z5
      obtain ⟨rfl, N5, K5, E5, Fs5, Fc5, Fr5⟩ := hQ5
      have Z5 : n0 ≤ T5.heap.size := Nat.le_trans Z4 K5.1
      obtain ⟨cq8, kq8, q8a, q8b, q8c⟩ := isOf hZ rfl E5
      obtain ⟨_, _, ⟨T8, L8, k8, n8⟩, -, X8, ⟨Lc8, hQ8, l8, y8, z8⟩, st8⟩ := X5.virtualBack hx (y := (⟨"com/example/earnest_load/earnestload/run/Schedule", "nextFrom", "(J)J"⟩ : MethodName)) (z := (⟨"com/example/earnest_load/earnestload/run/Schedule", "nextFrom", "(J)J"⟩ : MethodName)) hown (mvT hZ (hw _ (List.mem_of_getElem? (i := 33) rfl))) (mvT hZ (hw _ (List.mem_of_getElem? (i := 34) rfl))) (notFace_of_selects (args := #[]) (mvT hZ (hw _ (List.mem_of_getElem? (i := 36) rfl)))) (mvT hZ (hw _ (List.mem_of_getElem? (i := 36) rfl))) (mvT hZ (hw _ (List.mem_of_getElem? (i := 35) rfl))) (by decide) (backOf (W := 0) (rmFromL l Z a0 hw [] a2 arr T5.heap n0 Z5 st (0 + (1 : Int64)) q (FP.i2d rr) Fs5 Fc5 Fr5 E5 ga p1.1 p1.2.1 p1.2.2 p0.1 p0.2.1 p0.2.2 hc) hZ (hw _ (List.mem_of_getElem? (i := 37) rfl)) (hw _ (List.mem_of_getElem? (i := 7) rfl)) (by decide) (by decide)) q8a q8c (g := (mkF m 151 #[.val (.int xs), .val (.long st), .second, .val (.int stp), .val (.long exc), .second, .val (.int sel), .val (.long q), .second, .val (.ref a2), .val (.int (1 : Int32)), .val (.int (1 : Int32)), .val (.long q), .second, .val (.long arr), .second, .unset, .unset, .unset, .unset, .unset, .unset, .unset, .unset, .unset, .unset, .unset] [(.long arr), (.ref a2)])) rfl (by rw [hml]; rfl) (Steps.refl _) (argsL := [(.long arr)]) (rest := []) (lenOf pd_0 rfl) rfl (by show 2 * 0 + _ ≤ _; exact Nat.le_of_eq rfl) (hb hby at_151) (fun _ _ => ⟨rfl, rfl, (by decide : 1 + 0 ≤ _), (by decide : 3 + 0 ≤ _)⟩)
      dsimp only [Pt.U, Pt.locs, Pt.cells, Pt.slots] at X8 l8 y8 z8 st8 hQ8
      subst l8 y8 z8
      obtain ⟨rfl, N8, K8, E8, Fs8, Fc8, Fr8⟩ := hQ8
      have Z8 : n0 ≤ T8.heap.size := Nat.le_trans Z5 K8.1
      obtain ⟨cq9, kq9, q9a, q9b, q9c⟩ := isOf hZ rfl E8
      obtain ⟨_, _, ⟨T9, L9, k9, n9⟩, -, X9, ⟨Lc9, hQ9, l9, y9, z9⟩, st9⟩ := X8.virtualBack hx (y := (⟨"com/example/earnest_load/earnestload/run/Schedule", "next", "()J"⟩ : MethodName)) (z := (⟨"com/example/earnest_load/earnestload/run/Schedule", "next", "()J"⟩ : MethodName)) hown (mvT hZ (hw _ (List.mem_of_getElem? (i := 21) rfl))) (mvT hZ (hw _ (List.mem_of_getElem? (i := 22) rfl))) (notFace_of_selects (args := #[]) (mvT hZ (hw _ (List.mem_of_getElem? (i := 24) rfl)))) (mvT hZ (hw _ (List.mem_of_getElem? (i := 24) rfl))) (mvT hZ (hw _ (List.mem_of_getElem? (i := 23) rfl))) (by decide) (backOf (W := 0) (rmNext l Z a0 hw [] a2 T8.heap n0 Z8 arr (0 + (1 : Int64)) q (FP.i2d rr) Fs8 Fc8 Fr8 E8 ga p1.1 p1.2.1 p1.2.2) hZ (hw _ (List.mem_of_getElem? (i := 25) rfl)) (hw _ (List.mem_of_getElem? (i := 7) rfl)) (by decide) (by decide)) q9a q9c (g := (mkF m 158 #[.val (.int xs), .val (.long st), .second, .val (.int stp), .val (.long exc), .second, .val (.int sel), .val (.long q), .second, .val (.ref a2), .val (.int (1 : Int32)), .val (.int (1 : Int32)), .val (.long q), .second, .val (.long arr), .second, .val (.long (arr + 0)), .second, .unset, .unset, .unset, .unset, .unset, .unset, .unset, .unset, .unset] [(.ref a2)])) rfl (by rw [hml]; rfl) (Steps.refl _) (argsL := []) (rest := []) (lenOf pd_1 rfl) rfl (by show 2 * 0 + _ ≤ _; exact Nat.le_of_eq rfl) (hb hby at_158) (fun _ _ => ⟨rfl, rfl, (by decide : 1 + 0 ≤ _), (by decide : 3 + 0 ≤ _)⟩)
      dsimp only [Pt.U, Pt.locs, Pt.cells, Pt.slots] at X9 l9 y9 z9 st9 hQ9
      subst l9 y9 z9
      obtain ⟨rfl, N9, K9, E9, Fs9, Fc9, Fr9⟩ := hQ9
      obtain ⟨fs, hr, hrun, hended, hW, hsame⟩ := X9.leave (v := some (.int (1 : Int32))) (fun h => by rw [Bd.returns] at h; cases h)
      refine ⟨_, _, pre0 _ ?_, hrun, hended, _, _, rfl, ?_, ⟨_, rfl⟩, hW, hsame.mono (by decide) (by decide)⟩
      · show Steps p.tables e below (s₁.setTop (mkF m 0 #[.val (.int xs), .val (.long st), .second, .val (.int stp), .val (.long exc), .second, .unset, .unset, .unset, .unset, .unset, .unset, .unset, .unset, .unset, .unset, .unset, .unset, .unset, .unset, .unset, .unset, .unset, .unset, .unset, .unset, .unset] [])) _
        refine XS.iloadN X0.here hx rfl (hb hby at_0) rfl ?_
        show Steps p.tables e below (s₁.setTop (mkF m 1 #[.val (.int xs), .val (.long st), .second, .val (.int stp), .val (.long exc), .second, .unset, .unset, .unset, .unset, .unset, .unset, .unset, .unset, .unset, .unset, .unset, .unset, .unset, .unset, .unset, .unset, .unset, .unset, .unset, .unset, .unset] [(.int xs)])) _
        refine XS.bipush X0.here hx rfl (hb hby at_1) ?_
        show Steps p.tables e below (s₁.setTop (mkF m 3 #[.val (.int xs), .val (.long st), .second, .val (.int stp), .val (.long exc), .second, .unset, .unset, .unset, .unset, .unset, .unset, .unset, .unset, .unset, .unset, .unset, .unset, .unset, .unset, .unset, .unset, .unset, .unset, .unset, .unset, .unset] [(.int (7 : Int32)), (.int xs)])) _
        refine XS.iand X0.here hx rfl (hb hby at_3) rfl ?_
        rw [hsel]
        show Steps p.tables e below (s₁.setTop (mkF m 4 #[.val (.int xs), .val (.long st), .second, .val (.int stp), .val (.long exc), .second, .unset, .unset, .unset, .unset, .unset, .unset, .unset, .unset, .unset, .unset, .unset, .unset, .unset, .unset, .unset, .unset, .unset, .unset, .unset, .unset, .unset] [(.int sel)])) _
        refine XS.istore X0.here hx rfl (hb hby at_4) rfl (l' := #[.val (.int xs), .val (.long st), .second, .val (.int stp), .val (.long exc), .second, .val (.int sel), .unset, .unset, .unset, .unset, .unset, .unset, .unset, .unset, .unset, .unset, .unset, .unset, .unset, .unset, .unset, .unset, .unset, .unset, .unset, .unset]) rfl ?_
        show Steps p.tables e below (s₁.setTop (mkF m 6 #[.val (.int xs), .val (.long st), .second, .val (.int stp), .val (.long exc), .second, .val (.int sel), .unset, .unset, .unset, .unset, .unset, .unset, .unset, .unset, .unset, .unset, .unset, .unset, .unset, .unset, .unset, .unset, .unset, .unset, .unset, .unset] [])) _
        refine XS.iload X0.here hx rfl (hb hby at_6) rfl ?_
        show Steps p.tables e below (s₁.setTop (mkF m 8 #[.val (.int xs), .val (.long st), .second, .val (.int stp), .val (.long exc), .second, .val (.int sel), .unset, .unset, .unset, .unset, .unset, .unset, .unset, .unset, .unset, .unset, .unset, .unset, .unset, .unset, .unset, .unset, .unset, .unset, .unset, .unset] [(.int sel)])) _
        refine st1 _ ?_
        show Steps p.tables e below (T1.setTop (mkF m 11 #[.val (.int xs), .val (.long st), .second, .val (.int stp), .val (.long exc), .second, .val (.int sel), .unset, .unset, .unset, .unset, .unset, .unset, .unset, .unset, .unset, .unset, .unset, .unset, .unset, .unset, .unset, .unset, .unset, .unset, .unset, .unset] [(.long q)])) _
        refine XS.lstore X1.here hx rfl (hb hby at_11) rfl (l' := #[.val (.int xs), .val (.long st), .second, .val (.int stp), .val (.long exc), .second, .val (.int sel), .val (.long q), .second, .unset, .unset, .unset, .unset, .unset, .unset, .unset, .unset, .unset, .unset, .unset, .unset, .unset, .unset, .unset, .unset, .unset, .unset]) rfl ?_
        show Steps p.tables e below (T1.setTop (mkF m 13 #[.val (.int xs), .val (.long st), .second, .val (.int stp), .val (.long exc), .second, .val (.int sel), .val (.long q), .second, .unset, .unset, .unset, .unset, .unset, .unset, .unset, .unset, .unset, .unset, .unset, .unset, .unset, .unset, .unset, .unset, .unset, .unset] [])) _
        refine st2 _ ?_
        show Steps p.tables e below (T2.setTop (mkF m 16 #[.val (.int xs), .val (.long st), .second, .val (.int stp), .val (.long exc), .second, .val (.int sel), .val (.long q), .second, .unset, .unset, .unset, .unset, .unset, .unset, .unset, .unset, .unset, .unset, .unset, .unset, .unset, .unset, .unset, .unset, .unset, .unset] [(.ref a2)])) _
        refine XS.dup X2.here hx rfl (hb hby at_16) rfl rfl ?_
        show Steps p.tables e below (T2.setTop (mkF m 17 #[.val (.int xs), .val (.long st), .second, .val (.int stp), .val (.long exc), .second, .val (.int sel), .val (.long q), .second, .unset, .unset, .unset, .unset, .unset, .unset, .unset, .unset, .unset, .unset, .unset, .unset, .unset, .unset, .unset, .unset, .unset, .unset] [(.ref a2), (.ref a2)])) _
        refine XS.iload X2.here hx rfl (hb hby at_17) rfl ?_
        show Steps p.tables e below (T2.setTop (mkF m 19 #[.val (.int xs), .val (.long st), .second, .val (.int stp), .val (.long exc), .second, .val (.int sel), .val (.long q), .second, .unset, .unset, .unset, .unset, .unset, .unset, .unset, .unset, .unset, .unset, .unset, .unset, .unset, .unset, .unset, .unset, .unset, .unset] [(.int sel), (.ref a2), (.ref a2)])) _
        refine st3 _ ?_
        show Steps p.tables e below (T3.setTop (mkF m 22 #[.val (.int xs), .val (.long st), .second, .val (.int stp), .val (.long exc), .second, .val (.int sel), .val (.long q), .second, .unset, .unset, .unset, .unset, .unset, .unset, .unset, .unset, .unset, .unset, .unset, .unset, .unset, .unset, .unset, .unset, .unset, .unset] [(.int rr), (.ref a2), (.ref a2)])) _
        refine XS.i2dS X3.here hx rfl (hb hby at_22) rfl (v := FP.i2d rr) rfl ?_
        show Steps p.tables e below (T3.setTop (mkF m 23 #[.val (.int xs), .val (.long st), .second, .val (.int stp), .val (.long exc), .second, .val (.int sel), .val (.long q), .second, .unset, .unset, .unset, .unset, .unset, .unset, .unset, .unset, .unset, .unset, .unset, .unset, .unset, .unset, .unset, .unset, .unset, .unset] [(.double (FP.i2d rr)), (.ref a2), (.ref a2)])) _
        refine XS.lloadN X3.here hx rfl (hb hby at_23) rfl ?_
        show Steps p.tables e below (T3.setTop (mkF m 24 #[.val (.int xs), .val (.long st), .second, .val (.int stp), .val (.long exc), .second, .val (.int sel), .val (.long q), .second, .unset, .unset, .unset, .unset, .unset, .unset, .unset, .unset, .unset, .unset, .unset, .unset, .unset, .unset, .unset, .unset, .unset, .unset] [(.long st), (.double (FP.i2d rr)), (.ref a2), (.ref a2)])) _
        refine st4.trans ?_
        show Steps p.tables e below (T4.setTop (mkF m 27 #[.val (.int xs), .val (.long st), .second, .val (.int stp), .val (.long exc), .second, .val (.int sel), .val (.long q), .second, .unset, .unset, .unset, .unset, .unset, .unset, .unset, .unset, .unset, .unset, .unset, .unset, .unset, .unset, .unset, .unset, .unset, .unset] [(.ref a2)])) _
        refine XS.astore X4.here hx rfl (hb hby at_27) rfl rfl (l' := #[.val (.int xs), .val (.long st), .second, .val (.int stp), .val (.long exc), .second, .val (.int sel), .val (.long q), .second, .val (.ref a2), .unset, .unset, .unset, .unset, .unset, .unset, .unset, .unset, .unset, .unset, .unset, .unset, .unset, .unset, .unset, .unset, .unset]) rfl ?_
        show Steps p.tables e below (T4.setTop (mkF m 29 #[.val (.int xs), .val (.long st), .second, .val (.int stp), .val (.long exc), .second, .val (.int sel), .val (.long q), .second, .val (.ref a2), .unset, .unset, .unset, .unset, .unset, .unset, .unset, .unset, .unset, .unset, .unset, .unset, .unset, .unset, .unset, .unset, .unset] [])) _
        refine XS.iloadN X4.here hx rfl (hb hby at_29) rfl ?_
        show Steps p.tables e below (T4.setTop (mkF m 30 #[.val (.int xs), .val (.long st), .second, .val (.int stp), .val (.long exc), .second, .val (.int sel), .val (.long q), .second, .val (.ref a2), .unset, .unset, .unset, .unset, .unset, .unset, .unset, .unset, .unset, .unset, .unset, .unset, .unset, .unset, .unset, .unset, .unset] [(.int stp)])) _
        refine XS.iconst X4.here hx rfl (hb hby at_30) ?_
        show Steps p.tables e below (T4.setTop (mkF m 31 #[.val (.int xs), .val (.long st), .second, .val (.int stp), .val (.long exc), .second, .val (.int sel), .val (.long q), .second, .val (.ref a2), .unset, .unset, .unset, .unset, .unset, .unset, .unset, .unset, .unset, .unset, .unset, .unset, .unset, .unset, .unset, .unset, .unset] [(.int (3 : Int32)), (.int stp)])) _
        refine XS.iand X4.here hx rfl (hb hby at_31) rfl ?_
        rw [hkk]
        show Steps p.tables e below (T4.setTop (mkF m 32 #[.val (.int xs), .val (.long st), .second, .val (.int stp), .val (.long exc), .second, .val (.int sel), .val (.long q), .second, .val (.ref a2), .unset, .unset, .unset, .unset, .unset, .unset, .unset, .unset, .unset, .unset, .unset, .unset, .unset, .unset, .unset, .unset, .unset] [(.int (1 : Int32))])) _
        refine XS.istore X4.here hx rfl (hb hby at_32) rfl (l' := #[.val (.int xs), .val (.long st), .second, .val (.int stp), .val (.long exc), .second, .val (.int sel), .val (.long q), .second, .val (.ref a2), .val (.int (1 : Int32)), .unset, .unset, .unset, .unset, .unset, .unset, .unset, .unset, .unset, .unset, .unset, .unset, .unset, .unset, .unset, .unset]) rfl ?_
        show Steps p.tables e below (T4.setTop (mkF m 34 #[.val (.int xs), .val (.long st), .second, .val (.int stp), .val (.long exc), .second, .val (.int sel), .val (.long q), .second, .val (.ref a2), .val (.int (1 : Int32)), .unset, .unset, .unset, .unset, .unset, .unset, .unset, .unset, .unset, .unset, .unset, .unset, .unset, .unset, .unset, .unset] [])) _
        refine XS.iconst X4.here hx rfl (hb hby at_34) ?_
        show Steps p.tables e below (T4.setTop (mkF m 35 #[.val (.int xs), .val (.long st), .second, .val (.int stp), .val (.long exc), .second, .val (.int sel), .val (.long q), .second, .val (.ref a2), .val (.int (1 : Int32)), .unset, .unset, .unset, .unset, .unset, .unset, .unset, .unset, .unset, .unset, .unset, .unset, .unset, .unset, .unset, .unset] [(.int (1 : Int32))])) _
        refine XS.istore X4.here hx rfl (hb hby at_35) rfl (l' := #[.val (.int xs), .val (.long st), .second, .val (.int stp), .val (.long exc), .second, .val (.int sel), .val (.long q), .second, .val (.ref a2), .val (.int (1 : Int32)), .val (.int (1 : Int32)), .unset, .unset, .unset, .unset, .unset, .unset, .unset, .unset, .unset, .unset, .unset, .unset, .unset, .unset, .unset]) rfl ?_
        show Steps p.tables e below (T4.setTop (mkF m 37 #[.val (.int xs), .val (.long st), .second, .val (.int stp), .val (.long exc), .second, .val (.int sel), .val (.long q), .second, .val (.ref a2), .val (.int (1 : Int32)), .val (.int (1 : Int32)), .unset, .unset, .unset, .unset, .unset, .unset, .unset, .unset, .unset, .unset, .unset, .unset, .unset, .unset, .unset] [])) _
        refine XS.iload X4.here hx rfl (hb hby at_37) rfl ?_
        show Steps p.tables e below (T4.setTop (mkF m 39 #[.val (.int xs), .val (.long st), .second, .val (.int stp), .val (.long exc), .second, .val (.int sel), .val (.long q), .second, .val (.ref a2), .val (.int (1 : Int32)), .val (.int (1 : Int32)), .unset, .unset, .unset, .unset, .unset, .unset, .unset, .unset, .unset, .unset, .unset, .unset, .unset, .unset, .unset] [(.int (1 : Int32))])) _
        refine XS.ifNo X4.here hx rfl (hb hby at_39) rfl rfl ?_
        show Steps p.tables e below (T4.setTop (mkF m 42 #[.val (.int xs), .val (.long st), .second, .val (.int stp), .val (.long exc), .second, .val (.int sel), .val (.long q), .second, .val (.ref a2), .val (.int (1 : Int32)), .val (.int (1 : Int32)), .unset, .unset, .unset, .unset, .unset, .unset, .unset, .unset, .unset, .unset, .unset, .unset, .unset, .unset, .unset] [])) _
        refine XS.iload X4.here hx rfl (hb hby at_42) rfl ?_
        show Steps p.tables e below (T4.setTop (mkF m 44 #[.val (.int xs), .val (.long st), .second, .val (.int stp), .val (.long exc), .second, .val (.int sel), .val (.long q), .second, .val (.ref a2), .val (.int (1 : Int32)), .val (.int (1 : Int32)), .unset, .unset, .unset, .unset, .unset, .unset, .unset, .unset, .unset, .unset, .unset, .unset, .unset, .unset, .unset] [(.int (1 : Int32))])) _
        refine XS.ifNo X4.here hx rfl (hb hby at_44) rfl rfl ?_
        show Steps p.tables e below (T4.setTop (mkF m 47 #[.val (.int xs), .val (.long st), .second, .val (.int stp), .val (.long exc), .second, .val (.int sel), .val (.long q), .second, .val (.ref a2), .val (.int (1 : Int32)), .val (.int (1 : Int32)), .unset, .unset, .unset, .unset, .unset, .unset, .unset, .unset, .unset, .unset, .unset, .unset, .unset, .unset, .unset] [])) _
        refine XS.aload X4.here hx rfl (hb hby at_47) rfl rfl ?_
        show Steps p.tables e below (T4.setTop (mkF m 49 #[.val (.int xs), .val (.long st), .second, .val (.int stp), .val (.long exc), .second, .val (.int sel), .val (.long q), .second, .val (.ref a2), .val (.int (1 : Int32)), .val (.int (1 : Int32)), .unset, .unset, .unset, .unset, .unset, .unset, .unset, .unset, .unset, .unset, .unset, .unset, .unset, .unset, .unset] [(.ref a2)])) _
        refine st5.trans ?_
        show Steps p.tables e below (T5.setTop (mkF m 52 #[.val (.int xs), .val (.long st), .second, .val (.int stp), .val (.long exc), .second, .val (.int sel), .val (.long q), .second, .val (.ref a2), .val (.int (1 : Int32)), .val (.int (1 : Int32)), .unset, .unset, .unset, .unset, .unset, .unset, .unset, .unset, .unset, .unset, .unset, .unset, .unset, .unset, .unset] [(.long (st + (0 : Int64)))])) _
        refine XS.lloadN X5.here hx rfl (hb hby at_52) rfl ?_
        show Steps p.tables e below (T5.setTop (mkF m 53 #[.val (.int xs), .val (.long st), .second, .val (.int stp), .val (.long exc), .second, .val (.int sel), .val (.long q), .second, .val (.ref a2), .val (.int (1 : Int32)), .val (.int (1 : Int32)), .unset, .unset, .unset, .unset, .unset, .unset, .unset, .unset, .unset, .unset, .unset, .unset, .unset, .unset, .unset] [(.long st), (.long (st + (0 : Int64)))])) _
        refine XS.lcmp X5.here hx rfl (hb hby at_53) rfl ?_
        show Steps p.tables e below (T5.setTop (mkF m 54 #[.val (.int xs), .val (.long st), .second, .val (.int stp), .val (.long exc), .second, .val (.int sel), .val (.long q), .second, .val (.ref a2), .val (.int (1 : Int32)), .val (.int (1 : Int32)), .unset, .unset, .unset, .unset, .unset, .unset, .unset, .unset, .unset, .unset, .unset, .unset, .unset, .unset, .unset] [(.int (lcmpW (st + (0 : Int64)) st))])) _
        refine XS.ifNo X5.here hx rfl (hb hby at_54) rfl ((Jvm.Own.holdsL _ _ _).trans (Jvm.Own.dF (by rw [sz]; exact fun q => q rfl))) ?_
        show Steps p.tables e below (T5.setTop (mkF m 57 #[.val (.int xs), .val (.long st), .second, .val (.int stp), .val (.long exc), .second, .val (.int sel), .val (.long q), .second, .val (.ref a2), .val (.int (1 : Int32)), .val (.int (1 : Int32)), .unset, .unset, .unset, .unset, .unset, .unset, .unset, .unset, .unset, .unset, .unset, .unset, .unset, .unset, .unset] [])) _
        refine XS.iconst X5.here hx rfl (hb hby at_57) ?_
        show Steps p.tables e below (T5.setTop (mkF m 58 #[.val (.int xs), .val (.long st), .second, .val (.int stp), .val (.long exc), .second, .val (.int sel), .val (.long q), .second, .val (.ref a2), .val (.int (1 : Int32)), .val (.int (1 : Int32)), .unset, .unset, .unset, .unset, .unset, .unset, .unset, .unset, .unset, .unset, .unset, .unset, .unset, .unset, .unset] [(.int (1 : Int32))])) _
        refine XS.goto X5.here hx rfl (pc0 := 58) (pc' := 62) rfl (hb hby at_58) (by decide) (by decide) ?_
        show Steps p.tables e below (T5.setTop (mkF m 62 #[.val (.int xs), .val (.long st), .second, .val (.int stp), .val (.long exc), .second, .val (.int sel), .val (.long q), .second, .val (.ref a2), .val (.int (1 : Int32)), .val (.int (1 : Int32)), .unset, .unset, .unset, .unset, .unset, .unset, .unset, .unset, .unset, .unset, .unset, .unset, .unset, .unset, .unset] [(.int (1 : Int32))])) _
        refine XS.istore X5.here hx rfl (hb hby at_62) rfl (l' := #[.val (.int xs), .val (.long st), .second, .val (.int stp), .val (.long exc), .second, .val (.int sel), .val (.long q), .second, .val (.ref a2), .val (.int (1 : Int32)), .val (.int (1 : Int32)), .unset, .unset, .unset, .unset, .unset, .unset, .unset, .unset, .unset, .unset, .unset, .unset, .unset, .unset, .unset]) rfl ?_
        show Steps p.tables e below (T5.setTop (mkF m 64 #[.val (.int xs), .val (.long st), .second, .val (.int stp), .val (.long exc), .second, .val (.int sel), .val (.long q), .second, .val (.ref a2), .val (.int (1 : Int32)), .val (.int (1 : Int32)), .unset, .unset, .unset, .unset, .unset, .unset, .unset, .unset, .unset, .unset, .unset, .unset, .unset, .unset, .unset] [])) _
        refine XS.iload X5.here hx rfl (hb hby at_64) rfl ?_
        show Steps p.tables e below (T5.setTop (mkF m 66 #[.val (.int xs), .val (.long st), .second, .val (.int stp), .val (.long exc), .second, .val (.int sel), .val (.long q), .second, .val (.ref a2), .val (.int (1 : Int32)), .val (.int (1 : Int32)), .unset, .unset, .unset, .unset, .unset, .unset, .unset, .unset, .unset, .unset, .unset, .unset, .unset, .unset, .unset] [(.int (1 : Int32))])) _
        refine XS.iconst X5.here hx rfl (hb hby at_66) ?_
        show Steps p.tables e below (T5.setTop (mkF m 67 #[.val (.int xs), .val (.long st), .second, .val (.int stp), .val (.long exc), .second, .val (.int sel), .val (.long q), .second, .val (.ref a2), .val (.int (1 : Int32)), .val (.int (1 : Int32)), .unset, .unset, .unset, .unset, .unset, .unset, .unset, .unset, .unset, .unset, .unset, .unset, .unset, .unset, .unset] [(.int (1 : Int32)), (.int (1 : Int32))])) _
        refine XS.icmpYes X5.here hx rfl (pc0 := 67) (pc' := 95) rfl (hb hby at_67) rfl rfl (by decide) (by decide) ?_
        show Steps p.tables e below (T5.setTop (mkF m 95 #[.val (.int xs), .val (.long st), .second, .val (.int stp), .val (.long exc), .second, .val (.int sel), .val (.long q), .second, .val (.ref a2), .val (.int (1 : Int32)), .val (.int (1 : Int32)), .unset, .unset, .unset, .unset, .unset, .unset, .unset, .unset, .unset, .unset, .unset, .unset, .unset, .unset, .unset] [])) _
        refine XS.iload X5.here hx rfl (hb hby at_95) rfl ?_
        show Steps p.tables e below (T5.setTop (mkF m 97 #[.val (.int xs), .val (.long st), .second, .val (.int stp), .val (.long exc), .second, .val (.int sel), .val (.long q), .second, .val (.ref a2), .val (.int (1 : Int32)), .val (.int (1 : Int32)), .unset, .unset, .unset, .unset, .unset, .unset, .unset, .unset, .unset, .unset, .unset, .unset, .unset, .unset, .unset] [(.int (1 : Int32))])) _
        refine XS.iconst X5.here hx rfl (hb hby at_97) ?_
        show Steps p.tables e below (T5.setTop (mkF m 98 #[.val (.int xs), .val (.long st), .second, .val (.int stp), .val (.long exc), .second, .val (.int sel), .val (.long q), .second, .val (.ref a2), .val (.int (1 : Int32)), .val (.int (1 : Int32)), .unset, .unset, .unset, .unset, .unset, .unset, .unset, .unset, .unset, .unset, .unset, .unset, .unset, .unset, .unset] [(.int (2 : Int32)), (.int (1 : Int32))])) _
        refine XS.icmpYes X5.here hx rfl (pc0 := 98) (pc' := 130) rfl (hb hby at_98) rfl rfl (by decide) (by decide) ?_
        show Steps p.tables e below (T5.setTop (mkF m 130 #[.val (.int xs), .val (.long st), .second, .val (.int stp), .val (.long exc), .second, .val (.int sel), .val (.long q), .second, .val (.ref a2), .val (.int (1 : Int32)), .val (.int (1 : Int32)), .unset, .unset, .unset, .unset, .unset, .unset, .unset, .unset, .unset, .unset, .unset, .unset, .unset, .unset, .unset] [])) _
        refine XS.iload X5.here hx rfl (hb hby at_130) rfl ?_
        show Steps p.tables e below (T5.setTop (mkF m 132 #[.val (.int xs), .val (.long st), .second, .val (.int stp), .val (.long exc), .second, .val (.int sel), .val (.long q), .second, .val (.ref a2), .val (.int (1 : Int32)), .val (.int (1 : Int32)), .unset, .unset, .unset, .unset, .unset, .unset, .unset, .unset, .unset, .unset, .unset, .unset, .unset, .unset, .unset] [(.int (1 : Int32))])) _
        refine XS.i2l X5.here hx rfl (hb hby at_132) rfl ?_
        show Steps p.tables e below (T5.setTop (mkF m 133 #[.val (.int xs), .val (.long st), .second, .val (.int stp), .val (.long exc), .second, .val (.int sel), .val (.long q), .second, .val (.ref a2), .val (.int (1 : Int32)), .val (.int (1 : Int32)), .unset, .unset, .unset, .unset, .unset, .unset, .unset, .unset, .unset, .unset, .unset, .unset, .unset, .unset, .unset] [(.long ((1 : Int32).toInt64))])) _
        refine XS.lload X5.here hx rfl (hb hby at_133) rfl ?_
        show Steps p.tables e below (T5.setTop (mkF m 135 #[.val (.int xs), .val (.long st), .second, .val (.int stp), .val (.long exc), .second, .val (.int sel), .val (.long q), .second, .val (.ref a2), .val (.int (1 : Int32)), .val (.int (1 : Int32)), .unset, .unset, .unset, .unset, .unset, .unset, .unset, .unset, .unset, .unset, .unset, .unset, .unset, .unset, .unset] [(.long q), (.long ((1 : Int32).toInt64))])) _
        refine XS.lmul X5.here hx rfl (hb hby at_135) rfl ?_
        rw [k1]
        show Steps p.tables e below (T5.setTop (mkF m 136 #[.val (.int xs), .val (.long st), .second, .val (.int stp), .val (.long exc), .second, .val (.int sel), .val (.long q), .second, .val (.ref a2), .val (.int (1 : Int32)), .val (.int (1 : Int32)), .unset, .unset, .unset, .unset, .unset, .unset, .unset, .unset, .unset, .unset, .unset, .unset, .unset, .unset, .unset] [(.long q)])) _
        refine XS.lstore X5.here hx rfl (hb hby at_136) rfl (l' := #[.val (.int xs), .val (.long st), .second, .val (.int stp), .val (.long exc), .second, .val (.int sel), .val (.long q), .second, .val (.ref a2), .val (.int (1 : Int32)), .val (.int (1 : Int32)), .val (.long q), .second, .unset, .unset, .unset, .unset, .unset, .unset, .unset, .unset, .unset, .unset, .unset, .unset, .unset]) rfl ?_
        show Steps p.tables e below (T5.setTop (mkF m 138 #[.val (.int xs), .val (.long st), .second, .val (.int stp), .val (.long exc), .second, .val (.int sel), .val (.long q), .second, .val (.ref a2), .val (.int (1 : Int32)), .val (.int (1 : Int32)), .val (.long q), .second, .unset, .unset, .unset, .unset, .unset, .unset, .unset, .unset, .unset, .unset, .unset, .unset, .unset] [])) _
        refine XS.lloadN X5.here hx rfl (hb hby at_138) rfl ?_
        show Steps p.tables e below (T5.setTop (mkF m 139 #[.val (.int xs), .val (.long st), .second, .val (.int stp), .val (.long exc), .second, .val (.int sel), .val (.long q), .second, .val (.ref a2), .val (.int (1 : Int32)), .val (.int (1 : Int32)), .val (.long q), .second, .unset, .unset, .unset, .unset, .unset, .unset, .unset, .unset, .unset, .unset, .unset, .unset, .unset] [(.long st)])) _
        refine XS.lload X5.here hx rfl (hb hby at_139) rfl ?_
        show Steps p.tables e below (T5.setTop (mkF m 141 #[.val (.int xs), .val (.long st), .second, .val (.int stp), .val (.long exc), .second, .val (.int sel), .val (.long q), .second, .val (.ref a2), .val (.int (1 : Int32)), .val (.int (1 : Int32)), .val (.long q), .second, .unset, .unset, .unset, .unset, .unset, .unset, .unset, .unset, .unset, .unset, .unset, .unset, .unset] [(.long q), (.long st)])) _
        refine XS.ladd X5.here hx rfl (hb hby at_141) rfl ?_
        show Steps p.tables e below (T5.setTop (mkF m 142 #[.val (.int xs), .val (.long st), .second, .val (.int stp), .val (.long exc), .second, .val (.int sel), .val (.long q), .second, .val (.ref a2), .val (.int (1 : Int32)), .val (.int (1 : Int32)), .val (.long q), .second, .unset, .unset, .unset, .unset, .unset, .unset, .unset, .unset, .unset, .unset, .unset, .unset, .unset] [(.long (st + q))])) _
        refine XS.lload X5.here hx rfl (hb hby at_142) rfl ?_
        show Steps p.tables e below (T5.setTop (mkF m 144 #[.val (.int xs), .val (.long st), .second, .val (.int stp), .val (.long exc), .second, .val (.int sel), .val (.long q), .second, .val (.ref a2), .val (.int (1 : Int32)), .val (.int (1 : Int32)), .val (.long q), .second, .unset, .unset, .unset, .unset, .unset, .unset, .unset, .unset, .unset, .unset, .unset, .unset, .unset] [(.long exc), (.long (st + q))])) _
        refine XS.ladd X5.here hx rfl (hb hby at_144) rfl ?_
        rw [harr]
        show Steps p.tables e below (T5.setTop (mkF m 145 #[.val (.int xs), .val (.long st), .second, .val (.int stp), .val (.long exc), .second, .val (.int sel), .val (.long q), .second, .val (.ref a2), .val (.int (1 : Int32)), .val (.int (1 : Int32)), .val (.long q), .second, .unset, .unset, .unset, .unset, .unset, .unset, .unset, .unset, .unset, .unset, .unset, .unset, .unset] [(.long arr)])) _
        refine XS.lstore X5.here hx rfl (hb hby at_145) rfl (l' := #[.val (.int xs), .val (.long st), .second, .val (.int stp), .val (.long exc), .second, .val (.int sel), .val (.long q), .second, .val (.ref a2), .val (.int (1 : Int32)), .val (.int (1 : Int32)), .val (.long q), .second, .val (.long arr), .second, .unset, .unset, .unset, .unset, .unset, .unset, .unset, .unset, .unset, .unset, .unset]) rfl ?_
        show Steps p.tables e below (T5.setTop (mkF m 147 #[.val (.int xs), .val (.long st), .second, .val (.int stp), .val (.long exc), .second, .val (.int sel), .val (.long q), .second, .val (.ref a2), .val (.int (1 : Int32)), .val (.int (1 : Int32)), .val (.long q), .second, .val (.long arr), .second, .unset, .unset, .unset, .unset, .unset, .unset, .unset, .unset, .unset, .unset, .unset] [])) _
        refine XS.aload X5.here hx rfl (hb hby at_147) rfl rfl ?_
        show Steps p.tables e below (T5.setTop (mkF m 149 #[.val (.int xs), .val (.long st), .second, .val (.int stp), .val (.long exc), .second, .val (.int sel), .val (.long q), .second, .val (.ref a2), .val (.int (1 : Int32)), .val (.int (1 : Int32)), .val (.long q), .second, .val (.long arr), .second, .unset, .unset, .unset, .unset, .unset, .unset, .unset, .unset, .unset, .unset, .unset] [(.ref a2)])) _
        refine XS.lload X5.here hx rfl (hb hby at_149) rfl ?_
        show Steps p.tables e below (T5.setTop (mkF m 151 #[.val (.int xs), .val (.long st), .second, .val (.int stp), .val (.long exc), .second, .val (.int sel), .val (.long q), .second, .val (.ref a2), .val (.int (1 : Int32)), .val (.int (1 : Int32)), .val (.long q), .second, .val (.long arr), .second, .unset, .unset, .unset, .unset, .unset, .unset, .unset, .unset, .unset, .unset, .unset] [(.long arr), (.ref a2)])) _
        refine st8.trans ?_
        show Steps p.tables e below (T8.setTop (mkF m 154 #[.val (.int xs), .val (.long st), .second, .val (.int stp), .val (.long exc), .second, .val (.int sel), .val (.long q), .second, .val (.ref a2), .val (.int (1 : Int32)), .val (.int (1 : Int32)), .val (.long q), .second, .val (.long arr), .second, .unset, .unset, .unset, .unset, .unset, .unset, .unset, .unset, .unset, .unset, .unset] [(.long (arr + 0))])) _
        refine XS.lstore X8.here hx rfl (hb hby at_154) rfl (l' := #[.val (.int xs), .val (.long st), .second, .val (.int stp), .val (.long exc), .second, .val (.int sel), .val (.long q), .second, .val (.ref a2), .val (.int (1 : Int32)), .val (.int (1 : Int32)), .val (.long q), .second, .val (.long arr), .second, .val (.long (arr + 0)), .second, .unset, .unset, .unset, .unset, .unset, .unset, .unset, .unset, .unset]) rfl ?_
        show Steps p.tables e below (T8.setTop (mkF m 156 #[.val (.int xs), .val (.long st), .second, .val (.int stp), .val (.long exc), .second, .val (.int sel), .val (.long q), .second, .val (.ref a2), .val (.int (1 : Int32)), .val (.int (1 : Int32)), .val (.long q), .second, .val (.long arr), .second, .val (.long (arr + 0)), .second, .unset, .unset, .unset, .unset, .unset, .unset, .unset, .unset, .unset] [])) _
        refine XS.aload X8.here hx rfl (hb hby at_156) rfl rfl ?_
        show Steps p.tables e below (T8.setTop (mkF m 158 #[.val (.int xs), .val (.long st), .second, .val (.int stp), .val (.long exc), .second, .val (.int sel), .val (.long q), .second, .val (.ref a2), .val (.int (1 : Int32)), .val (.int (1 : Int32)), .val (.long q), .second, .val (.long arr), .second, .val (.long (arr + 0)), .second, .unset, .unset, .unset, .unset, .unset, .unset, .unset, .unset, .unset] [(.ref a2)])) _
        refine st9.trans ?_
        show Steps p.tables e below (T9.setTop (mkF m 161 #[.val (.int xs), .val (.long st), .second, .val (.int stp), .val (.long exc), .second, .val (.int sel), .val (.long q), .second, .val (.ref a2), .val (.int (1 : Int32)), .val (.int (1 : Int32)), .val (.long q), .second, .val (.long arr), .second, .val (.long (arr + 0)), .second, .unset, .unset, .unset, .unset, .unset, .unset, .unset, .unset, .unset] [(.long (arr + q))])) _
        refine XS.lstore X9.here hx rfl (hb hby at_161) rfl (l' := #[.val (.int xs), .val (.long st), .second, .val (.int stp), .val (.long exc), .second, .val (.int sel), .val (.long q), .second, .val (.ref a2), .val (.int (1 : Int32)), .val (.int (1 : Int32)), .val (.long q), .second, .val (.long arr), .second, .val (.long (arr + 0)), .second, .val (.long (arr + q)), .second, .unset, .unset, .unset, .unset, .unset, .unset, .unset]) rfl ?_
        show Steps p.tables e below (T9.setTop (mkF m 163 #[.val (.int xs), .val (.long st), .second, .val (.int stp), .val (.long exc), .second, .val (.int sel), .val (.long q), .second, .val (.ref a2), .val (.int (1 : Int32)), .val (.int (1 : Int32)), .val (.long q), .second, .val (.long arr), .second, .val (.long (arr + 0)), .second, .val (.long (arr + q)), .second, .unset, .unset, .unset, .unset, .unset, .unset, .unset] [])) _
        refine XS.lloadN X9.here hx rfl (hb hby at_163) rfl ?_
        show Steps p.tables e below (T9.setTop (mkF m 164 #[.val (.int xs), .val (.long st), .second, .val (.int stp), .val (.long exc), .second, .val (.int sel), .val (.long q), .second, .val (.ref a2), .val (.int (1 : Int32)), .val (.int (1 : Int32)), .val (.long q), .second, .val (.long arr), .second, .val (.long (arr + 0)), .second, .val (.long (arr + q)), .second, .unset, .unset, .unset, .unset, .unset, .unset, .unset] [(.long st)])) _
        refine XS.lload X9.here hx rfl (hb hby at_164) rfl ?_
        show Steps p.tables e below (T9.setTop (mkF m 166 #[.val (.int xs), .val (.long st), .second, .val (.int stp), .val (.long exc), .second, .val (.int sel), .val (.long q), .second, .val (.ref a2), .val (.int (1 : Int32)), .val (.int (1 : Int32)), .val (.long q), .second, .val (.long arr), .second, .val (.long (arr + 0)), .second, .val (.long (arr + q)), .second, .unset, .unset, .unset, .unset, .unset, .unset, .unset] [(.long q), (.long st)])) _
        refine XS.ladd X9.here hx rfl (hb hby at_166) rfl ?_
        show Steps p.tables e below (T9.setTop (mkF m 167 #[.val (.int xs), .val (.long st), .second, .val (.int stp), .val (.long exc), .second, .val (.int sel), .val (.long q), .second, .val (.ref a2), .val (.int (1 : Int32)), .val (.int (1 : Int32)), .val (.long q), .second, .val (.long arr), .second, .val (.long (arr + 0)), .second, .val (.long (arr + q)), .second, .unset, .unset, .unset, .unset, .unset, .unset, .unset] [(.long (st + q))])) _
        refine XS.lstore X9.here hx rfl (hb hby at_167) rfl (l' := #[.val (.int xs), .val (.long st), .second, .val (.int stp), .val (.long exc), .second, .val (.int sel), .val (.long q), .second, .val (.ref a2), .val (.int (1 : Int32)), .val (.int (1 : Int32)), .val (.long q), .second, .val (.long arr), .second, .val (.long (arr + 0)), .second, .val (.long (arr + q)), .second, .val (.long (st + q)), .second, .unset, .unset, .unset, .unset, .unset]) rfl ?_
        show Steps p.tables e below (T9.setTop (mkF m 169 #[.val (.int xs), .val (.long st), .second, .val (.int stp), .val (.long exc), .second, .val (.int sel), .val (.long q), .second, .val (.ref a2), .val (.int (1 : Int32)), .val (.int (1 : Int32)), .val (.long q), .second, .val (.long arr), .second, .val (.long (arr + 0)), .second, .val (.long (arr + q)), .second, .val (.long (st + q)), .second, .unset, .unset, .unset, .unset, .unset] [])) _
        refine XS.lload X9.here hx rfl (hb hby at_169) rfl ?_
        show Steps p.tables e below (T9.setTop (mkF m 171 #[.val (.int xs), .val (.long st), .second, .val (.int stp), .val (.long exc), .second, .val (.int sel), .val (.long q), .second, .val (.ref a2), .val (.int (1 : Int32)), .val (.int (1 : Int32)), .val (.long q), .second, .val (.long arr), .second, .val (.long (arr + 0)), .second, .val (.long (arr + q)), .second, .val (.long (st + q)), .second, .unset, .unset, .unset, .unset, .unset] [(.long arr)])) _
        refine XS.lloadN X9.here hx rfl (hb hby at_171) rfl ?_
        show Steps p.tables e below (T9.setTop (mkF m 172 #[.val (.int xs), .val (.long st), .second, .val (.int stp), .val (.long exc), .second, .val (.int sel), .val (.long q), .second, .val (.ref a2), .val (.int (1 : Int32)), .val (.int (1 : Int32)), .val (.long q), .second, .val (.long arr), .second, .val (.long (arr + 0)), .second, .val (.long (arr + q)), .second, .val (.long (st + q)), .second, .unset, .unset, .unset, .unset, .unset] [(.long st), (.long arr)])) _
        refine XS.lsub X9.here hx rfl (hb hby at_172) rfl ?_
        show Steps p.tables e below (T9.setTop (mkF m 173 #[.val (.int xs), .val (.long st), .second, .val (.int stp), .val (.long exc), .second, .val (.int sel), .val (.long q), .second, .val (.ref a2), .val (.int (1 : Int32)), .val (.int (1 : Int32)), .val (.long q), .second, .val (.long arr), .second, .val (.long (arr + 0)), .second, .val (.long (arr + q)), .second, .val (.long (st + q)), .second, .unset, .unset, .unset, .unset, .unset] [(.long (arr - st))])) _
        refine XS.lload X9.here hx rfl (hb hby at_173) rfl ?_
        show Steps p.tables e below (T9.setTop (mkF m 175 #[.val (.int xs), .val (.long st), .second, .val (.int stp), .val (.long exc), .second, .val (.int sel), .val (.long q), .second, .val (.ref a2), .val (.int (1 : Int32)), .val (.int (1 : Int32)), .val (.long q), .second, .val (.long arr), .second, .val (.long (arr + 0)), .second, .val (.long (arr + q)), .second, .val (.long (st + q)), .second, .unset, .unset, .unset, .unset, .unset] [(.long q), (.long (arr - st))])) _
        refine XS.lcmp X9.here hx rfl (hb hby at_175) rfl ?_
        show Steps p.tables e below (T9.setTop (mkF m 176 #[.val (.int xs), .val (.long st), .second, .val (.int stp), .val (.long exc), .second, .val (.int sel), .val (.long q), .second, .val (.ref a2), .val (.int (1 : Int32)), .val (.int (1 : Int32)), .val (.long q), .second, .val (.long arr), .second, .val (.long (arr + 0)), .second, .val (.long (arr + q)), .second, .val (.long (st + q)), .second, .unset, .unset, .unset, .unset, .unset] [(.int (lcmpW (arr - st) q))])) _
        refine XS.ifNo X9.here hx rfl (hb hby at_176) rfl ((Jvm.Own.holdsL _ _ _).trans (Jvm.Own.dF (by omega))) ?_
        show Steps p.tables e below (T9.setTop (mkF m 179 #[.val (.int xs), .val (.long st), .second, .val (.int stp), .val (.long exc), .second, .val (.int sel), .val (.long q), .second, .val (.ref a2), .val (.int (1 : Int32)), .val (.int (1 : Int32)), .val (.long q), .second, .val (.long arr), .second, .val (.long (arr + 0)), .second, .val (.long (arr + q)), .second, .val (.long (st + q)), .second, .unset, .unset, .unset, .unset, .unset] [])) _
        refine XS.iconst X9.here hx rfl (hb hby at_179) ?_
        show Steps p.tables e below (T9.setTop (mkF m 180 #[.val (.int xs), .val (.long st), .second, .val (.int stp), .val (.long exc), .second, .val (.int sel), .val (.long q), .second, .val (.ref a2), .val (.int (1 : Int32)), .val (.int (1 : Int32)), .val (.long q), .second, .val (.long arr), .second, .val (.long (arr + 0)), .second, .val (.long (arr + q)), .second, .val (.long (st + q)), .second, .unset, .unset, .unset, .unset, .unset] [(.int (1 : Int32))])) _
        refine XS.goto X9.here hx rfl (pc0 := 180) (pc' := 184) rfl (hb hby at_180) (by decide) (by decide) ?_
        show Steps p.tables e below (T9.setTop (mkF m 184 #[.val (.int xs), .val (.long st), .second, .val (.int stp), .val (.long exc), .second, .val (.int sel), .val (.long q), .second, .val (.ref a2), .val (.int (1 : Int32)), .val (.int (1 : Int32)), .val (.long q), .second, .val (.long arr), .second, .val (.long (arr + 0)), .second, .val (.long (arr + q)), .second, .val (.long (st + q)), .second, .unset, .unset, .unset, .unset, .unset] [(.int (1 : Int32))])) _
        refine XS.istore X9.here hx rfl (hb hby at_184) rfl (l' := #[.val (.int xs), .val (.long st), .second, .val (.int stp), .val (.long exc), .second, .val (.int sel), .val (.long q), .second, .val (.ref a2), .val (.int (1 : Int32)), .val (.int (1 : Int32)), .val (.long q), .second, .val (.long arr), .second, .val (.long (arr + 0)), .second, .val (.long (arr + q)), .second, .val (.long (st + q)), .second, .val (.int (1 : Int32)), .unset, .unset, .unset, .unset]) rfl ?_
        show Steps p.tables e below (T9.setTop (mkF m 186 #[.val (.int xs), .val (.long st), .second, .val (.int stp), .val (.long exc), .second, .val (.int sel), .val (.long q), .second, .val (.ref a2), .val (.int (1 : Int32)), .val (.int (1 : Int32)), .val (.long q), .second, .val (.long arr), .second, .val (.long (arr + 0)), .second, .val (.long (arr + q)), .second, .val (.long (st + q)), .second, .val (.int (1 : Int32)), .unset, .unset, .unset, .unset] [])) _
        refine XS.iload X9.here hx rfl (hb hby at_186) rfl ?_
        show Steps p.tables e below (T9.setTop (mkF m 188 #[.val (.int xs), .val (.long st), .second, .val (.int stp), .val (.long exc), .second, .val (.int sel), .val (.long q), .second, .val (.ref a2), .val (.int (1 : Int32)), .val (.int (1 : Int32)), .val (.long q), .second, .val (.long arr), .second, .val (.long (arr + 0)), .second, .val (.long (arr + q)), .second, .val (.long (st + q)), .second, .val (.int (1 : Int32)), .unset, .unset, .unset, .unset] [(.int (1 : Int32))])) _
        refine XS.ifNo X9.here hx rfl (hb hby at_188) rfl rfl ?_
        show Steps p.tables e below (T9.setTop (mkF m 191 #[.val (.int xs), .val (.long st), .second, .val (.int stp), .val (.long exc), .second, .val (.int sel), .val (.long q), .second, .val (.ref a2), .val (.int (1 : Int32)), .val (.int (1 : Int32)), .val (.long q), .second, .val (.long arr), .second, .val (.long (arr + 0)), .second, .val (.long (arr + q)), .second, .val (.long (st + q)), .second, .val (.int (1 : Int32)), .unset, .unset, .unset, .unset] [])) _
        refine XS.lload X9.here hx rfl (hb hby at_191) rfl ?_
        show Steps p.tables e below (T9.setTop (mkF m 193 #[.val (.int xs), .val (.long st), .second, .val (.int stp), .val (.long exc), .second, .val (.int sel), .val (.long q), .second, .val (.ref a2), .val (.int (1 : Int32)), .val (.int (1 : Int32)), .val (.long q), .second, .val (.long arr), .second, .val (.long (arr + 0)), .second, .val (.long (arr + q)), .second, .val (.long (st + q)), .second, .val (.int (1 : Int32)), .unset, .unset, .unset, .unset] [(.long arr)])) _
        refine XS.goto X9.here hx rfl (pc0 := 193) (pc' := 198) rfl (hb hby at_193) (by decide) (by decide) ?_
        show Steps p.tables e below (T9.setTop (mkF m 198 #[.val (.int xs), .val (.long st), .second, .val (.int stp), .val (.long exc), .second, .val (.int sel), .val (.long q), .second, .val (.ref a2), .val (.int (1 : Int32)), .val (.int (1 : Int32)), .val (.long q), .second, .val (.long arr), .second, .val (.long (arr + 0)), .second, .val (.long (arr + q)), .second, .val (.long (st + q)), .second, .val (.int (1 : Int32)), .unset, .unset, .unset, .unset] [(.long arr)])) _
        refine XS.lstore X9.here hx rfl (hb hby at_198) rfl (l' := #[.val (.int xs), .val (.long st), .second, .val (.int stp), .val (.long exc), .second, .val (.int sel), .val (.long q), .second, .val (.ref a2), .val (.int (1 : Int32)), .val (.int (1 : Int32)), .val (.long q), .second, .val (.long arr), .second, .val (.long (arr + 0)), .second, .val (.long (arr + q)), .second, .val (.long (st + q)), .second, .val (.int (1 : Int32)), .val (.long arr), .second, .unset, .unset]) rfl ?_
        show Steps p.tables e below (T9.setTop (mkF m 200 #[.val (.int xs), .val (.long st), .second, .val (.int stp), .val (.long exc), .second, .val (.int sel), .val (.long q), .second, .val (.ref a2), .val (.int (1 : Int32)), .val (.int (1 : Int32)), .val (.long q), .second, .val (.long arr), .second, .val (.long (arr + 0)), .second, .val (.long (arr + q)), .second, .val (.long (st + q)), .second, .val (.int (1 : Int32)), .val (.long arr), .second, .unset, .unset] [])) _
        refine XS.lload X9.here hx rfl (hb hby at_200) rfl ?_
        show Steps p.tables e below (T9.setTop (mkF m 202 #[.val (.int xs), .val (.long st), .second, .val (.int stp), .val (.long exc), .second, .val (.int sel), .val (.long q), .second, .val (.ref a2), .val (.int (1 : Int32)), .val (.int (1 : Int32)), .val (.long q), .second, .val (.long arr), .second, .val (.long (arr + 0)), .second, .val (.long (arr + q)), .second, .val (.long (st + q)), .second, .val (.int (1 : Int32)), .val (.long arr), .second, .unset, .unset] [(.long arr)])) _
        refine XS.lload X9.here hx rfl (hb hby at_202) rfl ?_
        show Steps p.tables e below (T9.setTop (mkF m 204 #[.val (.int xs), .val (.long st), .second, .val (.int stp), .val (.long exc), .second, .val (.int sel), .val (.long q), .second, .val (.ref a2), .val (.int (1 : Int32)), .val (.int (1 : Int32)), .val (.long q), .second, .val (.long arr), .second, .val (.long (arr + 0)), .second, .val (.long (arr + q)), .second, .val (.long (st + q)), .second, .val (.int (1 : Int32)), .val (.long arr), .second, .unset, .unset] [(.long q), (.long arr)])) _
        refine XS.ladd X9.here hx rfl (hb hby at_204) rfl ?_
        show Steps p.tables e below (T9.setTop (mkF m 205 #[.val (.int xs), .val (.long st), .second, .val (.int stp), .val (.long exc), .second, .val (.int sel), .val (.long q), .second, .val (.ref a2), .val (.int (1 : Int32)), .val (.int (1 : Int32)), .val (.long q), .second, .val (.long arr), .second, .val (.long (arr + 0)), .second, .val (.long (arr + q)), .second, .val (.long (st + q)), .second, .val (.int (1 : Int32)), .val (.long arr), .second, .unset, .unset] [(.long (arr + q))])) _
        refine XS.lstore X9.here hx rfl (hb hby at_205) rfl (l' := #[.val (.int xs), .val (.long st), .second, .val (.int stp), .val (.long exc), .second, .val (.int sel), .val (.long q), .second, .val (.ref a2), .val (.int (1 : Int32)), .val (.int (1 : Int32)), .val (.long q), .second, .val (.long arr), .second, .val (.long (arr + 0)), .second, .val (.long (arr + q)), .second, .val (.long (st + q)), .second, .val (.int (1 : Int32)), .val (.long arr), .second, .val (.long (arr + q)), .second]) rfl ?_
        show Steps p.tables e below (T9.setTop (mkF m 207 #[.val (.int xs), .val (.long st), .second, .val (.int stp), .val (.long exc), .second, .val (.int sel), .val (.long q), .second, .val (.ref a2), .val (.int (1 : Int32)), .val (.int (1 : Int32)), .val (.long q), .second, .val (.long arr), .second, .val (.long (arr + 0)), .second, .val (.long (arr + q)), .second, .val (.long (st + q)), .second, .val (.int (1 : Int32)), .val (.long arr), .second, .val (.long (arr + q)), .second] [])) _
        refine XS.iload X9.here hx rfl (hb hby at_207) rfl ?_
        show Steps p.tables e below (T9.setTop (mkF m 209 #[.val (.int xs), .val (.long st), .second, .val (.int stp), .val (.long exc), .second, .val (.int sel), .val (.long q), .second, .val (.ref a2), .val (.int (1 : Int32)), .val (.int (1 : Int32)), .val (.long q), .second, .val (.long arr), .second, .val (.long (arr + 0)), .second, .val (.long (arr + q)), .second, .val (.long (st + q)), .second, .val (.int (1 : Int32)), .val (.long arr), .second, .val (.long (arr + q)), .second] [(.int (1 : Int32))])) _
        refine XS.ifNo X9.here hx rfl (hb hby at_209) rfl rfl ?_
        show Steps p.tables e below (T9.setTop (mkF m 212 #[.val (.int xs), .val (.long st), .second, .val (.int stp), .val (.long exc), .second, .val (.int sel), .val (.long q), .second, .val (.ref a2), .val (.int (1 : Int32)), .val (.int (1 : Int32)), .val (.long q), .second, .val (.long arr), .second, .val (.long (arr + 0)), .second, .val (.long (arr + q)), .second, .val (.long (st + q)), .second, .val (.int (1 : Int32)), .val (.long arr), .second, .val (.long (arr + q)), .second] [])) _
        refine XS.lload X9.here hx rfl (hb hby at_212) rfl ?_
        show Steps p.tables e below (T9.setTop (mkF m 214 #[.val (.int xs), .val (.long st), .second, .val (.int stp), .val (.long exc), .second, .val (.int sel), .val (.long q), .second, .val (.ref a2), .val (.int (1 : Int32)), .val (.int (1 : Int32)), .val (.long q), .second, .val (.long arr), .second, .val (.long (arr + 0)), .second, .val (.long (arr + q)), .second, .val (.long (st + q)), .second, .val (.int (1 : Int32)), .val (.long arr), .second, .val (.long (arr + q)), .second] [(.long (arr + 0))])) _
        refine XS.lload X9.here hx rfl (hb hby at_214) rfl ?_
        show Steps p.tables e below (T9.setTop (mkF m 216 #[.val (.int xs), .val (.long st), .second, .val (.int stp), .val (.long exc), .second, .val (.int sel), .val (.long q), .second, .val (.ref a2), .val (.int (1 : Int32)), .val (.int (1 : Int32)), .val (.long q), .second, .val (.long arr), .second, .val (.long (arr + 0)), .second, .val (.long (arr + q)), .second, .val (.long (st + q)), .second, .val (.int (1 : Int32)), .val (.long arr), .second, .val (.long (arr + q)), .second] [(.long arr), (.long (arr + 0))])) _
        refine XS.lcmp X9.here hx rfl (hb hby at_216) rfl ?_
        show Steps p.tables e below (T9.setTop (mkF m 217 #[.val (.int xs), .val (.long st), .second, .val (.int stp), .val (.long exc), .second, .val (.int sel), .val (.long q), .second, .val (.ref a2), .val (.int (1 : Int32)), .val (.int (1 : Int32)), .val (.long q), .second, .val (.long arr), .second, .val (.long (arr + 0)), .second, .val (.long (arr + q)), .second, .val (.long (st + q)), .second, .val (.int (1 : Int32)), .val (.long arr), .second, .val (.long (arr + q)), .second] [(.int (lcmpW (arr + 0) arr))])) _
        refine XS.ifNo X9.here hx rfl (hb hby at_217) rfl ((Jvm.Own.holdsL _ _ _).trans (Jvm.Own.dF (by rw [sz]; exact fun q => q rfl))) ?_
        show Steps p.tables e below (T9.setTop (mkF m 220 #[.val (.int xs), .val (.long st), .second, .val (.int stp), .val (.long exc), .second, .val (.int sel), .val (.long q), .second, .val (.ref a2), .val (.int (1 : Int32)), .val (.int (1 : Int32)), .val (.long q), .second, .val (.long arr), .second, .val (.long (arr + 0)), .second, .val (.long (arr + q)), .second, .val (.long (st + q)), .second, .val (.int (1 : Int32)), .val (.long arr), .second, .val (.long (arr + q)), .second] [])) _
        refine XS.lload X9.here hx rfl (hb hby at_220) rfl ?_
        show Steps p.tables e below (T9.setTop (mkF m 222 #[.val (.int xs), .val (.long st), .second, .val (.int stp), .val (.long exc), .second, .val (.int sel), .val (.long q), .second, .val (.ref a2), .val (.int (1 : Int32)), .val (.int (1 : Int32)), .val (.long q), .second, .val (.long arr), .second, .val (.long (arr + 0)), .second, .val (.long (arr + q)), .second, .val (.long (st + q)), .second, .val (.int (1 : Int32)), .val (.long arr), .second, .val (.long (arr + q)), .second] [(.long (arr + q))])) _
        refine XS.lload X9.here hx rfl (hb hby at_222) rfl ?_
        show Steps p.tables e below (T9.setTop (mkF m 224 #[.val (.int xs), .val (.long st), .second, .val (.int stp), .val (.long exc), .second, .val (.int sel), .val (.long q), .second, .val (.ref a2), .val (.int (1 : Int32)), .val (.int (1 : Int32)), .val (.long q), .second, .val (.long arr), .second, .val (.long (arr + 0)), .second, .val (.long (arr + q)), .second, .val (.long (st + q)), .second, .val (.int (1 : Int32)), .val (.long arr), .second, .val (.long (arr + q)), .second] [(.long (arr + q)), (.long (arr + q))])) _
        refine XS.lcmp X9.here hx rfl (hb hby at_224) rfl ?_
        show Steps p.tables e below (T9.setTop (mkF m 225 #[.val (.int xs), .val (.long st), .second, .val (.int stp), .val (.long exc), .second, .val (.int sel), .val (.long q), .second, .val (.ref a2), .val (.int (1 : Int32)), .val (.int (1 : Int32)), .val (.long q), .second, .val (.long arr), .second, .val (.long (arr + 0)), .second, .val (.long (arr + q)), .second, .val (.long (st + q)), .second, .val (.int (1 : Int32)), .val (.long arr), .second, .val (.long (arr + q)), .second] [(.int (lcmpW (arr + q) (arr + q)))])) _
        refine XS.ifNo X9.here hx rfl (hb hby at_225) rfl ((Jvm.Own.holdsL _ _ _).trans (Jvm.Own.dF (fun q => q rfl))) ?_
        show Steps p.tables e below (T9.setTop (mkF m 228 #[.val (.int xs), .val (.long st), .second, .val (.int stp), .val (.long exc), .second, .val (.int sel), .val (.long q), .second, .val (.ref a2), .val (.int (1 : Int32)), .val (.int (1 : Int32)), .val (.long q), .second, .val (.long arr), .second, .val (.long (arr + 0)), .second, .val (.long (arr + q)), .second, .val (.long (st + q)), .second, .val (.int (1 : Int32)), .val (.long arr), .second, .val (.long (arr + q)), .second] [])) _
        refine XS.iconst X9.here hx rfl (hb hby at_228) ?_
        show Steps p.tables e below (T9.setTop (mkF m 229 #[.val (.int xs), .val (.long st), .second, .val (.int stp), .val (.long exc), .second, .val (.int sel), .val (.long q), .second, .val (.ref a2), .val (.int (1 : Int32)), .val (.int (1 : Int32)), .val (.long q), .second, .val (.long arr), .second, .val (.long (arr + 0)), .second, .val (.long (arr + q)), .second, .val (.long (st + q)), .second, .val (.int (1 : Int32)), .val (.long arr), .second, .val (.long (arr + q)), .second] [(.int (1 : Int32))])) _
        refine XS.goto X9.here hx rfl (pc0 := 229) (pc' := 233) rfl (hb hby at_229) (by decide) (by decide) ?_
        show Steps p.tables e below (T9.setTop (mkF m 233 #[.val (.int xs), .val (.long st), .second, .val (.int stp), .val (.long exc), .second, .val (.int sel), .val (.long q), .second, .val (.ref a2), .val (.int (1 : Int32)), .val (.int (1 : Int32)), .val (.long q), .second, .val (.long arr), .second, .val (.long (arr + 0)), .second, .val (.long (arr + q)), .second, .val (.long (st + q)), .second, .val (.int (1 : Int32)), .val (.long arr), .second, .val (.long (arr + q)), .second] [(.int (1 : Int32))])) _
        exact retN X9 hx (t := .boolean) Bd.returns (by simp) (hb hby at_233) hr
      · show QL n0 _ T9.heap _
        exact ⟨rfl, (Fr.app (Fr.app (Fr.app (Fr.app (Fr.app (Fr.app N0 N1) N3) N4) N5) N8) N9)⟩
    · obtain ⟨_, _, ⟨T1, L1, k1, n1⟩, -, X1, ⟨Lc1, hQ1, l1, y1, z1⟩, st1⟩ := Jvm.LawKit.callS X0 hx (y := (⟨"com/example/earnest_load/earnestload/run/ScheduleNextFromPinLaw", "period", "(I)J"⟩ : MethodName)) hown (mvT hZ (hw _ (List.mem_of_getElem? (i := 0) rfl))) (mvT hZ (hw _ (List.mem_of_getElem? (i := 1) rfl))) (mvT hZ (hw _ (List.mem_of_getElem? (i := 2) rfl))) (mvT hZ (hw _ (List.mem_of_getElem? (i := 3) rfl))) (by decide) (backOf (W := 0) (rmPer l Z a0 hw [] sel h0 n0 Z0 q rr htri) hZ (hw _ (List.mem_of_getElem? (i := 3) rfl)) (hw _ (List.mem_of_getElem? (i := 2) rfl)) (by decide) (by decide)) (g := (mkF m 8 #[.val (.int xs), .val (.long st), .second, .val (.int stp), .val (.long exc), .second, .val (.int sel), .unset, .unset, .unset, .unset, .unset, .unset, .unset, .unset, .unset, .unset, .unset, .unset, .unset, .unset, .unset, .unset, .unset, .unset, .unset, .unset] [(.int sel)])) rfl (by rw [hml]; rfl) (argsL := [(.int sel)]) (rest := []) (lenOf pd_2 rfl) rfl (by show 2 * 0 + _ ≤ _; exact Nat.le_of_eq rfl) (hb hby at_8) (fun _ _ => ⟨rfl, e0, (by decide : 0 + 0 ≤ _), (by decide : 0 + 0 ≤ _)⟩)
      dsimp only [Pt.U, Pt.locs, Pt.cells, Pt.slots] at X1 l1 y1 z1 st1 hQ1
      subst l1 y1 z1
      obtain ⟨rfl, N1, e1⟩ := hQ1
      obtain ⟨T2, h2, X2, e2, E2, A2, D2, -, st2⟩ := newO X1 hx hZ hown (hw _ (List.mem_of_getElem? (i := 5) rfl)) (hw _ (List.mem_of_getElem? (i := 6) rfl)) (hw _ (List.mem_of_getElem? (i := 7) rfl)) e1 (g := (mkF m 13 #[.val (.int xs), .val (.long st), .second, .val (.int stp), .val (.long exc), .second, .val (.int sel), .val (.long q), .second, .unset, .unset, .unset, .unset, .unset, .unset, .unset, .unset, .unset, .unset, .unset, .unset, .unset, .unset, .unset, .unset, .unset, .unset] [])) rfl (hb hby at_13) (by decide) (by decide)
      obtain ⟨a2, g2⟩ : ∃ z, z = h0.size := ⟨_, rfl⟩
      rw [← g2] at A2 D2 st2
      have D_start := D2 (Or.inl (hw _ (List.mem_of_getElem? (i := 20) rfl))) (ty := .long) (by decide)
      have D_count := D2 (Or.inl (hw _ (List.mem_of_getElem? (i := 27) rfl))) (ty := .long) (by decide)
      have D_rate := D2 (Or.inr (hw _ (List.mem_of_getElem? (i := 18) rfl))) (ty := .double) (by decide)
      have Z2 : n0 ≤ h2.size := Nat.le_trans Z0 E2.1
      have ga : n0 ≤ a2 := Nat.le_trans Z0 (Nat.le_of_eq g2.symm)
      obtain ⟨_, _, ⟨T3, L3, k3, n3⟩, -, X3, ⟨Lc3, hQ3, l3, y3, z3⟩, st3⟩ := Jvm.LawKit.callS X2 hx (y := (⟨"com/example/earnest_load/earnestload/run/ScheduleNextFromPinLaw", "rate", "(I)I"⟩ : MethodName)) hown (mvT hZ (hw _ (List.mem_of_getElem? (i := 8) rfl))) (mvT hZ (hw _ (List.mem_of_getElem? (i := 9) rfl))) (mvT hZ (hw _ (List.mem_of_getElem? (i := 2) rfl))) (mvT hZ (hw _ (List.mem_of_getElem? (i := 10) rfl))) (by decide) (backOf (W := 2) (rmRate l Z a0 hw [] sel h2 n0 Z2 q rr htri) hZ (hw _ (List.mem_of_getElem? (i := 10) rfl)) (hw _ (List.mem_of_getElem? (i := 2) rfl)) (by decide) (by decide)) (g := (mkF m 19 #[.val (.int xs), .val (.long st), .second, .val (.int stp), .val (.long exc), .second, .val (.int sel), .val (.long q), .second, .unset, .unset, .unset, .unset, .unset, .unset, .unset, .unset, .unset, .unset, .unset, .unset, .unset, .unset, .unset, .unset, .unset, .unset] [(.int sel), (.ref a2), (.ref a2)])) rfl (by rw [hml]; rfl) (argsL := [(.int sel)]) (rest := [(.ref a2), (.ref a2)]) (lenOf pd_3 rfl) rfl (by show 2 * 0 + _ ≤ _; exact Nat.le_of_eq rfl) (hb hby at_19) (fun _ _ => ⟨rfl, e2, (by decide : 1 + 0 ≤ _), (by decide : 3 + 0 ≤ _)⟩)
      dsimp only [Pt.U, Pt.locs, Pt.cells, Pt.slots] at X3 l3 y3 z3 st3 hQ3
      subst l3 y3 z3
      obtain ⟨rfl, N3, e3⟩ := hQ3
      obtain ⟨_, _, ⟨T4, L4, k4, n4⟩, -, X4, ⟨Lc4, hQ4, l4, y4, z4⟩, st4⟩ := X3.specialBack hx (y := (⟨"com/example/earnest_load/earnestload/run/Schedule", "<init>", "(DJ)V"⟩ : MethodName)) rfl hown (mvT hZ (hw _ (List.mem_of_getElem? (i := 11) rfl))) (mvT hZ (hw _ (List.mem_of_getElem? (i := 12) rfl))) (mvT hZ (hw _ (List.mem_of_getElem? (i := 13) rfl))) (by decide) (backOf (W := 1) (rmInit l Z a0 hw [] a2 (FP.i2d rr) st h2 n0 Z2 A2 ga D_start D_count D_rate) hZ (hw _ (List.mem_of_getElem? (i := 13) rfl)) (hw _ (List.mem_of_getElem? (i := 7) rfl)) (by decide) (by decide)) (g := (mkF m 24 #[.val (.int xs), .val (.long st), .second, .val (.int stp), .val (.long exc), .second, .val (.int sel), .val (.long q), .second, .unset, .unset, .unset, .unset, .unset, .unset, .unset, .unset, .unset, .unset, .unset, .unset, .unset, .unset, .unset, .unset, .unset, .unset] [(.long st), (.double (FP.i2d rr)), (.ref a2), (.ref a2)])) rfl (by rw [hml]; rfl) (Steps.refl _) (a := a2) (argsL := [(.double (FP.i2d rr)), (.long st)]) (rest := [(.ref a2)]) (lenOf pd_4 rfl) rfl (by show 2 * 0 + _ ≤ _; exact Nat.le_of_eq rfl) (hb hby at_24) (fun _ _ => ⟨rfl, e3, (by decide : 1 + 0 ≤ _), (by decide : 3 + 0 ≤ _)⟩)
      dsimp only [Pt.U, Pt.locs, Pt.cells, Pt.slots] at X4 l4 y4 z4 st4 hQ4
      subst l4 y4 z4
      obtain ⟨rfl, N4, K4, E4, Fs4, Fc4, Fr4⟩ := hQ4
      have Z4 : n0 ≤ T4.heap.size := Nat.le_trans Z2 K4.1
      obtain ⟨cq5, kq5, q5a, q5b, q5c⟩ := isOf hZ rfl E4
      obtain ⟨_, _, ⟨T5, L5, k5, n5⟩, -, X5, ⟨Lc5, hQ5, l5, y5, z5⟩, st5⟩ := X4.virtualBack hx (y := (⟨"com/example/earnest_load/earnestload/run/Schedule", "next", "()J"⟩ : MethodName)) (z := (⟨"com/example/earnest_load/earnestload/run/Schedule", "next", "()J"⟩ : MethodName)) hown (mvT hZ (hw _ (List.mem_of_getElem? (i := 21) rfl))) (mvT hZ (hw _ (List.mem_of_getElem? (i := 22) rfl))) (notFace_of_selects (args := #[]) (mvT hZ (hw _ (List.mem_of_getElem? (i := 24) rfl)))) (mvT hZ (hw _ (List.mem_of_getElem? (i := 24) rfl))) (mvT hZ (hw _ (List.mem_of_getElem? (i := 23) rfl))) (by decide) (backOf (W := 0) (rmNext l Z a0 hw [] a2 T4.heap n0 Z4 st (0 : Int64) (0 : Int64) (FP.i2d rr) Fs4 Fc4 Fr4 E4 ga p0.1 p0.2.1 p0.2.2) hZ (hw _ (List.mem_of_getElem? (i := 25) rfl)) (hw _ (List.mem_of_getElem? (i := 7) rfl)) (by decide) (by decide)) q5a q5c (g := (mkF m 49 #[.val (.int xs), .val (.long st), .second, .val (.int stp), .val (.long exc), .second, .val (.int sel), .val (.long q), .second, .val (.ref a2), .val (.int (1 : Int32)), .val (.int (1 : Int32)), .unset, .unset, .unset, .unset, .unset, .unset, .unset, .unset, .unset, .unset, .unset, .unset, .unset, .unset, .unset] [(.ref a2)])) rfl (by rw [hml]; rfl) (Steps.refl _) (argsL := []) (rest := []) (lenOf pd_1 rfl) rfl (by show 2 * 0 + _ ≤ _; exact Nat.le_of_eq rfl) (hb hby at_49) (fun _ _ => ⟨rfl, rfl, (by decide : 1 + 0 ≤ _), (by decide : 3 + 0 ≤ _)⟩)
      dsimp only [Pt.U, Pt.locs, Pt.cells, Pt.slots] at X5 l5 y5 z5 st5 hQ5
      subst l5 y5 z5
      obtain ⟨rfl, N5, K5, E5, Fs5, Fc5, Fr5⟩ := hQ5
      have Z5 : n0 ≤ T5.heap.size := Nat.le_trans Z4 K5.1
      obtain ⟨cq8, kq8, q8a, q8b, q8c⟩ := isOf hZ rfl E5
      obtain ⟨_, _, ⟨T8, L8, k8, n8⟩, -, X8, ⟨Lc8, hQ8, l8, y8, z8⟩, st8⟩ := X5.virtualBack hx (y := (⟨"com/example/earnest_load/earnestload/run/Schedule", "nextFrom", "(J)J"⟩ : MethodName)) (z := (⟨"com/example/earnest_load/earnestload/run/Schedule", "nextFrom", "(J)J"⟩ : MethodName)) hown (mvT hZ (hw _ (List.mem_of_getElem? (i := 33) rfl))) (mvT hZ (hw _ (List.mem_of_getElem? (i := 34) rfl))) (notFace_of_selects (args := #[]) (mvT hZ (hw _ (List.mem_of_getElem? (i := 36) rfl)))) (mvT hZ (hw _ (List.mem_of_getElem? (i := 36) rfl))) (mvT hZ (hw _ (List.mem_of_getElem? (i := 35) rfl))) (by decide) (backOf (W := 0) (rmFromN l Z a0 hw [] a2 arr T5.heap n0 Z5 st (0 + (1 : Int64)) q (FP.i2d rr) Fs5 Fc5 Fr5 E5 ga p1.1 p1.2.1 p1.2.2 p0.1 p0.2.1 p0.2.2 hc) hZ (hw _ (List.mem_of_getElem? (i := 37) rfl)) (hw _ (List.mem_of_getElem? (i := 7) rfl)) (by decide) (by decide)) q8a q8c (g := (mkF m 151 #[.val (.int xs), .val (.long st), .second, .val (.int stp), .val (.long exc), .second, .val (.int sel), .val (.long q), .second, .val (.ref a2), .val (.int (1 : Int32)), .val (.int (1 : Int32)), .val (.long q), .second, .val (.long arr), .second, .unset, .unset, .unset, .unset, .unset, .unset, .unset, .unset, .unset, .unset, .unset] [(.long arr), (.ref a2)])) rfl (by rw [hml]; rfl) (Steps.refl _) (argsL := [(.long arr)]) (rest := []) (lenOf pd_0 rfl) rfl (by show 2 * 0 + _ ≤ _; exact Nat.le_of_eq rfl) (hb hby at_151) (fun _ _ => ⟨rfl, rfl, (by decide : 1 + 0 ≤ _), (by decide : 3 + 0 ≤ _)⟩)
      dsimp only [Pt.U, Pt.locs, Pt.cells, Pt.slots] at X8 l8 y8 z8 st8 hQ8
      subst l8 y8 z8
      obtain ⟨rfl, N8, K8, E8, Fs8, Fc8, Fr8⟩ := hQ8
      have Z8 : n0 ≤ T8.heap.size := Nat.le_trans Z5 K8.1
      obtain ⟨cq9, kq9, q9a, q9b, q9c⟩ := isOf hZ rfl E8
      obtain ⟨_, _, ⟨T9, L9, k9, n9⟩, -, X9, ⟨Lc9, hQ9, l9, y9, z9⟩, st9⟩ := X8.virtualBack hx (y := (⟨"com/example/earnest_load/earnestload/run/Schedule", "next", "()J"⟩ : MethodName)) (z := (⟨"com/example/earnest_load/earnestload/run/Schedule", "next", "()J"⟩ : MethodName)) hown (mvT hZ (hw _ (List.mem_of_getElem? (i := 21) rfl))) (mvT hZ (hw _ (List.mem_of_getElem? (i := 22) rfl))) (notFace_of_selects (args := #[]) (mvT hZ (hw _ (List.mem_of_getElem? (i := 24) rfl)))) (mvT hZ (hw _ (List.mem_of_getElem? (i := 24) rfl))) (mvT hZ (hw _ (List.mem_of_getElem? (i := 23) rfl))) (by decide) (backOf (W := 0) (rmNext l Z a0 hw [] a2 T8.heap n0 Z8 st (0 + (1 : Int64) + (1 : Int64)) o2 (FP.i2d rr) Fs8 Fc8 Fr8 E8 ga p2.1 p2.2.1 p2.2.2) hZ (hw _ (List.mem_of_getElem? (i := 25) rfl)) (hw _ (List.mem_of_getElem? (i := 7) rfl)) (by decide) (by decide)) q9a q9c (g := (mkF m 158 #[.val (.int xs), .val (.long st), .second, .val (.int stp), .val (.long exc), .second, .val (.int sel), .val (.long q), .second, .val (.ref a2), .val (.int (1 : Int32)), .val (.int (1 : Int32)), .val (.long q), .second, .val (.long arr), .second, .val (.long (st + q)), .second, .unset, .unset, .unset, .unset, .unset, .unset, .unset, .unset, .unset] [(.ref a2)])) rfl (by rw [hml]; rfl) (Steps.refl _) (argsL := []) (rest := []) (lenOf pd_1 rfl) rfl (by show 2 * 0 + _ ≤ _; exact Nat.le_of_eq rfl) (hb hby at_158) (fun _ _ => ⟨rfl, rfl, (by decide : 1 + 0 ≤ _), (by decide : 3 + 0 ≤ _)⟩)
      dsimp only [Pt.U, Pt.locs, Pt.cells, Pt.slots] at X9 l9 y9 z9 st9 hQ9
      subst l9 y9 z9
      obtain ⟨rfl, N9, K9, E9, Fs9, Fc9, Fr9⟩ := hQ9
      obtain ⟨fs, hr, hrun, hended, hW, hsame⟩ := X9.leave (v := some (.int (1 : Int32))) (fun h => by rw [Bd.returns] at h; cases h)
      refine ⟨_, _, pre0 _ ?_, hrun, hended, _, _, rfl, ?_, ⟨_, rfl⟩, hW, hsame.mono (by decide) (by decide)⟩
      · show Steps p.tables e below (s₁.setTop (mkF m 0 #[.val (.int xs), .val (.long st), .second, .val (.int stp), .val (.long exc), .second, .unset, .unset, .unset, .unset, .unset, .unset, .unset, .unset, .unset, .unset, .unset, .unset, .unset, .unset, .unset, .unset, .unset, .unset, .unset, .unset, .unset] [])) _
        refine XS.iloadN X0.here hx rfl (hb hby at_0) rfl ?_
        show Steps p.tables e below (s₁.setTop (mkF m 1 #[.val (.int xs), .val (.long st), .second, .val (.int stp), .val (.long exc), .second, .unset, .unset, .unset, .unset, .unset, .unset, .unset, .unset, .unset, .unset, .unset, .unset, .unset, .unset, .unset, .unset, .unset, .unset, .unset, .unset, .unset] [(.int xs)])) _
        refine XS.bipush X0.here hx rfl (hb hby at_1) ?_
        show Steps p.tables e below (s₁.setTop (mkF m 3 #[.val (.int xs), .val (.long st), .second, .val (.int stp), .val (.long exc), .second, .unset, .unset, .unset, .unset, .unset, .unset, .unset, .unset, .unset, .unset, .unset, .unset, .unset, .unset, .unset, .unset, .unset, .unset, .unset, .unset, .unset] [(.int (7 : Int32)), (.int xs)])) _
        refine XS.iand X0.here hx rfl (hb hby at_3) rfl ?_
        rw [hsel]
        show Steps p.tables e below (s₁.setTop (mkF m 4 #[.val (.int xs), .val (.long st), .second, .val (.int stp), .val (.long exc), .second, .unset, .unset, .unset, .unset, .unset, .unset, .unset, .unset, .unset, .unset, .unset, .unset, .unset, .unset, .unset, .unset, .unset, .unset, .unset, .unset, .unset] [(.int sel)])) _
        refine XS.istore X0.here hx rfl (hb hby at_4) rfl (l' := #[.val (.int xs), .val (.long st), .second, .val (.int stp), .val (.long exc), .second, .val (.int sel), .unset, .unset, .unset, .unset, .unset, .unset, .unset, .unset, .unset, .unset, .unset, .unset, .unset, .unset, .unset, .unset, .unset, .unset, .unset, .unset]) rfl ?_
        show Steps p.tables e below (s₁.setTop (mkF m 6 #[.val (.int xs), .val (.long st), .second, .val (.int stp), .val (.long exc), .second, .val (.int sel), .unset, .unset, .unset, .unset, .unset, .unset, .unset, .unset, .unset, .unset, .unset, .unset, .unset, .unset, .unset, .unset, .unset, .unset, .unset, .unset] [])) _
        refine XS.iload X0.here hx rfl (hb hby at_6) rfl ?_
        show Steps p.tables e below (s₁.setTop (mkF m 8 #[.val (.int xs), .val (.long st), .second, .val (.int stp), .val (.long exc), .second, .val (.int sel), .unset, .unset, .unset, .unset, .unset, .unset, .unset, .unset, .unset, .unset, .unset, .unset, .unset, .unset, .unset, .unset, .unset, .unset, .unset, .unset] [(.int sel)])) _
        refine st1 _ ?_
        show Steps p.tables e below (T1.setTop (mkF m 11 #[.val (.int xs), .val (.long st), .second, .val (.int stp), .val (.long exc), .second, .val (.int sel), .unset, .unset, .unset, .unset, .unset, .unset, .unset, .unset, .unset, .unset, .unset, .unset, .unset, .unset, .unset, .unset, .unset, .unset, .unset, .unset] [(.long q)])) _
        refine XS.lstore X1.here hx rfl (hb hby at_11) rfl (l' := #[.val (.int xs), .val (.long st), .second, .val (.int stp), .val (.long exc), .second, .val (.int sel), .val (.long q), .second, .unset, .unset, .unset, .unset, .unset, .unset, .unset, .unset, .unset, .unset, .unset, .unset, .unset, .unset, .unset, .unset, .unset, .unset]) rfl ?_
        show Steps p.tables e below (T1.setTop (mkF m 13 #[.val (.int xs), .val (.long st), .second, .val (.int stp), .val (.long exc), .second, .val (.int sel), .val (.long q), .second, .unset, .unset, .unset, .unset, .unset, .unset, .unset, .unset, .unset, .unset, .unset, .unset, .unset, .unset, .unset, .unset, .unset, .unset] [])) _
        refine st2 _ ?_
        show Steps p.tables e below (T2.setTop (mkF m 16 #[.val (.int xs), .val (.long st), .second, .val (.int stp), .val (.long exc), .second, .val (.int sel), .val (.long q), .second, .unset, .unset, .unset, .unset, .unset, .unset, .unset, .unset, .unset, .unset, .unset, .unset, .unset, .unset, .unset, .unset, .unset, .unset] [(.ref a2)])) _
        refine XS.dup X2.here hx rfl (hb hby at_16) rfl rfl ?_
        show Steps p.tables e below (T2.setTop (mkF m 17 #[.val (.int xs), .val (.long st), .second, .val (.int stp), .val (.long exc), .second, .val (.int sel), .val (.long q), .second, .unset, .unset, .unset, .unset, .unset, .unset, .unset, .unset, .unset, .unset, .unset, .unset, .unset, .unset, .unset, .unset, .unset, .unset] [(.ref a2), (.ref a2)])) _
        refine XS.iload X2.here hx rfl (hb hby at_17) rfl ?_
        show Steps p.tables e below (T2.setTop (mkF m 19 #[.val (.int xs), .val (.long st), .second, .val (.int stp), .val (.long exc), .second, .val (.int sel), .val (.long q), .second, .unset, .unset, .unset, .unset, .unset, .unset, .unset, .unset, .unset, .unset, .unset, .unset, .unset, .unset, .unset, .unset, .unset, .unset] [(.int sel), (.ref a2), (.ref a2)])) _
        refine st3 _ ?_
        show Steps p.tables e below (T3.setTop (mkF m 22 #[.val (.int xs), .val (.long st), .second, .val (.int stp), .val (.long exc), .second, .val (.int sel), .val (.long q), .second, .unset, .unset, .unset, .unset, .unset, .unset, .unset, .unset, .unset, .unset, .unset, .unset, .unset, .unset, .unset, .unset, .unset, .unset] [(.int rr), (.ref a2), (.ref a2)])) _
        refine XS.i2dS X3.here hx rfl (hb hby at_22) rfl (v := FP.i2d rr) rfl ?_
        show Steps p.tables e below (T3.setTop (mkF m 23 #[.val (.int xs), .val (.long st), .second, .val (.int stp), .val (.long exc), .second, .val (.int sel), .val (.long q), .second, .unset, .unset, .unset, .unset, .unset, .unset, .unset, .unset, .unset, .unset, .unset, .unset, .unset, .unset, .unset, .unset, .unset, .unset] [(.double (FP.i2d rr)), (.ref a2), (.ref a2)])) _
        refine XS.lloadN X3.here hx rfl (hb hby at_23) rfl ?_
        show Steps p.tables e below (T3.setTop (mkF m 24 #[.val (.int xs), .val (.long st), .second, .val (.int stp), .val (.long exc), .second, .val (.int sel), .val (.long q), .second, .unset, .unset, .unset, .unset, .unset, .unset, .unset, .unset, .unset, .unset, .unset, .unset, .unset, .unset, .unset, .unset, .unset, .unset] [(.long st), (.double (FP.i2d rr)), (.ref a2), (.ref a2)])) _
        refine st4.trans ?_
        show Steps p.tables e below (T4.setTop (mkF m 27 #[.val (.int xs), .val (.long st), .second, .val (.int stp), .val (.long exc), .second, .val (.int sel), .val (.long q), .second, .unset, .unset, .unset, .unset, .unset, .unset, .unset, .unset, .unset, .unset, .unset, .unset, .unset, .unset, .unset, .unset, .unset, .unset] [(.ref a2)])) _
        refine XS.astore X4.here hx rfl (hb hby at_27) rfl rfl (l' := #[.val (.int xs), .val (.long st), .second, .val (.int stp), .val (.long exc), .second, .val (.int sel), .val (.long q), .second, .val (.ref a2), .unset, .unset, .unset, .unset, .unset, .unset, .unset, .unset, .unset, .unset, .unset, .unset, .unset, .unset, .unset, .unset, .unset]) rfl ?_
        show Steps p.tables e below (T4.setTop (mkF m 29 #[.val (.int xs), .val (.long st), .second, .val (.int stp), .val (.long exc), .second, .val (.int sel), .val (.long q), .second, .val (.ref a2), .unset, .unset, .unset, .unset, .unset, .unset, .unset, .unset, .unset, .unset, .unset, .unset, .unset, .unset, .unset, .unset, .unset] [])) _
        refine XS.iloadN X4.here hx rfl (hb hby at_29) rfl ?_
        show Steps p.tables e below (T4.setTop (mkF m 30 #[.val (.int xs), .val (.long st), .second, .val (.int stp), .val (.long exc), .second, .val (.int sel), .val (.long q), .second, .val (.ref a2), .unset, .unset, .unset, .unset, .unset, .unset, .unset, .unset, .unset, .unset, .unset, .unset, .unset, .unset, .unset, .unset, .unset] [(.int stp)])) _
        refine XS.iconst X4.here hx rfl (hb hby at_30) ?_
        show Steps p.tables e below (T4.setTop (mkF m 31 #[.val (.int xs), .val (.long st), .second, .val (.int stp), .val (.long exc), .second, .val (.int sel), .val (.long q), .second, .val (.ref a2), .unset, .unset, .unset, .unset, .unset, .unset, .unset, .unset, .unset, .unset, .unset, .unset, .unset, .unset, .unset, .unset, .unset] [(.int (3 : Int32)), (.int stp)])) _
        refine XS.iand X4.here hx rfl (hb hby at_31) rfl ?_
        rw [hkk]
        show Steps p.tables e below (T4.setTop (mkF m 32 #[.val (.int xs), .val (.long st), .second, .val (.int stp), .val (.long exc), .second, .val (.int sel), .val (.long q), .second, .val (.ref a2), .unset, .unset, .unset, .unset, .unset, .unset, .unset, .unset, .unset, .unset, .unset, .unset, .unset, .unset, .unset, .unset, .unset] [(.int (1 : Int32))])) _
        refine XS.istore X4.here hx rfl (hb hby at_32) rfl (l' := #[.val (.int xs), .val (.long st), .second, .val (.int stp), .val (.long exc), .second, .val (.int sel), .val (.long q), .second, .val (.ref a2), .val (.int (1 : Int32)), .unset, .unset, .unset, .unset, .unset, .unset, .unset, .unset, .unset, .unset, .unset, .unset, .unset, .unset, .unset, .unset]) rfl ?_
        show Steps p.tables e below (T4.setTop (mkF m 34 #[.val (.int xs), .val (.long st), .second, .val (.int stp), .val (.long exc), .second, .val (.int sel), .val (.long q), .second, .val (.ref a2), .val (.int (1 : Int32)), .unset, .unset, .unset, .unset, .unset, .unset, .unset, .unset, .unset, .unset, .unset, .unset, .unset, .unset, .unset, .unset] [])) _
        refine XS.iconst X4.here hx rfl (hb hby at_34) ?_
        show Steps p.tables e below (T4.setTop (mkF m 35 #[.val (.int xs), .val (.long st), .second, .val (.int stp), .val (.long exc), .second, .val (.int sel), .val (.long q), .second, .val (.ref a2), .val (.int (1 : Int32)), .unset, .unset, .unset, .unset, .unset, .unset, .unset, .unset, .unset, .unset, .unset, .unset, .unset, .unset, .unset, .unset] [(.int (1 : Int32))])) _
        refine XS.istore X4.here hx rfl (hb hby at_35) rfl (l' := #[.val (.int xs), .val (.long st), .second, .val (.int stp), .val (.long exc), .second, .val (.int sel), .val (.long q), .second, .val (.ref a2), .val (.int (1 : Int32)), .val (.int (1 : Int32)), .unset, .unset, .unset, .unset, .unset, .unset, .unset, .unset, .unset, .unset, .unset, .unset, .unset, .unset, .unset]) rfl ?_
        show Steps p.tables e below (T4.setTop (mkF m 37 #[.val (.int xs), .val (.long st), .second, .val (.int stp), .val (.long exc), .second, .val (.int sel), .val (.long q), .second, .val (.ref a2), .val (.int (1 : Int32)), .val (.int (1 : Int32)), .unset, .unset, .unset, .unset, .unset, .unset, .unset, .unset, .unset, .unset, .unset, .unset, .unset, .unset, .unset] [])) _
        refine XS.iload X4.here hx rfl (hb hby at_37) rfl ?_
        show Steps p.tables e below (T4.setTop (mkF m 39 #[.val (.int xs), .val (.long st), .second, .val (.int stp), .val (.long exc), .second, .val (.int sel), .val (.long q), .second, .val (.ref a2), .val (.int (1 : Int32)), .val (.int (1 : Int32)), .unset, .unset, .unset, .unset, .unset, .unset, .unset, .unset, .unset, .unset, .unset, .unset, .unset, .unset, .unset] [(.int (1 : Int32))])) _
        refine XS.ifNo X4.here hx rfl (hb hby at_39) rfl rfl ?_
        show Steps p.tables e below (T4.setTop (mkF m 42 #[.val (.int xs), .val (.long st), .second, .val (.int stp), .val (.long exc), .second, .val (.int sel), .val (.long q), .second, .val (.ref a2), .val (.int (1 : Int32)), .val (.int (1 : Int32)), .unset, .unset, .unset, .unset, .unset, .unset, .unset, .unset, .unset, .unset, .unset, .unset, .unset, .unset, .unset] [])) _
        refine XS.iload X4.here hx rfl (hb hby at_42) rfl ?_
        show Steps p.tables e below (T4.setTop (mkF m 44 #[.val (.int xs), .val (.long st), .second, .val (.int stp), .val (.long exc), .second, .val (.int sel), .val (.long q), .second, .val (.ref a2), .val (.int (1 : Int32)), .val (.int (1 : Int32)), .unset, .unset, .unset, .unset, .unset, .unset, .unset, .unset, .unset, .unset, .unset, .unset, .unset, .unset, .unset] [(.int (1 : Int32))])) _
        refine XS.ifNo X4.here hx rfl (hb hby at_44) rfl rfl ?_
        show Steps p.tables e below (T4.setTop (mkF m 47 #[.val (.int xs), .val (.long st), .second, .val (.int stp), .val (.long exc), .second, .val (.int sel), .val (.long q), .second, .val (.ref a2), .val (.int (1 : Int32)), .val (.int (1 : Int32)), .unset, .unset, .unset, .unset, .unset, .unset, .unset, .unset, .unset, .unset, .unset, .unset, .unset, .unset, .unset] [])) _
        refine XS.aload X4.here hx rfl (hb hby at_47) rfl rfl ?_
        show Steps p.tables e below (T4.setTop (mkF m 49 #[.val (.int xs), .val (.long st), .second, .val (.int stp), .val (.long exc), .second, .val (.int sel), .val (.long q), .second, .val (.ref a2), .val (.int (1 : Int32)), .val (.int (1 : Int32)), .unset, .unset, .unset, .unset, .unset, .unset, .unset, .unset, .unset, .unset, .unset, .unset, .unset, .unset, .unset] [(.ref a2)])) _
        refine st5.trans ?_
        show Steps p.tables e below (T5.setTop (mkF m 52 #[.val (.int xs), .val (.long st), .second, .val (.int stp), .val (.long exc), .second, .val (.int sel), .val (.long q), .second, .val (.ref a2), .val (.int (1 : Int32)), .val (.int (1 : Int32)), .unset, .unset, .unset, .unset, .unset, .unset, .unset, .unset, .unset, .unset, .unset, .unset, .unset, .unset, .unset] [(.long (st + (0 : Int64)))])) _
        refine XS.lloadN X5.here hx rfl (hb hby at_52) rfl ?_
        show Steps p.tables e below (T5.setTop (mkF m 53 #[.val (.int xs), .val (.long st), .second, .val (.int stp), .val (.long exc), .second, .val (.int sel), .val (.long q), .second, .val (.ref a2), .val (.int (1 : Int32)), .val (.int (1 : Int32)), .unset, .unset, .unset, .unset, .unset, .unset, .unset, .unset, .unset, .unset, .unset, .unset, .unset, .unset, .unset] [(.long st), (.long (st + (0 : Int64)))])) _
        refine XS.lcmp X5.here hx rfl (hb hby at_53) rfl ?_
        show Steps p.tables e below (T5.setTop (mkF m 54 #[.val (.int xs), .val (.long st), .second, .val (.int stp), .val (.long exc), .second, .val (.int sel), .val (.long q), .second, .val (.ref a2), .val (.int (1 : Int32)), .val (.int (1 : Int32)), .unset, .unset, .unset, .unset, .unset, .unset, .unset, .unset, .unset, .unset, .unset, .unset, .unset, .unset, .unset] [(.int (lcmpW (st + (0 : Int64)) st))])) _
        refine XS.ifNo X5.here hx rfl (hb hby at_54) rfl ((Jvm.Own.holdsL _ _ _).trans (Jvm.Own.dF (by rw [sz]; exact fun q => q rfl))) ?_
        show Steps p.tables e below (T5.setTop (mkF m 57 #[.val (.int xs), .val (.long st), .second, .val (.int stp), .val (.long exc), .second, .val (.int sel), .val (.long q), .second, .val (.ref a2), .val (.int (1 : Int32)), .val (.int (1 : Int32)), .unset, .unset, .unset, .unset, .unset, .unset, .unset, .unset, .unset, .unset, .unset, .unset, .unset, .unset, .unset] [])) _
        refine XS.iconst X5.here hx rfl (hb hby at_57) ?_
        show Steps p.tables e below (T5.setTop (mkF m 58 #[.val (.int xs), .val (.long st), .second, .val (.int stp), .val (.long exc), .second, .val (.int sel), .val (.long q), .second, .val (.ref a2), .val (.int (1 : Int32)), .val (.int (1 : Int32)), .unset, .unset, .unset, .unset, .unset, .unset, .unset, .unset, .unset, .unset, .unset, .unset, .unset, .unset, .unset] [(.int (1 : Int32))])) _
        refine XS.goto X5.here hx rfl (pc0 := 58) (pc' := 62) rfl (hb hby at_58) (by decide) (by decide) ?_
        show Steps p.tables e below (T5.setTop (mkF m 62 #[.val (.int xs), .val (.long st), .second, .val (.int stp), .val (.long exc), .second, .val (.int sel), .val (.long q), .second, .val (.ref a2), .val (.int (1 : Int32)), .val (.int (1 : Int32)), .unset, .unset, .unset, .unset, .unset, .unset, .unset, .unset, .unset, .unset, .unset, .unset, .unset, .unset, .unset] [(.int (1 : Int32))])) _
        refine XS.istore X5.here hx rfl (hb hby at_62) rfl (l' := #[.val (.int xs), .val (.long st), .second, .val (.int stp), .val (.long exc), .second, .val (.int sel), .val (.long q), .second, .val (.ref a2), .val (.int (1 : Int32)), .val (.int (1 : Int32)), .unset, .unset, .unset, .unset, .unset, .unset, .unset, .unset, .unset, .unset, .unset, .unset, .unset, .unset, .unset]) rfl ?_
        show Steps p.tables e below (T5.setTop (mkF m 64 #[.val (.int xs), .val (.long st), .second, .val (.int stp), .val (.long exc), .second, .val (.int sel), .val (.long q), .second, .val (.ref a2), .val (.int (1 : Int32)), .val (.int (1 : Int32)), .unset, .unset, .unset, .unset, .unset, .unset, .unset, .unset, .unset, .unset, .unset, .unset, .unset, .unset, .unset] [])) _
        refine XS.iload X5.here hx rfl (hb hby at_64) rfl ?_
        show Steps p.tables e below (T5.setTop (mkF m 66 #[.val (.int xs), .val (.long st), .second, .val (.int stp), .val (.long exc), .second, .val (.int sel), .val (.long q), .second, .val (.ref a2), .val (.int (1 : Int32)), .val (.int (1 : Int32)), .unset, .unset, .unset, .unset, .unset, .unset, .unset, .unset, .unset, .unset, .unset, .unset, .unset, .unset, .unset] [(.int (1 : Int32))])) _
        refine XS.iconst X5.here hx rfl (hb hby at_66) ?_
        show Steps p.tables e below (T5.setTop (mkF m 67 #[.val (.int xs), .val (.long st), .second, .val (.int stp), .val (.long exc), .second, .val (.int sel), .val (.long q), .second, .val (.ref a2), .val (.int (1 : Int32)), .val (.int (1 : Int32)), .unset, .unset, .unset, .unset, .unset, .unset, .unset, .unset, .unset, .unset, .unset, .unset, .unset, .unset, .unset] [(.int (1 : Int32)), (.int (1 : Int32))])) _
        refine XS.icmpYes X5.here hx rfl (pc0 := 67) (pc' := 95) rfl (hb hby at_67) rfl rfl (by decide) (by decide) ?_
        show Steps p.tables e below (T5.setTop (mkF m 95 #[.val (.int xs), .val (.long st), .second, .val (.int stp), .val (.long exc), .second, .val (.int sel), .val (.long q), .second, .val (.ref a2), .val (.int (1 : Int32)), .val (.int (1 : Int32)), .unset, .unset, .unset, .unset, .unset, .unset, .unset, .unset, .unset, .unset, .unset, .unset, .unset, .unset, .unset] [])) _
        refine XS.iload X5.here hx rfl (hb hby at_95) rfl ?_
        show Steps p.tables e below (T5.setTop (mkF m 97 #[.val (.int xs), .val (.long st), .second, .val (.int stp), .val (.long exc), .second, .val (.int sel), .val (.long q), .second, .val (.ref a2), .val (.int (1 : Int32)), .val (.int (1 : Int32)), .unset, .unset, .unset, .unset, .unset, .unset, .unset, .unset, .unset, .unset, .unset, .unset, .unset, .unset, .unset] [(.int (1 : Int32))])) _
        refine XS.iconst X5.here hx rfl (hb hby at_97) ?_
        show Steps p.tables e below (T5.setTop (mkF m 98 #[.val (.int xs), .val (.long st), .second, .val (.int stp), .val (.long exc), .second, .val (.int sel), .val (.long q), .second, .val (.ref a2), .val (.int (1 : Int32)), .val (.int (1 : Int32)), .unset, .unset, .unset, .unset, .unset, .unset, .unset, .unset, .unset, .unset, .unset, .unset, .unset, .unset, .unset] [(.int (2 : Int32)), (.int (1 : Int32))])) _
        refine XS.icmpYes X5.here hx rfl (pc0 := 98) (pc' := 130) rfl (hb hby at_98) rfl rfl (by decide) (by decide) ?_
        show Steps p.tables e below (T5.setTop (mkF m 130 #[.val (.int xs), .val (.long st), .second, .val (.int stp), .val (.long exc), .second, .val (.int sel), .val (.long q), .second, .val (.ref a2), .val (.int (1 : Int32)), .val (.int (1 : Int32)), .unset, .unset, .unset, .unset, .unset, .unset, .unset, .unset, .unset, .unset, .unset, .unset, .unset, .unset, .unset] [])) _
        refine XS.iload X5.here hx rfl (hb hby at_130) rfl ?_
        show Steps p.tables e below (T5.setTop (mkF m 132 #[.val (.int xs), .val (.long st), .second, .val (.int stp), .val (.long exc), .second, .val (.int sel), .val (.long q), .second, .val (.ref a2), .val (.int (1 : Int32)), .val (.int (1 : Int32)), .unset, .unset, .unset, .unset, .unset, .unset, .unset, .unset, .unset, .unset, .unset, .unset, .unset, .unset, .unset] [(.int (1 : Int32))])) _
        refine XS.i2l X5.here hx rfl (hb hby at_132) rfl ?_
        show Steps p.tables e below (T5.setTop (mkF m 133 #[.val (.int xs), .val (.long st), .second, .val (.int stp), .val (.long exc), .second, .val (.int sel), .val (.long q), .second, .val (.ref a2), .val (.int (1 : Int32)), .val (.int (1 : Int32)), .unset, .unset, .unset, .unset, .unset, .unset, .unset, .unset, .unset, .unset, .unset, .unset, .unset, .unset, .unset] [(.long ((1 : Int32).toInt64))])) _
        refine XS.lload X5.here hx rfl (hb hby at_133) rfl ?_
        show Steps p.tables e below (T5.setTop (mkF m 135 #[.val (.int xs), .val (.long st), .second, .val (.int stp), .val (.long exc), .second, .val (.int sel), .val (.long q), .second, .val (.ref a2), .val (.int (1 : Int32)), .val (.int (1 : Int32)), .unset, .unset, .unset, .unset, .unset, .unset, .unset, .unset, .unset, .unset, .unset, .unset, .unset, .unset, .unset] [(.long q), (.long ((1 : Int32).toInt64))])) _
        refine XS.lmul X5.here hx rfl (hb hby at_135) rfl ?_
        rw [k1]
        show Steps p.tables e below (T5.setTop (mkF m 136 #[.val (.int xs), .val (.long st), .second, .val (.int stp), .val (.long exc), .second, .val (.int sel), .val (.long q), .second, .val (.ref a2), .val (.int (1 : Int32)), .val (.int (1 : Int32)), .unset, .unset, .unset, .unset, .unset, .unset, .unset, .unset, .unset, .unset, .unset, .unset, .unset, .unset, .unset] [(.long q)])) _
        refine XS.lstore X5.here hx rfl (hb hby at_136) rfl (l' := #[.val (.int xs), .val (.long st), .second, .val (.int stp), .val (.long exc), .second, .val (.int sel), .val (.long q), .second, .val (.ref a2), .val (.int (1 : Int32)), .val (.int (1 : Int32)), .val (.long q), .second, .unset, .unset, .unset, .unset, .unset, .unset, .unset, .unset, .unset, .unset, .unset, .unset, .unset]) rfl ?_
        show Steps p.tables e below (T5.setTop (mkF m 138 #[.val (.int xs), .val (.long st), .second, .val (.int stp), .val (.long exc), .second, .val (.int sel), .val (.long q), .second, .val (.ref a2), .val (.int (1 : Int32)), .val (.int (1 : Int32)), .val (.long q), .second, .unset, .unset, .unset, .unset, .unset, .unset, .unset, .unset, .unset, .unset, .unset, .unset, .unset] [])) _
        refine XS.lloadN X5.here hx rfl (hb hby at_138) rfl ?_
        show Steps p.tables e below (T5.setTop (mkF m 139 #[.val (.int xs), .val (.long st), .second, .val (.int stp), .val (.long exc), .second, .val (.int sel), .val (.long q), .second, .val (.ref a2), .val (.int (1 : Int32)), .val (.int (1 : Int32)), .val (.long q), .second, .unset, .unset, .unset, .unset, .unset, .unset, .unset, .unset, .unset, .unset, .unset, .unset, .unset] [(.long st)])) _
        refine XS.lload X5.here hx rfl (hb hby at_139) rfl ?_
        show Steps p.tables e below (T5.setTop (mkF m 141 #[.val (.int xs), .val (.long st), .second, .val (.int stp), .val (.long exc), .second, .val (.int sel), .val (.long q), .second, .val (.ref a2), .val (.int (1 : Int32)), .val (.int (1 : Int32)), .val (.long q), .second, .unset, .unset, .unset, .unset, .unset, .unset, .unset, .unset, .unset, .unset, .unset, .unset, .unset] [(.long q), (.long st)])) _
        refine XS.ladd X5.here hx rfl (hb hby at_141) rfl ?_
        show Steps p.tables e below (T5.setTop (mkF m 142 #[.val (.int xs), .val (.long st), .second, .val (.int stp), .val (.long exc), .second, .val (.int sel), .val (.long q), .second, .val (.ref a2), .val (.int (1 : Int32)), .val (.int (1 : Int32)), .val (.long q), .second, .unset, .unset, .unset, .unset, .unset, .unset, .unset, .unset, .unset, .unset, .unset, .unset, .unset] [(.long (st + q))])) _
        refine XS.lload X5.here hx rfl (hb hby at_142) rfl ?_
        show Steps p.tables e below (T5.setTop (mkF m 144 #[.val (.int xs), .val (.long st), .second, .val (.int stp), .val (.long exc), .second, .val (.int sel), .val (.long q), .second, .val (.ref a2), .val (.int (1 : Int32)), .val (.int (1 : Int32)), .val (.long q), .second, .unset, .unset, .unset, .unset, .unset, .unset, .unset, .unset, .unset, .unset, .unset, .unset, .unset] [(.long exc), (.long (st + q))])) _
        refine XS.ladd X5.here hx rfl (hb hby at_144) rfl ?_
        rw [harr]
        show Steps p.tables e below (T5.setTop (mkF m 145 #[.val (.int xs), .val (.long st), .second, .val (.int stp), .val (.long exc), .second, .val (.int sel), .val (.long q), .second, .val (.ref a2), .val (.int (1 : Int32)), .val (.int (1 : Int32)), .val (.long q), .second, .unset, .unset, .unset, .unset, .unset, .unset, .unset, .unset, .unset, .unset, .unset, .unset, .unset] [(.long arr)])) _
        refine XS.lstore X5.here hx rfl (hb hby at_145) rfl (l' := #[.val (.int xs), .val (.long st), .second, .val (.int stp), .val (.long exc), .second, .val (.int sel), .val (.long q), .second, .val (.ref a2), .val (.int (1 : Int32)), .val (.int (1 : Int32)), .val (.long q), .second, .val (.long arr), .second, .unset, .unset, .unset, .unset, .unset, .unset, .unset, .unset, .unset, .unset, .unset]) rfl ?_
        show Steps p.tables e below (T5.setTop (mkF m 147 #[.val (.int xs), .val (.long st), .second, .val (.int stp), .val (.long exc), .second, .val (.int sel), .val (.long q), .second, .val (.ref a2), .val (.int (1 : Int32)), .val (.int (1 : Int32)), .val (.long q), .second, .val (.long arr), .second, .unset, .unset, .unset, .unset, .unset, .unset, .unset, .unset, .unset, .unset, .unset] [])) _
        refine XS.aload X5.here hx rfl (hb hby at_147) rfl rfl ?_
        show Steps p.tables e below (T5.setTop (mkF m 149 #[.val (.int xs), .val (.long st), .second, .val (.int stp), .val (.long exc), .second, .val (.int sel), .val (.long q), .second, .val (.ref a2), .val (.int (1 : Int32)), .val (.int (1 : Int32)), .val (.long q), .second, .val (.long arr), .second, .unset, .unset, .unset, .unset, .unset, .unset, .unset, .unset, .unset, .unset, .unset] [(.ref a2)])) _
        refine XS.lload X5.here hx rfl (hb hby at_149) rfl ?_
        show Steps p.tables e below (T5.setTop (mkF m 151 #[.val (.int xs), .val (.long st), .second, .val (.int stp), .val (.long exc), .second, .val (.int sel), .val (.long q), .second, .val (.ref a2), .val (.int (1 : Int32)), .val (.int (1 : Int32)), .val (.long q), .second, .val (.long arr), .second, .unset, .unset, .unset, .unset, .unset, .unset, .unset, .unset, .unset, .unset, .unset] [(.long arr), (.ref a2)])) _
        refine st8.trans ?_
        show Steps p.tables e below (T8.setTop (mkF m 154 #[.val (.int xs), .val (.long st), .second, .val (.int stp), .val (.long exc), .second, .val (.int sel), .val (.long q), .second, .val (.ref a2), .val (.int (1 : Int32)), .val (.int (1 : Int32)), .val (.long q), .second, .val (.long arr), .second, .unset, .unset, .unset, .unset, .unset, .unset, .unset, .unset, .unset, .unset, .unset] [(.long (st + q))])) _
        refine XS.lstore X8.here hx rfl (hb hby at_154) rfl (l' := #[.val (.int xs), .val (.long st), .second, .val (.int stp), .val (.long exc), .second, .val (.int sel), .val (.long q), .second, .val (.ref a2), .val (.int (1 : Int32)), .val (.int (1 : Int32)), .val (.long q), .second, .val (.long arr), .second, .val (.long (st + q)), .second, .unset, .unset, .unset, .unset, .unset, .unset, .unset, .unset, .unset]) rfl ?_
        show Steps p.tables e below (T8.setTop (mkF m 156 #[.val (.int xs), .val (.long st), .second, .val (.int stp), .val (.long exc), .second, .val (.int sel), .val (.long q), .second, .val (.ref a2), .val (.int (1 : Int32)), .val (.int (1 : Int32)), .val (.long q), .second, .val (.long arr), .second, .val (.long (st + q)), .second, .unset, .unset, .unset, .unset, .unset, .unset, .unset, .unset, .unset] [])) _
        refine XS.aload X8.here hx rfl (hb hby at_156) rfl rfl ?_
        show Steps p.tables e below (T8.setTop (mkF m 158 #[.val (.int xs), .val (.long st), .second, .val (.int stp), .val (.long exc), .second, .val (.int sel), .val (.long q), .second, .val (.ref a2), .val (.int (1 : Int32)), .val (.int (1 : Int32)), .val (.long q), .second, .val (.long arr), .second, .val (.long (st + q)), .second, .unset, .unset, .unset, .unset, .unset, .unset, .unset, .unset, .unset] [(.ref a2)])) _
        refine st9.trans ?_
        show Steps p.tables e below (T9.setTop (mkF m 161 #[.val (.int xs), .val (.long st), .second, .val (.int stp), .val (.long exc), .second, .val (.int sel), .val (.long q), .second, .val (.ref a2), .val (.int (1 : Int32)), .val (.int (1 : Int32)), .val (.long q), .second, .val (.long arr), .second, .val (.long (st + q)), .second, .unset, .unset, .unset, .unset, .unset, .unset, .unset, .unset, .unset] [(.long (st + o2))])) _
        refine XS.lstore X9.here hx rfl (hb hby at_161) rfl (l' := #[.val (.int xs), .val (.long st), .second, .val (.int stp), .val (.long exc), .second, .val (.int sel), .val (.long q), .second, .val (.ref a2), .val (.int (1 : Int32)), .val (.int (1 : Int32)), .val (.long q), .second, .val (.long arr), .second, .val (.long (st + q)), .second, .val (.long (st + o2)), .second, .unset, .unset, .unset, .unset, .unset, .unset, .unset]) rfl ?_
        show Steps p.tables e below (T9.setTop (mkF m 163 #[.val (.int xs), .val (.long st), .second, .val (.int stp), .val (.long exc), .second, .val (.int sel), .val (.long q), .second, .val (.ref a2), .val (.int (1 : Int32)), .val (.int (1 : Int32)), .val (.long q), .second, .val (.long arr), .second, .val (.long (st + q)), .second, .val (.long (st + o2)), .second, .unset, .unset, .unset, .unset, .unset, .unset, .unset] [])) _
        refine XS.lloadN X9.here hx rfl (hb hby at_163) rfl ?_
        show Steps p.tables e below (T9.setTop (mkF m 164 #[.val (.int xs), .val (.long st), .second, .val (.int stp), .val (.long exc), .second, .val (.int sel), .val (.long q), .second, .val (.ref a2), .val (.int (1 : Int32)), .val (.int (1 : Int32)), .val (.long q), .second, .val (.long arr), .second, .val (.long (st + q)), .second, .val (.long (st + o2)), .second, .unset, .unset, .unset, .unset, .unset, .unset, .unset] [(.long st)])) _
        refine XS.lload X9.here hx rfl (hb hby at_164) rfl ?_
        show Steps p.tables e below (T9.setTop (mkF m 166 #[.val (.int xs), .val (.long st), .second, .val (.int stp), .val (.long exc), .second, .val (.int sel), .val (.long q), .second, .val (.ref a2), .val (.int (1 : Int32)), .val (.int (1 : Int32)), .val (.long q), .second, .val (.long arr), .second, .val (.long (st + q)), .second, .val (.long (st + o2)), .second, .unset, .unset, .unset, .unset, .unset, .unset, .unset] [(.long q), (.long st)])) _
        refine XS.ladd X9.here hx rfl (hb hby at_166) rfl ?_
        show Steps p.tables e below (T9.setTop (mkF m 167 #[.val (.int xs), .val (.long st), .second, .val (.int stp), .val (.long exc), .second, .val (.int sel), .val (.long q), .second, .val (.ref a2), .val (.int (1 : Int32)), .val (.int (1 : Int32)), .val (.long q), .second, .val (.long arr), .second, .val (.long (st + q)), .second, .val (.long (st + o2)), .second, .unset, .unset, .unset, .unset, .unset, .unset, .unset] [(.long (st + q))])) _
        refine XS.lstore X9.here hx rfl (hb hby at_167) rfl (l' := #[.val (.int xs), .val (.long st), .second, .val (.int stp), .val (.long exc), .second, .val (.int sel), .val (.long q), .second, .val (.ref a2), .val (.int (1 : Int32)), .val (.int (1 : Int32)), .val (.long q), .second, .val (.long arr), .second, .val (.long (st + q)), .second, .val (.long (st + o2)), .second, .val (.long (st + q)), .second, .unset, .unset, .unset, .unset, .unset]) rfl ?_
        show Steps p.tables e below (T9.setTop (mkF m 169 #[.val (.int xs), .val (.long st), .second, .val (.int stp), .val (.long exc), .second, .val (.int sel), .val (.long q), .second, .val (.ref a2), .val (.int (1 : Int32)), .val (.int (1 : Int32)), .val (.long q), .second, .val (.long arr), .second, .val (.long (st + q)), .second, .val (.long (st + o2)), .second, .val (.long (st + q)), .second, .unset, .unset, .unset, .unset, .unset] [])) _
        refine XS.lload X9.here hx rfl (hb hby at_169) rfl ?_
        show Steps p.tables e below (T9.setTop (mkF m 171 #[.val (.int xs), .val (.long st), .second, .val (.int stp), .val (.long exc), .second, .val (.int sel), .val (.long q), .second, .val (.ref a2), .val (.int (1 : Int32)), .val (.int (1 : Int32)), .val (.long q), .second, .val (.long arr), .second, .val (.long (st + q)), .second, .val (.long (st + o2)), .second, .val (.long (st + q)), .second, .unset, .unset, .unset, .unset, .unset] [(.long arr)])) _
        refine XS.lloadN X9.here hx rfl (hb hby at_171) rfl ?_
        show Steps p.tables e below (T9.setTop (mkF m 172 #[.val (.int xs), .val (.long st), .second, .val (.int stp), .val (.long exc), .second, .val (.int sel), .val (.long q), .second, .val (.ref a2), .val (.int (1 : Int32)), .val (.int (1 : Int32)), .val (.long q), .second, .val (.long arr), .second, .val (.long (st + q)), .second, .val (.long (st + o2)), .second, .val (.long (st + q)), .second, .unset, .unset, .unset, .unset, .unset] [(.long st), (.long arr)])) _
        refine XS.lsub X9.here hx rfl (hb hby at_172) rfl ?_
        show Steps p.tables e below (T9.setTop (mkF m 173 #[.val (.int xs), .val (.long st), .second, .val (.int stp), .val (.long exc), .second, .val (.int sel), .val (.long q), .second, .val (.ref a2), .val (.int (1 : Int32)), .val (.int (1 : Int32)), .val (.long q), .second, .val (.long arr), .second, .val (.long (st + q)), .second, .val (.long (st + o2)), .second, .val (.long (st + q)), .second, .unset, .unset, .unset, .unset, .unset] [(.long (arr - st))])) _
        refine XS.lload X9.here hx rfl (hb hby at_173) rfl ?_
        show Steps p.tables e below (T9.setTop (mkF m 175 #[.val (.int xs), .val (.long st), .second, .val (.int stp), .val (.long exc), .second, .val (.int sel), .val (.long q), .second, .val (.ref a2), .val (.int (1 : Int32)), .val (.int (1 : Int32)), .val (.long q), .second, .val (.long arr), .second, .val (.long (st + q)), .second, .val (.long (st + o2)), .second, .val (.long (st + q)), .second, .unset, .unset, .unset, .unset, .unset] [(.long q), (.long (arr - st))])) _
        refine XS.lcmp X9.here hx rfl (hb hby at_175) rfl ?_
        show Steps p.tables e below (T9.setTop (mkF m 176 #[.val (.int xs), .val (.long st), .second, .val (.int stp), .val (.long exc), .second, .val (.int sel), .val (.long q), .second, .val (.ref a2), .val (.int (1 : Int32)), .val (.int (1 : Int32)), .val (.long q), .second, .val (.long arr), .second, .val (.long (st + q)), .second, .val (.long (st + o2)), .second, .val (.long (st + q)), .second, .unset, .unset, .unset, .unset, .unset] [(.int (lcmpW (arr - st) q))])) _
        refine XS.ifYes X9.here hx rfl (pc0 := 176) (pc' := 183) rfl (hb hby at_176) rfl ((Jvm.Own.holdsL _ _ _).trans (Jvm.Own.dT (by omega))) (by decide) (by decide) ?_
        show Steps p.tables e below (T9.setTop (mkF m 183 #[.val (.int xs), .val (.long st), .second, .val (.int stp), .val (.long exc), .second, .val (.int sel), .val (.long q), .second, .val (.ref a2), .val (.int (1 : Int32)), .val (.int (1 : Int32)), .val (.long q), .second, .val (.long arr), .second, .val (.long (st + q)), .second, .val (.long (st + o2)), .second, .val (.long (st + q)), .second, .unset, .unset, .unset, .unset, .unset] [])) _
        refine XS.iconst X9.here hx rfl (hb hby at_183) ?_
        show Steps p.tables e below (T9.setTop (mkF m 184 #[.val (.int xs), .val (.long st), .second, .val (.int stp), .val (.long exc), .second, .val (.int sel), .val (.long q), .second, .val (.ref a2), .val (.int (1 : Int32)), .val (.int (1 : Int32)), .val (.long q), .second, .val (.long arr), .second, .val (.long (st + q)), .second, .val (.long (st + o2)), .second, .val (.long (st + q)), .second, .unset, .unset, .unset, .unset, .unset] [(.int (0 : Int32))])) _
        refine XS.istore X9.here hx rfl (hb hby at_184) rfl (l' := #[.val (.int xs), .val (.long st), .second, .val (.int stp), .val (.long exc), .second, .val (.int sel), .val (.long q), .second, .val (.ref a2), .val (.int (1 : Int32)), .val (.int (1 : Int32)), .val (.long q), .second, .val (.long arr), .second, .val (.long (st + q)), .second, .val (.long (st + o2)), .second, .val (.long (st + q)), .second, .val (.int (0 : Int32)), .unset, .unset, .unset, .unset]) rfl ?_
        show Steps p.tables e below (T9.setTop (mkF m 186 #[.val (.int xs), .val (.long st), .second, .val (.int stp), .val (.long exc), .second, .val (.int sel), .val (.long q), .second, .val (.ref a2), .val (.int (1 : Int32)), .val (.int (1 : Int32)), .val (.long q), .second, .val (.long arr), .second, .val (.long (st + q)), .second, .val (.long (st + o2)), .second, .val (.long (st + q)), .second, .val (.int (0 : Int32)), .unset, .unset, .unset, .unset] [])) _
        refine XS.iload X9.here hx rfl (hb hby at_186) rfl ?_
        show Steps p.tables e below (T9.setTop (mkF m 188 #[.val (.int xs), .val (.long st), .second, .val (.int stp), .val (.long exc), .second, .val (.int sel), .val (.long q), .second, .val (.ref a2), .val (.int (1 : Int32)), .val (.int (1 : Int32)), .val (.long q), .second, .val (.long arr), .second, .val (.long (st + q)), .second, .val (.long (st + o2)), .second, .val (.long (st + q)), .second, .val (.int (0 : Int32)), .unset, .unset, .unset, .unset] [(.int (0 : Int32))])) _
        refine XS.ifYes X9.here hx rfl (pc0 := 188) (pc' := 196) rfl (hb hby at_188) rfl rfl (by decide) (by decide) ?_
        show Steps p.tables e below (T9.setTop (mkF m 196 #[.val (.int xs), .val (.long st), .second, .val (.int stp), .val (.long exc), .second, .val (.int sel), .val (.long q), .second, .val (.ref a2), .val (.int (1 : Int32)), .val (.int (1 : Int32)), .val (.long q), .second, .val (.long arr), .second, .val (.long (st + q)), .second, .val (.long (st + o2)), .second, .val (.long (st + q)), .second, .val (.int (0 : Int32)), .unset, .unset, .unset, .unset] [])) _
        refine XS.lload X9.here hx rfl (hb hby at_196) rfl ?_
        show Steps p.tables e below (T9.setTop (mkF m 198 #[.val (.int xs), .val (.long st), .second, .val (.int stp), .val (.long exc), .second, .val (.int sel), .val (.long q), .second, .val (.ref a2), .val (.int (1 : Int32)), .val (.int (1 : Int32)), .val (.long q), .second, .val (.long arr), .second, .val (.long (st + q)), .second, .val (.long (st + o2)), .second, .val (.long (st + q)), .second, .val (.int (0 : Int32)), .unset, .unset, .unset, .unset] [(.long (st + q))])) _
        refine XS.lstore X9.here hx rfl (hb hby at_198) rfl (l' := #[.val (.int xs), .val (.long st), .second, .val (.int stp), .val (.long exc), .second, .val (.int sel), .val (.long q), .second, .val (.ref a2), .val (.int (1 : Int32)), .val (.int (1 : Int32)), .val (.long q), .second, .val (.long arr), .second, .val (.long (st + q)), .second, .val (.long (st + o2)), .second, .val (.long (st + q)), .second, .val (.int (0 : Int32)), .val (.long (st + q)), .second, .unset, .unset]) rfl ?_
        show Steps p.tables e below (T9.setTop (mkF m 200 #[.val (.int xs), .val (.long st), .second, .val (.int stp), .val (.long exc), .second, .val (.int sel), .val (.long q), .second, .val (.ref a2), .val (.int (1 : Int32)), .val (.int (1 : Int32)), .val (.long q), .second, .val (.long arr), .second, .val (.long (st + q)), .second, .val (.long (st + o2)), .second, .val (.long (st + q)), .second, .val (.int (0 : Int32)), .val (.long (st + q)), .second, .unset, .unset] [])) _
        refine XS.lload X9.here hx rfl (hb hby at_200) rfl ?_
        show Steps p.tables e below (T9.setTop (mkF m 202 #[.val (.int xs), .val (.long st), .second, .val (.int stp), .val (.long exc), .second, .val (.int sel), .val (.long q), .second, .val (.ref a2), .val (.int (1 : Int32)), .val (.int (1 : Int32)), .val (.long q), .second, .val (.long arr), .second, .val (.long (st + q)), .second, .val (.long (st + o2)), .second, .val (.long (st + q)), .second, .val (.int (0 : Int32)), .val (.long (st + q)), .second, .unset, .unset] [(.long (st + q))])) _
        refine XS.lload X9.here hx rfl (hb hby at_202) rfl ?_
        show Steps p.tables e below (T9.setTop (mkF m 204 #[.val (.int xs), .val (.long st), .second, .val (.int stp), .val (.long exc), .second, .val (.int sel), .val (.long q), .second, .val (.ref a2), .val (.int (1 : Int32)), .val (.int (1 : Int32)), .val (.long q), .second, .val (.long arr), .second, .val (.long (st + q)), .second, .val (.long (st + o2)), .second, .val (.long (st + q)), .second, .val (.int (0 : Int32)), .val (.long (st + q)), .second, .unset, .unset] [(.long q), (.long (st + q))])) _
        refine XS.ladd X9.here hx rfl (hb hby at_204) rfl ?_
        show Steps p.tables e below (T9.setTop (mkF m 205 #[.val (.int xs), .val (.long st), .second, .val (.int stp), .val (.long exc), .second, .val (.int sel), .val (.long q), .second, .val (.ref a2), .val (.int (1 : Int32)), .val (.int (1 : Int32)), .val (.long q), .second, .val (.long arr), .second, .val (.long (st + q)), .second, .val (.long (st + o2)), .second, .val (.long (st + q)), .second, .val (.int (0 : Int32)), .val (.long (st + q)), .second, .unset, .unset] [(.long ((st + q) + q))])) _
        refine XS.lstore X9.here hx rfl (hb hby at_205) rfl (l' := #[.val (.int xs), .val (.long st), .second, .val (.int stp), .val (.long exc), .second, .val (.int sel), .val (.long q), .second, .val (.ref a2), .val (.int (1 : Int32)), .val (.int (1 : Int32)), .val (.long q), .second, .val (.long arr), .second, .val (.long (st + q)), .second, .val (.long (st + o2)), .second, .val (.long (st + q)), .second, .val (.int (0 : Int32)), .val (.long (st + q)), .second, .val (.long ((st + q) + q)), .second]) rfl ?_
        show Steps p.tables e below (T9.setTop (mkF m 207 #[.val (.int xs), .val (.long st), .second, .val (.int stp), .val (.long exc), .second, .val (.int sel), .val (.long q), .second, .val (.ref a2), .val (.int (1 : Int32)), .val (.int (1 : Int32)), .val (.long q), .second, .val (.long arr), .second, .val (.long (st + q)), .second, .val (.long (st + o2)), .second, .val (.long (st + q)), .second, .val (.int (0 : Int32)), .val (.long (st + q)), .second, .val (.long ((st + q) + q)), .second] [])) _
        refine XS.iload X9.here hx rfl (hb hby at_207) rfl ?_
        show Steps p.tables e below (T9.setTop (mkF m 209 #[.val (.int xs), .val (.long st), .second, .val (.int stp), .val (.long exc), .second, .val (.int sel), .val (.long q), .second, .val (.ref a2), .val (.int (1 : Int32)), .val (.int (1 : Int32)), .val (.long q), .second, .val (.long arr), .second, .val (.long (st + q)), .second, .val (.long (st + o2)), .second, .val (.long (st + q)), .second, .val (.int (0 : Int32)), .val (.long (st + q)), .second, .val (.long ((st + q) + q)), .second] [(.int (1 : Int32))])) _
        refine XS.ifNo X9.here hx rfl (hb hby at_209) rfl rfl ?_
        show Steps p.tables e below (T9.setTop (mkF m 212 #[.val (.int xs), .val (.long st), .second, .val (.int stp), .val (.long exc), .second, .val (.int sel), .val (.long q), .second, .val (.ref a2), .val (.int (1 : Int32)), .val (.int (1 : Int32)), .val (.long q), .second, .val (.long arr), .second, .val (.long (st + q)), .second, .val (.long (st + o2)), .second, .val (.long (st + q)), .second, .val (.int (0 : Int32)), .val (.long (st + q)), .second, .val (.long ((st + q) + q)), .second] [])) _
        refine XS.lload X9.here hx rfl (hb hby at_212) rfl ?_
        show Steps p.tables e below (T9.setTop (mkF m 214 #[.val (.int xs), .val (.long st), .second, .val (.int stp), .val (.long exc), .second, .val (.int sel), .val (.long q), .second, .val (.ref a2), .val (.int (1 : Int32)), .val (.int (1 : Int32)), .val (.long q), .second, .val (.long arr), .second, .val (.long (st + q)), .second, .val (.long (st + o2)), .second, .val (.long (st + q)), .second, .val (.int (0 : Int32)), .val (.long (st + q)), .second, .val (.long ((st + q) + q)), .second] [(.long (st + q))])) _
        refine XS.lload X9.here hx rfl (hb hby at_214) rfl ?_
        show Steps p.tables e below (T9.setTop (mkF m 216 #[.val (.int xs), .val (.long st), .second, .val (.int stp), .val (.long exc), .second, .val (.int sel), .val (.long q), .second, .val (.ref a2), .val (.int (1 : Int32)), .val (.int (1 : Int32)), .val (.long q), .second, .val (.long arr), .second, .val (.long (st + q)), .second, .val (.long (st + o2)), .second, .val (.long (st + q)), .second, .val (.int (0 : Int32)), .val (.long (st + q)), .second, .val (.long ((st + q) + q)), .second] [(.long (st + q)), (.long (st + q))])) _
        refine XS.lcmp X9.here hx rfl (hb hby at_216) rfl ?_
        show Steps p.tables e below (T9.setTop (mkF m 217 #[.val (.int xs), .val (.long st), .second, .val (.int stp), .val (.long exc), .second, .val (.int sel), .val (.long q), .second, .val (.ref a2), .val (.int (1 : Int32)), .val (.int (1 : Int32)), .val (.long q), .second, .val (.long arr), .second, .val (.long (st + q)), .second, .val (.long (st + o2)), .second, .val (.long (st + q)), .second, .val (.int (0 : Int32)), .val (.long (st + q)), .second, .val (.long ((st + q) + q)), .second] [(.int (lcmpW (st + q) (st + q)))])) _
        refine XS.ifNo X9.here hx rfl (hb hby at_217) rfl ((Jvm.Own.holdsL _ _ _).trans (Jvm.Own.dF (fun q => q rfl))) ?_
        show Steps p.tables e below (T9.setTop (mkF m 220 #[.val (.int xs), .val (.long st), .second, .val (.int stp), .val (.long exc), .second, .val (.int sel), .val (.long q), .second, .val (.ref a2), .val (.int (1 : Int32)), .val (.int (1 : Int32)), .val (.long q), .second, .val (.long arr), .second, .val (.long (st + q)), .second, .val (.long (st + o2)), .second, .val (.long (st + q)), .second, .val (.int (0 : Int32)), .val (.long (st + q)), .second, .val (.long ((st + q) + q)), .second] [])) _
        refine XS.lload X9.here hx rfl (hb hby at_220) rfl ?_
        show Steps p.tables e below (T9.setTop (mkF m 222 #[.val (.int xs), .val (.long st), .second, .val (.int stp), .val (.long exc), .second, .val (.int sel), .val (.long q), .second, .val (.ref a2), .val (.int (1 : Int32)), .val (.int (1 : Int32)), .val (.long q), .second, .val (.long arr), .second, .val (.long (st + q)), .second, .val (.long (st + o2)), .second, .val (.long (st + q)), .second, .val (.int (0 : Int32)), .val (.long (st + q)), .second, .val (.long ((st + q) + q)), .second] [(.long (st + o2))])) _
        refine XS.lload X9.here hx rfl (hb hby at_222) rfl ?_
        show Steps p.tables e below (T9.setTop (mkF m 224 #[.val (.int xs), .val (.long st), .second, .val (.int stp), .val (.long exc), .second, .val (.int sel), .val (.long q), .second, .val (.ref a2), .val (.int (1 : Int32)), .val (.int (1 : Int32)), .val (.long q), .second, .val (.long arr), .second, .val (.long (st + q)), .second, .val (.long (st + o2)), .second, .val (.long (st + q)), .second, .val (.int (0 : Int32)), .val (.long (st + q)), .second, .val (.long ((st + q) + q)), .second] [(.long ((st + q) + q)), (.long (st + o2))])) _
        refine XS.lcmp X9.here hx rfl (hb hby at_224) rfl ?_
        show Steps p.tables e below (T9.setTop (mkF m 225 #[.val (.int xs), .val (.long st), .second, .val (.int stp), .val (.long exc), .second, .val (.int sel), .val (.long q), .second, .val (.ref a2), .val (.int (1 : Int32)), .val (.int (1 : Int32)), .val (.long q), .second, .val (.long arr), .second, .val (.long (st + q)), .second, .val (.long (st + o2)), .second, .val (.long (st + q)), .second, .val (.int (0 : Int32)), .val (.long (st + q)), .second, .val (.long ((st + q) + q)), .second] [(.int (lcmpW (st + o2) ((st + q) + q)))])) _
        refine XS.ifNo X9.here hx rfl (hb hby at_225) rfl ((Jvm.Own.holdsL _ _ _).trans (Jvm.Own.dF (fun z => z (by rw [Int64.add_assoc, pa2])))) ?_
        show Steps p.tables e below (T9.setTop (mkF m 228 #[.val (.int xs), .val (.long st), .second, .val (.int stp), .val (.long exc), .second, .val (.int sel), .val (.long q), .second, .val (.ref a2), .val (.int (1 : Int32)), .val (.int (1 : Int32)), .val (.long q), .second, .val (.long arr), .second, .val (.long (st + q)), .second, .val (.long (st + o2)), .second, .val (.long (st + q)), .second, .val (.int (0 : Int32)), .val (.long (st + q)), .second, .val (.long ((st + q) + q)), .second] [])) _
        refine XS.iconst X9.here hx rfl (hb hby at_228) ?_
        show Steps p.tables e below (T9.setTop (mkF m 229 #[.val (.int xs), .val (.long st), .second, .val (.int stp), .val (.long exc), .second, .val (.int sel), .val (.long q), .second, .val (.ref a2), .val (.int (1 : Int32)), .val (.int (1 : Int32)), .val (.long q), .second, .val (.long arr), .second, .val (.long (st + q)), .second, .val (.long (st + o2)), .second, .val (.long (st + q)), .second, .val (.int (0 : Int32)), .val (.long (st + q)), .second, .val (.long ((st + q) + q)), .second] [(.int (1 : Int32))])) _
        refine XS.goto X9.here hx rfl (pc0 := 229) (pc' := 233) rfl (hb hby at_229) (by decide) (by decide) ?_
        show Steps p.tables e below (T9.setTop (mkF m 233 #[.val (.int xs), .val (.long st), .second, .val (.int stp), .val (.long exc), .second, .val (.int sel), .val (.long q), .second, .val (.ref a2), .val (.int (1 : Int32)), .val (.int (1 : Int32)), .val (.long q), .second, .val (.long arr), .second, .val (.long (st + q)), .second, .val (.long (st + o2)), .second, .val (.long (st + q)), .second, .val (.int (0 : Int32)), .val (.long (st + q)), .second, .val (.long ((st + q) + q)), .second] [(.int (1 : Int32))])) _
        exact retN X9 hx (t := .boolean) Bd.returns (by simp) (hb hby at_233) hr
      · show QL n0 _ T9.heap _
        exact ⟨rfl, (Fr.app (Fr.app (Fr.app (Fr.app (Fr.app (Fr.app N0 N1) N3) N4) N5) N8) N9)⟩
  · obtain ⟨arr, harr⟩ : ∃ v, st + o2 + exc = v := ⟨_, rfl⟩
    by_cases hc : (o2).toInt < (arr - st).toInt
    · obtain ⟨_, _, ⟨T1, L1, k1, n1⟩, -, X1, ⟨Lc1, hQ1, l1, y1, z1⟩, st1⟩ := Jvm.LawKit.callS X0 hx (y := (⟨"com/example/earnest_load/earnestload/run/ScheduleNextFromPinLaw", "period", "(I)J"⟩ : MethodName)) hown (mvT hZ (hw _ (List.mem_of_getElem? (i := 0) rfl))) (mvT hZ (hw _ (List.mem_of_getElem? (i := 1) rfl))) (mvT hZ (hw _ (List.mem_of_getElem? (i := 2) rfl))) (mvT hZ (hw _ (List.mem_of_getElem? (i := 3) rfl))) (by decide) (backOf (W := 0) (rmPer l Z a0 hw [] sel h0 n0 Z0 q rr htri) hZ (hw _ (List.mem_of_getElem? (i := 3) rfl)) (hw _ (List.mem_of_getElem? (i := 2) rfl)) (by decide) (by decide)) (g := (mkF m 8 #[.val (.int xs), .val (.long st), .second, .val (.int stp), .val (.long exc), .second, .val (.int sel), .unset, .unset, .unset, .unset, .unset, .unset, .unset, .unset, .unset, .unset, .unset, .unset, .unset, .unset, .unset, .unset, .unset, .unset, .unset, .unset] [(.int sel)])) rfl (by rw [hml]; rfl) (argsL := [(.int sel)]) (rest := []) (lenOf pd_2 rfl) rfl (by show 2 * 0 + _ ≤ _; exact Nat.le_of_eq rfl) (hb hby at_8) (fun _ _ => ⟨rfl, e0, (by decide : 0 + 0 ≤ _), (by decide : 0 + 0 ≤ _)⟩)
      dsimp only [Pt.U, Pt.locs, Pt.cells, Pt.slots] at X1 l1 y1 z1 st1 hQ1
      subst l1 y1 z1
      obtain ⟨rfl, N1, e1⟩ := hQ1
      obtain ⟨T2, h2, X2, e2, E2, A2, D2, -, st2⟩ := newO X1 hx hZ hown (hw _ (List.mem_of_getElem? (i := 5) rfl)) (hw _ (List.mem_of_getElem? (i := 6) rfl)) (hw _ (List.mem_of_getElem? (i := 7) rfl)) e1 (g := (mkF m 13 #[.val (.int xs), .val (.long st), .second, .val (.int stp), .val (.long exc), .second, .val (.int sel), .val (.long q), .second, .unset, .unset, .unset, .unset, .unset, .unset, .unset, .unset, .unset, .unset, .unset, .unset, .unset, .unset, .unset, .unset, .unset, .unset] [])) rfl (hb hby at_13) (by decide) (by decide)
      obtain ⟨a2, g2⟩ : ∃ z, z = h0.size := ⟨_, rfl⟩
      rw [← g2] at A2 D2 st2
      have D_start := D2 (Or.inl (hw _ (List.mem_of_getElem? (i := 20) rfl))) (ty := .long) (by decide)
      have D_count := D2 (Or.inl (hw _ (List.mem_of_getElem? (i := 27) rfl))) (ty := .long) (by decide)
      have D_rate := D2 (Or.inr (hw _ (List.mem_of_getElem? (i := 18) rfl))) (ty := .double) (by decide)
      have Z2 : n0 ≤ h2.size := Nat.le_trans Z0 E2.1
      have ga : n0 ≤ a2 := Nat.le_trans Z0 (Nat.le_of_eq g2.symm)
      obtain ⟨_, _, ⟨T3, L3, k3, n3⟩, -, X3, ⟨Lc3, hQ3, l3, y3, z3⟩, st3⟩ := Jvm.LawKit.callS X2 hx (y := (⟨"com/example/earnest_load/earnestload/run/ScheduleNextFromPinLaw", "rate", "(I)I"⟩ : MethodName)) hown (mvT hZ (hw _ (List.mem_of_getElem? (i := 8) rfl))) (mvT hZ (hw _ (List.mem_of_getElem? (i := 9) rfl))) (mvT hZ (hw _ (List.mem_of_getElem? (i := 2) rfl))) (mvT hZ (hw _ (List.mem_of_getElem? (i := 10) rfl))) (by decide) (backOf (W := 2) (rmRate l Z a0 hw [] sel h2 n0 Z2 q rr htri) hZ (hw _ (List.mem_of_getElem? (i := 10) rfl)) (hw _ (List.mem_of_getElem? (i := 2) rfl)) (by decide) (by decide)) (g := (mkF m 19 #[.val (.int xs), .val (.long st), .second, .val (.int stp), .val (.long exc), .second, .val (.int sel), .val (.long q), .second, .unset, .unset, .unset, .unset, .unset, .unset, .unset, .unset, .unset, .unset, .unset, .unset, .unset, .unset, .unset, .unset, .unset, .unset] [(.int sel), (.ref a2), (.ref a2)])) rfl (by rw [hml]; rfl) (argsL := [(.int sel)]) (rest := [(.ref a2), (.ref a2)]) (lenOf pd_3 rfl) rfl (by show 2 * 0 + _ ≤ _; exact Nat.le_of_eq rfl) (hb hby at_19) (fun _ _ => ⟨rfl, e2, (by decide : 1 + 0 ≤ _), (by decide : 3 + 0 ≤ _)⟩)
      dsimp only [Pt.U, Pt.locs, Pt.cells, Pt.slots] at X3 l3 y3 z3 st3 hQ3
      subst l3 y3 z3
      obtain ⟨rfl, N3, e3⟩ := hQ3
      obtain ⟨_, _, ⟨T4, L4, k4, n4⟩, -, X4, ⟨Lc4, hQ4, l4, y4, z4⟩, st4⟩ := X3.specialBack hx (y := (⟨"com/example/earnest_load/earnestload/run/Schedule", "<init>", "(DJ)V"⟩ : MethodName)) rfl hown (mvT hZ (hw _ (List.mem_of_getElem? (i := 11) rfl))) (mvT hZ (hw _ (List.mem_of_getElem? (i := 12) rfl))) (mvT hZ (hw _ (List.mem_of_getElem? (i := 13) rfl))) (by decide) (backOf (W := 1) (rmInit l Z a0 hw [] a2 (FP.i2d rr) st h2 n0 Z2 A2 ga D_start D_count D_rate) hZ (hw _ (List.mem_of_getElem? (i := 13) rfl)) (hw _ (List.mem_of_getElem? (i := 7) rfl)) (by decide) (by decide)) (g := (mkF m 24 #[.val (.int xs), .val (.long st), .second, .val (.int stp), .val (.long exc), .second, .val (.int sel), .val (.long q), .second, .unset, .unset, .unset, .unset, .unset, .unset, .unset, .unset, .unset, .unset, .unset, .unset, .unset, .unset, .unset, .unset, .unset, .unset] [(.long st), (.double (FP.i2d rr)), (.ref a2), (.ref a2)])) rfl (by rw [hml]; rfl) (Steps.refl _) (a := a2) (argsL := [(.double (FP.i2d rr)), (.long st)]) (rest := [(.ref a2)]) (lenOf pd_4 rfl) rfl (by show 2 * 0 + _ ≤ _; exact Nat.le_of_eq rfl) (hb hby at_24) (fun _ _ => ⟨rfl, e3, (by decide : 1 + 0 ≤ _), (by decide : 3 + 0 ≤ _)⟩)
      dsimp only [Pt.U, Pt.locs, Pt.cells, Pt.slots] at X4 l4 y4 z4 st4 hQ4
      subst l4 y4 z4
      obtain ⟨rfl, N4, K4, E4, Fs4, Fc4, Fr4⟩ := hQ4
      have Z4 : n0 ≤ T4.heap.size := Nat.le_trans Z2 K4.1
      obtain ⟨cq5, kq5, q5a, q5b, q5c⟩ := isOf hZ rfl E4
      obtain ⟨_, _, ⟨T5, L5, k5, n5⟩, -, X5, ⟨Lc5, hQ5, l5, y5, z5⟩, st5⟩ := X4.virtualBack hx (y := (⟨"com/example/earnest_load/earnestload/run/Schedule", "next", "()J"⟩ : MethodName)) (z := (⟨"com/example/earnest_load/earnestload/run/Schedule", "next", "()J"⟩ : MethodName)) hown (mvT hZ (hw _ (List.mem_of_getElem? (i := 21) rfl))) (mvT hZ (hw _ (List.mem_of_getElem? (i := 22) rfl))) (notFace_of_selects (args := #[]) (mvT hZ (hw _ (List.mem_of_getElem? (i := 24) rfl)))) (mvT hZ (hw _ (List.mem_of_getElem? (i := 24) rfl))) (mvT hZ (hw _ (List.mem_of_getElem? (i := 23) rfl))) (by decide) (backOf (W := 0) (rmNext l Z a0 hw [] a2 T4.heap n0 Z4 st (0 : Int64) (0 : Int64) (FP.i2d rr) Fs4 Fc4 Fr4 E4 ga p0.1 p0.2.1 p0.2.2) hZ (hw _ (List.mem_of_getElem? (i := 25) rfl)) (hw _ (List.mem_of_getElem? (i := 7) rfl)) (by decide) (by decide)) q5a q5c (g := (mkF m 49 #[.val (.int xs), .val (.long st), .second, .val (.int stp), .val (.long exc), .second, .val (.int sel), .val (.long q), .second, .val (.ref a2), .val (.int (2 : Int32)), .val (.int (1 : Int32)), .unset, .unset, .unset, .unset, .unset, .unset, .unset, .unset, .unset, .unset, .unset, .unset, .unset, .unset, .unset] [(.ref a2)])) rfl (by rw [hml]; rfl) (Steps.refl _) (argsL := []) (rest := []) (lenOf pd_1 rfl) rfl (by show 2 * 0 + _ ≤ _; exact Nat.le_of_eq rfl) (hb hby at_49) (fun _ _ => ⟨rfl, rfl, (by decide : 1 + 0 ≤ _), (by decide : 3 + 0 ≤ _)⟩)
      dsimp only [Pt.U, Pt.locs, Pt.cells, Pt.slots] at X5 l5 y5 z5 st5 hQ5
      subst l5 y5 z5
      obtain ⟨rfl, N5, K5, E5, Fs5, Fc5, Fr5⟩ := hQ5
      have Z5 : n0 ≤ T5.heap.size := Nat.le_trans Z4 K5.1
      obtain ⟨cq6, kq6, q6a, q6b, q6c⟩ := isOf hZ rfl E5
      obtain ⟨_, _, ⟨T6, L6, k6, n6⟩, -, X6, ⟨Lc6, hQ6, l6, y6, z6⟩, st6⟩ := X5.virtualBack hx (y := (⟨"com/example/earnest_load/earnestload/run/Schedule", "next", "()J"⟩ : MethodName)) (z := (⟨"com/example/earnest_load/earnestload/run/Schedule", "next", "()J"⟩ : MethodName)) hown (mvT hZ (hw _ (List.mem_of_getElem? (i := 21) rfl))) (mvT hZ (hw _ (List.mem_of_getElem? (i := 22) rfl))) (notFace_of_selects (args := #[]) (mvT hZ (hw _ (List.mem_of_getElem? (i := 24) rfl)))) (mvT hZ (hw _ (List.mem_of_getElem? (i := 24) rfl))) (mvT hZ (hw _ (List.mem_of_getElem? (i := 23) rfl))) (by decide) (backOf (W := 0) (rmNext l Z a0 hw [] a2 T5.heap n0 Z5 st (0 + (1 : Int64)) q (FP.i2d rr) Fs5 Fc5 Fr5 E5 ga p1.1 p1.2.1 p1.2.2) hZ (hw _ (List.mem_of_getElem? (i := 25) rfl)) (hw _ (List.mem_of_getElem? (i := 7) rfl)) (by decide) (by decide)) q6a q6c (g := (mkF m 77 #[.val (.int xs), .val (.long st), .second, .val (.int stp), .val (.long exc), .second, .val (.int sel), .val (.long q), .second, .val (.ref a2), .val (.int (2 : Int32)), .val (.int (1 : Int32)), .unset, .unset, .unset, .unset, .unset, .unset, .unset, .unset, .unset, .unset, .unset, .unset, .unset, .unset, .unset] [(.ref a2)])) rfl (by rw [hml]; rfl) (Steps.refl _) (argsL := []) (rest := []) (lenOf pd_1 rfl) rfl (by show 2 * 0 + _ ≤ _; exact Nat.le_of_eq rfl) (hb hby at_77) (fun _ _ => ⟨rfl, rfl, (by decide : 1 + 0 ≤ _), (by decide : 3 + 0 ≤ _)⟩)
      dsimp only [Pt.U, Pt.locs, Pt.cells, Pt.slots] at X6 l6 y6 z6 st6 hQ6
      subst l6 y6 z6
      obtain ⟨rfl, N6, K6, E6, Fs6, Fc6, Fr6⟩ := hQ6
      have Z6 : n0 ≤ T6.heap.size := Nat.le_trans Z5 K6.1
      obtain ⟨cq8, kq8, q8a, q8b, q8c⟩ := isOf hZ rfl E6
      obtain ⟨_, _, ⟨T8, L8, k8, n8⟩, -, X8, ⟨Lc8, hQ8, l8, y8, z8⟩, st8⟩ := X6.virtualBack hx (y := (⟨"com/example/earnest_load/earnestload/run/Schedule", "nextFrom", "(J)J"⟩ : MethodName)) (z := (⟨"com/example/earnest_load/earnestload/run/Schedule", "nextFrom", "(J)J"⟩ : MethodName)) hown (mvT hZ (hw _ (List.mem_of_getElem? (i := 33) rfl))) (mvT hZ (hw _ (List.mem_of_getElem? (i := 34) rfl))) (notFace_of_selects (args := #[]) (mvT hZ (hw _ (List.mem_of_getElem? (i := 36) rfl)))) (mvT hZ (hw _ (List.mem_of_getElem? (i := 36) rfl))) (mvT hZ (hw _ (List.mem_of_getElem? (i := 35) rfl))) (by decide) (backOf (W := 0) (rmFromL l Z a0 hw [] a2 arr T6.heap n0 Z6 st (0 + (1 : Int64) + (1 : Int64)) o2 (FP.i2d rr) Fs6 Fc6 Fr6 E6 ga p2.1 p2.2.1 p2.2.2 p0.1 p0.2.1 p0.2.2 hc) hZ (hw _ (List.mem_of_getElem? (i := 37) rfl)) (hw _ (List.mem_of_getElem? (i := 7) rfl)) (by decide) (by decide)) q8a q8c (g := (mkF m 151 #[.val (.int xs), .val (.long st), .second, .val (.int stp), .val (.long exc), .second, .val (.int sel), .val (.long q), .second, .val (.ref a2), .val (.int (2 : Int32)), .val (.int (1 : Int32)), .val (.long o2), .second, .val (.long arr), .second, .unset, .unset, .unset, .unset, .unset, .unset, .unset, .unset, .unset, .unset, .unset] [(.long arr), (.ref a2)])) rfl (by rw [hml]; rfl) (Steps.refl _) (argsL := [(.long arr)]) (rest := []) (lenOf pd_0 rfl) rfl (by show 2 * 0 + _ ≤ _; exact Nat.le_of_eq rfl) (hb hby at_151) (fun _ _ => ⟨rfl, rfl, (by decide : 1 + 0 ≤ _), (by decide : 3 + 0 ≤ _)⟩)
      dsimp only [Pt.U, Pt.locs, Pt.cells, Pt.slots] at X8 l8 y8 z8 st8 hQ8
      subst l8 y8 z8
      obtain ⟨rfl, N8, K8, E8, Fs8, Fc8, Fr8⟩ := hQ8
      have Z8 : n0 ≤ T8.heap.size := Nat.le_trans Z6 K8.1
      obtain ⟨cq9, kq9, q9a, q9b, q9c⟩ := isOf hZ rfl E8
      obtain ⟨_, _, ⟨T9, L9, k9, n9⟩, -, X9, ⟨Lc9, hQ9, l9, y9, z9⟩, st9⟩ := X8.virtualBack hx (y := (⟨"com/example/earnest_load/earnestload/run/Schedule", "next", "()J"⟩ : MethodName)) (z := (⟨"com/example/earnest_load/earnestload/run/Schedule", "next", "()J"⟩ : MethodName)) hown (mvT hZ (hw _ (List.mem_of_getElem? (i := 21) rfl))) (mvT hZ (hw _ (List.mem_of_getElem? (i := 22) rfl))) (notFace_of_selects (args := #[]) (mvT hZ (hw _ (List.mem_of_getElem? (i := 24) rfl)))) (mvT hZ (hw _ (List.mem_of_getElem? (i := 24) rfl))) (mvT hZ (hw _ (List.mem_of_getElem? (i := 23) rfl))) (by decide) (backOf (W := 0) (rmNext l Z a0 hw [] a2 T8.heap n0 Z8 arr (0 + (1 : Int64)) q (FP.i2d rr) Fs8 Fc8 Fr8 E8 ga p1.1 p1.2.1 p1.2.2) hZ (hw _ (List.mem_of_getElem? (i := 25) rfl)) (hw _ (List.mem_of_getElem? (i := 7) rfl)) (by decide) (by decide)) q9a q9c (g := (mkF m 158 #[.val (.int xs), .val (.long st), .second, .val (.int stp), .val (.long exc), .second, .val (.int sel), .val (.long q), .second, .val (.ref a2), .val (.int (2 : Int32)), .val (.int (1 : Int32)), .val (.long o2), .second, .val (.long arr), .second, .val (.long (arr + 0)), .second, .unset, .unset, .unset, .unset, .unset, .unset, .unset, .unset, .unset] [(.ref a2)])) rfl (by rw [hml]; rfl) (Steps.refl _) (argsL := []) (rest := []) (lenOf pd_1 rfl) rfl (by show 2 * 0 + _ ≤ _; exact Nat.le_of_eq rfl) (hb hby at_158) (fun _ _ => ⟨rfl, rfl, (by decide : 1 + 0 ≤ _), (by decide : 3 + 0 ≤ _)⟩)
      dsimp only [Pt.U, Pt.locs, Pt.cells, Pt.slots] at X9 l9 y9 z9 st9 hQ9
      subst l9 y9 z9
      obtain ⟨rfl, N9, K9, E9, Fs9, Fc9, Fr9⟩ := hQ9
      obtain ⟨fs, hr, hrun, hended, hW, hsame⟩ := X9.leave (v := some (.int (1 : Int32))) (fun h => by rw [Bd.returns] at h; cases h)
      refine ⟨_, _, pre0 _ ?_, hrun, hended, _, _, rfl, ?_, ⟨_, rfl⟩, hW, hsame.mono (by decide) (by decide)⟩
      · show Steps p.tables e below (s₁.setTop (mkF m 0 #[.val (.int xs), .val (.long st), .second, .val (.int stp), .val (.long exc), .second, .unset, .unset, .unset, .unset, .unset, .unset, .unset, .unset, .unset, .unset, .unset, .unset, .unset, .unset, .unset, .unset, .unset, .unset, .unset, .unset, .unset] [])) _
        refine XS.iloadN X0.here hx rfl (hb hby at_0) rfl ?_
        show Steps p.tables e below (s₁.setTop (mkF m 1 #[.val (.int xs), .val (.long st), .second, .val (.int stp), .val (.long exc), .second, .unset, .unset, .unset, .unset, .unset, .unset, .unset, .unset, .unset, .unset, .unset, .unset, .unset, .unset, .unset, .unset, .unset, .unset, .unset, .unset, .unset] [(.int xs)])) _
        refine XS.bipush X0.here hx rfl (hb hby at_1) ?_
        show Steps p.tables e below (s₁.setTop (mkF m 3 #[.val (.int xs), .val (.long st), .second, .val (.int stp), .val (.long exc), .second, .unset, .unset, .unset, .unset, .unset, .unset, .unset, .unset, .unset, .unset, .unset, .unset, .unset, .unset, .unset, .unset, .unset, .unset, .unset, .unset, .unset] [(.int (7 : Int32)), (.int xs)])) _
        refine XS.iand X0.here hx rfl (hb hby at_3) rfl ?_
        rw [hsel]
        show Steps p.tables e below (s₁.setTop (mkF m 4 #[.val (.int xs), .val (.long st), .second, .val (.int stp), .val (.long exc), .second, .unset, .unset, .unset, .unset, .unset, .unset, .unset, .unset, .unset, .unset, .unset, .unset, .unset, .unset, .unset, .unset, .unset, .unset, .unset, .unset, .unset] [(.int sel)])) _
        refine XS.istore X0.here hx rfl (hb hby at_4) rfl (l' := #[.val (.int xs), .val (.long st), .second, .val (.int stp), .val (.long exc), .second, .val (.int sel), .unset, .unset, .unset, .unset, .unset, .unset, .unset, .unset, .unset, .unset, .unset, .unset, .unset, .unset, .unset, .unset, .unset, .unset, .unset, .unset]) rfl ?_
        show Steps p.tables e below (s₁.setTop (mkF m 6 #[.val (.int xs), .val (.long st), .second, .val (.int stp), .val (.long exc), .second, .val (.int sel), .unset, .unset, .unset, .unset, .unset, .unset, .unset, .unset, .unset, .unset, .unset, .unset, .unset, .unset, .unset, .unset, .unset, .unset, .unset, .unset] [])) _
        refine XS.iload X0.here hx rfl (hb hby at_6) rfl ?_
        show Steps p.tables e below (s₁.setTop (mkF m 8 #[.val (.int xs), .val (.long st), .second, .val (.int stp), .val (.long exc), .second, .val (.int sel), .unset, .unset, .unset, .unset, .unset, .unset, .unset, .unset, .unset, .unset, .unset, .unset, .unset, .unset, .unset, .unset, .unset, .unset, .unset, .unset] [(.int sel)])) _
        refine st1 _ ?_
        show Steps p.tables e below (T1.setTop (mkF m 11 #[.val (.int xs), .val (.long st), .second, .val (.int stp), .val (.long exc), .second, .val (.int sel), .unset, .unset, .unset, .unset, .unset, .unset, .unset, .unset, .unset, .unset, .unset, .unset, .unset, .unset, .unset, .unset, .unset, .unset, .unset, .unset] [(.long q)])) _
        refine XS.lstore X1.here hx rfl (hb hby at_11) rfl (l' := #[.val (.int xs), .val (.long st), .second, .val (.int stp), .val (.long exc), .second, .val (.int sel), .val (.long q), .second, .unset, .unset, .unset, .unset, .unset, .unset, .unset, .unset, .unset, .unset, .unset, .unset, .unset, .unset, .unset, .unset, .unset, .unset]) rfl ?_
        show Steps p.tables e below (T1.setTop (mkF m 13 #[.val (.int xs), .val (.long st), .second, .val (.int stp), .val (.long exc), .second, .val (.int sel), .val (.long q), .second, .unset, .unset, .unset, .unset, .unset, .unset, .unset, .unset, .unset, .unset, .unset, .unset, .unset, .unset, .unset, .unset, .unset, .unset] [])) _
        refine st2 _ ?_
        show Steps p.tables e below (T2.setTop (mkF m 16 #[.val (.int xs), .val (.long st), .second, .val (.int stp), .val (.long exc), .second, .val (.int sel), .val (.long q), .second, .unset, .unset, .unset, .unset, .unset, .unset, .unset, .unset, .unset, .unset, .unset, .unset, .unset, .unset, .unset, .unset, .unset, .unset] [(.ref a2)])) _
        refine XS.dup X2.here hx rfl (hb hby at_16) rfl rfl ?_
        show Steps p.tables e below (T2.setTop (mkF m 17 #[.val (.int xs), .val (.long st), .second, .val (.int stp), .val (.long exc), .second, .val (.int sel), .val (.long q), .second, .unset, .unset, .unset, .unset, .unset, .unset, .unset, .unset, .unset, .unset, .unset, .unset, .unset, .unset, .unset, .unset, .unset, .unset] [(.ref a2), (.ref a2)])) _
        refine XS.iload X2.here hx rfl (hb hby at_17) rfl ?_
        show Steps p.tables e below (T2.setTop (mkF m 19 #[.val (.int xs), .val (.long st), .second, .val (.int stp), .val (.long exc), .second, .val (.int sel), .val (.long q), .second, .unset, .unset, .unset, .unset, .unset, .unset, .unset, .unset, .unset, .unset, .unset, .unset, .unset, .unset, .unset, .unset, .unset, .unset] [(.int sel), (.ref a2), (.ref a2)])) _
        refine st3 _ ?_
        show Steps p.tables e below (T3.setTop (mkF m 22 #[.val (.int xs), .val (.long st), .second, .val (.int stp), .val (.long exc), .second, .val (.int sel), .val (.long q), .second, .unset, .unset, .unset, .unset, .unset, .unset, .unset, .unset, .unset, .unset, .unset, .unset, .unset, .unset, .unset, .unset, .unset, .unset] [(.int rr), (.ref a2), (.ref a2)])) _
        refine XS.i2dS X3.here hx rfl (hb hby at_22) rfl (v := FP.i2d rr) rfl ?_
        show Steps p.tables e below (T3.setTop (mkF m 23 #[.val (.int xs), .val (.long st), .second, .val (.int stp), .val (.long exc), .second, .val (.int sel), .val (.long q), .second, .unset, .unset, .unset, .unset, .unset, .unset, .unset, .unset, .unset, .unset, .unset, .unset, .unset, .unset, .unset, .unset, .unset, .unset] [(.double (FP.i2d rr)), (.ref a2), (.ref a2)])) _
        refine XS.lloadN X3.here hx rfl (hb hby at_23) rfl ?_
        show Steps p.tables e below (T3.setTop (mkF m 24 #[.val (.int xs), .val (.long st), .second, .val (.int stp), .val (.long exc), .second, .val (.int sel), .val (.long q), .second, .unset, .unset, .unset, .unset, .unset, .unset, .unset, .unset, .unset, .unset, .unset, .unset, .unset, .unset, .unset, .unset, .unset, .unset] [(.long st), (.double (FP.i2d rr)), (.ref a2), (.ref a2)])) _
        refine st4.trans ?_
        show Steps p.tables e below (T4.setTop (mkF m 27 #[.val (.int xs), .val (.long st), .second, .val (.int stp), .val (.long exc), .second, .val (.int sel), .val (.long q), .second, .unset, .unset, .unset, .unset, .unset, .unset, .unset, .unset, .unset, .unset, .unset, .unset, .unset, .unset, .unset, .unset, .unset, .unset] [(.ref a2)])) _
        refine XS.astore X4.here hx rfl (hb hby at_27) rfl rfl (l' := #[.val (.int xs), .val (.long st), .second, .val (.int stp), .val (.long exc), .second, .val (.int sel), .val (.long q), .second, .val (.ref a2), .unset, .unset, .unset, .unset, .unset, .unset, .unset, .unset, .unset, .unset, .unset, .unset, .unset, .unset, .unset, .unset, .unset]) rfl ?_
        show Steps p.tables e below (T4.setTop (mkF m 29 #[.val (.int xs), .val (.long st), .second, .val (.int stp), .val (.long exc), .second, .val (.int sel), .val (.long q), .second, .val (.ref a2), .unset, .unset, .unset, .unset, .unset, .unset, .unset, .unset, .unset, .unset, .unset, .unset, .unset, .unset, .unset, .unset, .unset] [])) _
        refine XS.iloadN X4.here hx rfl (hb hby at_29) rfl ?_
        show Steps p.tables e below (T4.setTop (mkF m 30 #[.val (.int xs), .val (.long st), .second, .val (.int stp), .val (.long exc), .second, .val (.int sel), .val (.long q), .second, .val (.ref a2), .unset, .unset, .unset, .unset, .unset, .unset, .unset, .unset, .unset, .unset, .unset, .unset, .unset, .unset, .unset, .unset, .unset] [(.int stp)])) _
        refine XS.iconst X4.here hx rfl (hb hby at_30) ?_
        show Steps p.tables e below (T4.setTop (mkF m 31 #[.val (.int xs), .val (.long st), .second, .val (.int stp), .val (.long exc), .second, .val (.int sel), .val (.long q), .second, .val (.ref a2), .unset, .unset, .unset, .unset, .unset, .unset, .unset, .unset, .unset, .unset, .unset, .unset, .unset, .unset, .unset, .unset, .unset] [(.int (3 : Int32)), (.int stp)])) _
        refine XS.iand X4.here hx rfl (hb hby at_31) rfl ?_
        rw [hkk]
        show Steps p.tables e below (T4.setTop (mkF m 32 #[.val (.int xs), .val (.long st), .second, .val (.int stp), .val (.long exc), .second, .val (.int sel), .val (.long q), .second, .val (.ref a2), .unset, .unset, .unset, .unset, .unset, .unset, .unset, .unset, .unset, .unset, .unset, .unset, .unset, .unset, .unset, .unset, .unset] [(.int (2 : Int32))])) _
        refine XS.istore X4.here hx rfl (hb hby at_32) rfl (l' := #[.val (.int xs), .val (.long st), .second, .val (.int stp), .val (.long exc), .second, .val (.int sel), .val (.long q), .second, .val (.ref a2), .val (.int (2 : Int32)), .unset, .unset, .unset, .unset, .unset, .unset, .unset, .unset, .unset, .unset, .unset, .unset, .unset, .unset, .unset, .unset]) rfl ?_
        show Steps p.tables e below (T4.setTop (mkF m 34 #[.val (.int xs), .val (.long st), .second, .val (.int stp), .val (.long exc), .second, .val (.int sel), .val (.long q), .second, .val (.ref a2), .val (.int (2 : Int32)), .unset, .unset, .unset, .unset, .unset, .unset, .unset, .unset, .unset, .unset, .unset, .unset, .unset, .unset, .unset, .unset] [])) _
        refine XS.iconst X4.here hx rfl (hb hby at_34) ?_
        show Steps p.tables e below (T4.setTop (mkF m 35 #[.val (.int xs), .val (.long st), .second, .val (.int stp), .val (.long exc), .second, .val (.int sel), .val (.long q), .second, .val (.ref a2), .val (.int (2 : Int32)), .unset, .unset, .unset, .unset, .unset, .unset, .unset, .unset, .unset, .unset, .unset, .unset, .unset, .unset, .unset, .unset] [(.int (1 : Int32))])) _
        refine XS.istore X4.here hx rfl (hb hby at_35) rfl (l' := #[.val (.int xs), .val (.long st), .second, .val (.int stp), .val (.long exc), .second, .val (.int sel), .val (.long q), .second, .val (.ref a2), .val (.int (2 : Int32)), .val (.int (1 : Int32)), .unset, .unset, .unset, .unset, .unset, .unset, .unset, .unset, .unset, .unset, .unset, .unset, .unset, .unset, .unset]) rfl ?_
        show Steps p.tables e below (T4.setTop (mkF m 37 #[.val (.int xs), .val (.long st), .second, .val (.int stp), .val (.long exc), .second, .val (.int sel), .val (.long q), .second, .val (.ref a2), .val (.int (2 : Int32)), .val (.int (1 : Int32)), .unset, .unset, .unset, .unset, .unset, .unset, .unset, .unset, .unset, .unset, .unset, .unset, .unset, .unset, .unset] [])) _
        refine XS.iload X4.here hx rfl (hb hby at_37) rfl ?_
        show Steps p.tables e below (T4.setTop (mkF m 39 #[.val (.int xs), .val (.long st), .second, .val (.int stp), .val (.long exc), .second, .val (.int sel), .val (.long q), .second, .val (.ref a2), .val (.int (2 : Int32)), .val (.int (1 : Int32)), .unset, .unset, .unset, .unset, .unset, .unset, .unset, .unset, .unset, .unset, .unset, .unset, .unset, .unset, .unset] [(.int (2 : Int32))])) _
        refine XS.ifNo X4.here hx rfl (hb hby at_39) rfl rfl ?_
        show Steps p.tables e below (T4.setTop (mkF m 42 #[.val (.int xs), .val (.long st), .second, .val (.int stp), .val (.long exc), .second, .val (.int sel), .val (.long q), .second, .val (.ref a2), .val (.int (2 : Int32)), .val (.int (1 : Int32)), .unset, .unset, .unset, .unset, .unset, .unset, .unset, .unset, .unset, .unset, .unset, .unset, .unset, .unset, .unset] [])) _
        refine XS.iload X4.here hx rfl (hb hby at_42) rfl ?_
        show Steps p.tables e below (T4.setTop (mkF m 44 #[.val (.int xs), .val (.long st), .second, .val (.int stp), .val (.long exc), .second, .val (.int sel), .val (.long q), .second, .val (.ref a2), .val (.int (2 : Int32)), .val (.int (1 : Int32)), .unset, .unset, .unset, .unset, .unset, .unset, .unset, .unset, .unset, .unset, .unset, .unset, .unset, .unset, .unset] [(.int (1 : Int32))])) _
        refine XS.ifNo X4.here hx rfl (hb hby at_44) rfl rfl ?_
        show Steps p.tables e below (T4.setTop (mkF m 47 #[.val (.int xs), .val (.long st), .second, .val (.int stp), .val (.long exc), .second, .val (.int sel), .val (.long q), .second, .val (.ref a2), .val (.int (2 : Int32)), .val (.int (1 : Int32)), .unset, .unset, .unset, .unset, .unset, .unset, .unset, .unset, .unset, .unset, .unset, .unset, .unset, .unset, .unset] [])) _
        refine XS.aload X4.here hx rfl (hb hby at_47) rfl rfl ?_
        show Steps p.tables e below (T4.setTop (mkF m 49 #[.val (.int xs), .val (.long st), .second, .val (.int stp), .val (.long exc), .second, .val (.int sel), .val (.long q), .second, .val (.ref a2), .val (.int (2 : Int32)), .val (.int (1 : Int32)), .unset, .unset, .unset, .unset, .unset, .unset, .unset, .unset, .unset, .unset, .unset, .unset, .unset, .unset, .unset] [(.ref a2)])) _
        refine st5.trans ?_
        show Steps p.tables e below (T5.setTop (mkF m 52 #[.val (.int xs), .val (.long st), .second, .val (.int stp), .val (.long exc), .second, .val (.int sel), .val (.long q), .second, .val (.ref a2), .val (.int (2 : Int32)), .val (.int (1 : Int32)), .unset, .unset, .unset, .unset, .unset, .unset, .unset, .unset, .unset, .unset, .unset, .unset, .unset, .unset, .unset] [(.long (st + (0 : Int64)))])) _
        refine XS.lloadN X5.here hx rfl (hb hby at_52) rfl ?_
        show Steps p.tables e below (T5.setTop (mkF m 53 #[.val (.int xs), .val (.long st), .second, .val (.int stp), .val (.long exc), .second, .val (.int sel), .val (.long q), .second, .val (.ref a2), .val (.int (2 : Int32)), .val (.int (1 : Int32)), .unset, .unset, .unset, .unset, .unset, .unset, .unset, .unset, .unset, .unset, .unset, .unset, .unset, .unset, .unset] [(.long st), (.long (st + (0 : Int64)))])) _
        refine XS.lcmp X5.here hx rfl (hb hby at_53) rfl ?_
        show Steps p.tables e below (T5.setTop (mkF m 54 #[.val (.int xs), .val (.long st), .second, .val (.int stp), .val (.long exc), .second, .val (.int sel), .val (.long q), .second, .val (.ref a2), .val (.int (2 : Int32)), .val (.int (1 : Int32)), .unset, .unset, .unset, .unset, .unset, .unset, .unset, .unset, .unset, .unset, .unset, .unset, .unset, .unset, .unset] [(.int (lcmpW (st + (0 : Int64)) st))])) _
        refine XS.ifNo X5.here hx rfl (hb hby at_54) rfl ((Jvm.Own.holdsL _ _ _).trans (Jvm.Own.dF (by rw [sz]; exact fun q => q rfl))) ?_
        show Steps p.tables e below (T5.setTop (mkF m 57 #[.val (.int xs), .val (.long st), .second, .val (.int stp), .val (.long exc), .second, .val (.int sel), .val (.long q), .second, .val (.ref a2), .val (.int (2 : Int32)), .val (.int (1 : Int32)), .unset, .unset, .unset, .unset, .unset, .unset, .unset, .unset, .unset, .unset, .unset, .unset, .unset, .unset, .unset] [])) _
        refine XS.iconst X5.here hx rfl (hb hby at_57) ?_
        show Steps p.tables e below (T5.setTop (mkF m 58 #[.val (.int xs), .val (.long st), .second, .val (.int stp), .val (.long exc), .second, .val (.int sel), .val (.long q), .second, .val (.ref a2), .val (.int (2 : Int32)), .val (.int (1 : Int32)), .unset, .unset, .unset, .unset, .unset, .unset, .unset, .unset, .unset, .unset, .unset, .unset, .unset, .unset, .unset] [(.int (1 : Int32))])) _
        refine XS.goto X5.here hx rfl (pc0 := 58) (pc' := 62) rfl (hb hby at_58) (by decide) (by decide) ?_
        show Steps p.tables e below (T5.setTop (mkF m 62 #[.val (.int xs), .val (.long st), .second, .val (.int stp), .val (.long exc), .second, .val (.int sel), .val (.long q), .second, .val (.ref a2), .val (.int (2 : Int32)), .val (.int (1 : Int32)), .unset, .unset, .unset, .unset, .unset, .unset, .unset, .unset, .unset, .unset, .unset, .unset, .unset, .unset, .unset] [(.int (1 : Int32))])) _
        refine XS.istore X5.here hx rfl (hb hby at_62) rfl (l' := #[.val (.int xs), .val (.long st), .second, .val (.int stp), .val (.long exc), .second, .val (.int sel), .val (.long q), .second, .val (.ref a2), .val (.int (2 : Int32)), .val (.int (1 : Int32)), .unset, .unset, .unset, .unset, .unset, .unset, .unset, .unset, .unset, .unset, .unset, .unset, .unset, .unset, .unset]) rfl ?_
        show Steps p.tables e below (T5.setTop (mkF m 64 #[.val (.int xs), .val (.long st), .second, .val (.int stp), .val (.long exc), .second, .val (.int sel), .val (.long q), .second, .val (.ref a2), .val (.int (2 : Int32)), .val (.int (1 : Int32)), .unset, .unset, .unset, .unset, .unset, .unset, .unset, .unset, .unset, .unset, .unset, .unset, .unset, .unset, .unset] [])) _
        refine XS.iload X5.here hx rfl (hb hby at_64) rfl ?_
        show Steps p.tables e below (T5.setTop (mkF m 66 #[.val (.int xs), .val (.long st), .second, .val (.int stp), .val (.long exc), .second, .val (.int sel), .val (.long q), .second, .val (.ref a2), .val (.int (2 : Int32)), .val (.int (1 : Int32)), .unset, .unset, .unset, .unset, .unset, .unset, .unset, .unset, .unset, .unset, .unset, .unset, .unset, .unset, .unset] [(.int (2 : Int32))])) _
        refine XS.iconst X5.here hx rfl (hb hby at_66) ?_
        show Steps p.tables e below (T5.setTop (mkF m 67 #[.val (.int xs), .val (.long st), .second, .val (.int stp), .val (.long exc), .second, .val (.int sel), .val (.long q), .second, .val (.ref a2), .val (.int (2 : Int32)), .val (.int (1 : Int32)), .unset, .unset, .unset, .unset, .unset, .unset, .unset, .unset, .unset, .unset, .unset, .unset, .unset, .unset, .unset] [(.int (1 : Int32)), (.int (2 : Int32))])) _
        refine XS.icmpNo X5.here hx rfl (hb hby at_67) rfl rfl ?_
        show Steps p.tables e below (T5.setTop (mkF m 70 #[.val (.int xs), .val (.long st), .second, .val (.int stp), .val (.long exc), .second, .val (.int sel), .val (.long q), .second, .val (.ref a2), .val (.int (2 : Int32)), .val (.int (1 : Int32)), .unset, .unset, .unset, .unset, .unset, .unset, .unset, .unset, .unset, .unset, .unset, .unset, .unset, .unset, .unset] [])) _
        refine XS.iload X5.here hx rfl (hb hby at_70) rfl ?_
        show Steps p.tables e below (T5.setTop (mkF m 72 #[.val (.int xs), .val (.long st), .second, .val (.int stp), .val (.long exc), .second, .val (.int sel), .val (.long q), .second, .val (.ref a2), .val (.int (2 : Int32)), .val (.int (1 : Int32)), .unset, .unset, .unset, .unset, .unset, .unset, .unset, .unset, .unset, .unset, .unset, .unset, .unset, .unset, .unset] [(.int (1 : Int32))])) _
        refine XS.ifNo X5.here hx rfl (hb hby at_72) rfl rfl ?_
        show Steps p.tables e below (T5.setTop (mkF m 75 #[.val (.int xs), .val (.long st), .second, .val (.int stp), .val (.long exc), .second, .val (.int sel), .val (.long q), .second, .val (.ref a2), .val (.int (2 : Int32)), .val (.int (1 : Int32)), .unset, .unset, .unset, .unset, .unset, .unset, .unset, .unset, .unset, .unset, .unset, .unset, .unset, .unset, .unset] [])) _
        refine XS.aload X5.here hx rfl (hb hby at_75) rfl rfl ?_
        show Steps p.tables e below (T5.setTop (mkF m 77 #[.val (.int xs), .val (.long st), .second, .val (.int stp), .val (.long exc), .second, .val (.int sel), .val (.long q), .second, .val (.ref a2), .val (.int (2 : Int32)), .val (.int (1 : Int32)), .unset, .unset, .unset, .unset, .unset, .unset, .unset, .unset, .unset, .unset, .unset, .unset, .unset, .unset, .unset] [(.ref a2)])) _
        refine st6.trans ?_
        show Steps p.tables e below (T6.setTop (mkF m 80 #[.val (.int xs), .val (.long st), .second, .val (.int stp), .val (.long exc), .second, .val (.int sel), .val (.long q), .second, .val (.ref a2), .val (.int (2 : Int32)), .val (.int (1 : Int32)), .unset, .unset, .unset, .unset, .unset, .unset, .unset, .unset, .unset, .unset, .unset, .unset, .unset, .unset, .unset] [(.long (st + q))])) _
        refine XS.lloadN X6.here hx rfl (hb hby at_80) rfl ?_
        show Steps p.tables e below (T6.setTop (mkF m 81 #[.val (.int xs), .val (.long st), .second, .val (.int stp), .val (.long exc), .second, .val (.int sel), .val (.long q), .second, .val (.ref a2), .val (.int (2 : Int32)), .val (.int (1 : Int32)), .unset, .unset, .unset, .unset, .unset, .unset, .unset, .unset, .unset, .unset, .unset, .unset, .unset, .unset, .unset] [(.long st), (.long (st + q))])) _
        refine XS.lload X6.here hx rfl (hb hby at_81) rfl ?_
        show Steps p.tables e below (T6.setTop (mkF m 83 #[.val (.int xs), .val (.long st), .second, .val (.int stp), .val (.long exc), .second, .val (.int sel), .val (.long q), .second, .val (.ref a2), .val (.int (2 : Int32)), .val (.int (1 : Int32)), .unset, .unset, .unset, .unset, .unset, .unset, .unset, .unset, .unset, .unset, .unset, .unset, .unset, .unset, .unset] [(.long q), (.long st), (.long (st + q))])) _
        refine XS.ladd X6.here hx rfl (hb hby at_83) rfl ?_
        show Steps p.tables e below (T6.setTop (mkF m 84 #[.val (.int xs), .val (.long st), .second, .val (.int stp), .val (.long exc), .second, .val (.int sel), .val (.long q), .second, .val (.ref a2), .val (.int (2 : Int32)), .val (.int (1 : Int32)), .unset, .unset, .unset, .unset, .unset, .unset, .unset, .unset, .unset, .unset, .unset, .unset, .unset, .unset, .unset] [(.long (st + q)), (.long (st + q))])) _
        refine XS.lcmp X6.here hx rfl (hb hby at_84) rfl ?_
        show Steps p.tables e below (T6.setTop (mkF m 85 #[.val (.int xs), .val (.long st), .second, .val (.int stp), .val (.long exc), .second, .val (.int sel), .val (.long q), .second, .val (.ref a2), .val (.int (2 : Int32)), .val (.int (1 : Int32)), .unset, .unset, .unset, .unset, .unset, .unset, .unset, .unset, .unset, .unset, .unset, .unset, .unset, .unset, .unset] [(.int (lcmpW (st + q) (st + q)))])) _
        refine XS.ifNo X6.here hx rfl (hb hby at_85) rfl ((Jvm.Own.holdsL _ _ _).trans (Jvm.Own.dF (fun q => q rfl))) ?_
        show Steps p.tables e below (T6.setTop (mkF m 88 #[.val (.int xs), .val (.long st), .second, .val (.int stp), .val (.long exc), .second, .val (.int sel), .val (.long q), .second, .val (.ref a2), .val (.int (2 : Int32)), .val (.int (1 : Int32)), .unset, .unset, .unset, .unset, .unset, .unset, .unset, .unset, .unset, .unset, .unset, .unset, .unset, .unset, .unset] [])) _
        refine XS.iconst X6.here hx rfl (hb hby at_88) ?_
        show Steps p.tables e below (T6.setTop (mkF m 89 #[.val (.int xs), .val (.long st), .second, .val (.int stp), .val (.long exc), .second, .val (.int sel), .val (.long q), .second, .val (.ref a2), .val (.int (2 : Int32)), .val (.int (1 : Int32)), .unset, .unset, .unset, .unset, .unset, .unset, .unset, .unset, .unset, .unset, .unset, .unset, .unset, .unset, .unset] [(.int (1 : Int32))])) _
        refine XS.goto X6.here hx rfl (pc0 := 89) (pc' := 93) rfl (hb hby at_89) (by decide) (by decide) ?_
        show Steps p.tables e below (T6.setTop (mkF m 93 #[.val (.int xs), .val (.long st), .second, .val (.int stp), .val (.long exc), .second, .val (.int sel), .val (.long q), .second, .val (.ref a2), .val (.int (2 : Int32)), .val (.int (1 : Int32)), .unset, .unset, .unset, .unset, .unset, .unset, .unset, .unset, .unset, .unset, .unset, .unset, .unset, .unset, .unset] [(.int (1 : Int32))])) _
        refine XS.istore X6.here hx rfl (hb hby at_93) rfl (l' := #[.val (.int xs), .val (.long st), .second, .val (.int stp), .val (.long exc), .second, .val (.int sel), .val (.long q), .second, .val (.ref a2), .val (.int (2 : Int32)), .val (.int (1 : Int32)), .unset, .unset, .unset, .unset, .unset, .unset, .unset, .unset, .unset, .unset, .unset, .unset, .unset, .unset, .unset]) rfl ?_
        show Steps p.tables e below (T6.setTop (mkF m 95 #[.val (.int xs), .val (.long st), .second, .val (.int stp), .val (.long exc), .second, .val (.int sel), .val (.long q), .second, .val (.ref a2), .val (.int (2 : Int32)), .val (.int (1 : Int32)), .unset, .unset, .unset, .unset, .unset, .unset, .unset, .unset, .unset, .unset, .unset, .unset, .unset, .unset, .unset] [])) _
        refine XS.iload X6.here hx rfl (hb hby at_95) rfl ?_
        show Steps p.tables e below (T6.setTop (mkF m 97 #[.val (.int xs), .val (.long st), .second, .val (.int stp), .val (.long exc), .second, .val (.int sel), .val (.long q), .second, .val (.ref a2), .val (.int (2 : Int32)), .val (.int (1 : Int32)), .unset, .unset, .unset, .unset, .unset, .unset, .unset, .unset, .unset, .unset, .unset, .unset, .unset, .unset, .unset] [(.int (2 : Int32))])) _
        refine XS.iconst X6.here hx rfl (hb hby at_97) ?_
        show Steps p.tables e below (T6.setTop (mkF m 98 #[.val (.int xs), .val (.long st), .second, .val (.int stp), .val (.long exc), .second, .val (.int sel), .val (.long q), .second, .val (.ref a2), .val (.int (2 : Int32)), .val (.int (1 : Int32)), .unset, .unset, .unset, .unset, .unset, .unset, .unset, .unset, .unset, .unset, .unset, .unset, .unset, .unset, .unset] [(.int (2 : Int32)), (.int (2 : Int32))])) _
        refine XS.icmpYes X6.here hx rfl (pc0 := 98) (pc' := 130) rfl (hb hby at_98) rfl rfl (by decide) (by decide) ?_
        show Steps p.tables e below (T6.setTop (mkF m 130 #[.val (.int xs), .val (.long st), .second, .val (.int stp), .val (.long exc), .second, .val (.int sel), .val (.long q), .second, .val (.ref a2), .val (.int (2 : Int32)), .val (.int (1 : Int32)), .unset, .unset, .unset, .unset, .unset, .unset, .unset, .unset, .unset, .unset, .unset, .unset, .unset, .unset, .unset] [])) _
        refine XS.iload X6.here hx rfl (hb hby at_130) rfl ?_
        show Steps p.tables e below (T6.setTop (mkF m 132 #[.val (.int xs), .val (.long st), .second, .val (.int stp), .val (.long exc), .second, .val (.int sel), .val (.long q), .second, .val (.ref a2), .val (.int (2 : Int32)), .val (.int (1 : Int32)), .unset, .unset, .unset, .unset, .unset, .unset, .unset, .unset, .unset, .unset, .unset, .unset, .unset, .unset, .unset] [(.int (2 : Int32))])) _
        refine XS.i2l X6.here hx rfl (hb hby at_132) rfl ?_
        show Steps p.tables e below (T6.setTop (mkF m 133 #[.val (.int xs), .val (.long st), .second, .val (.int stp), .val (.long exc), .second, .val (.int sel), .val (.long q), .second, .val (.ref a2), .val (.int (2 : Int32)), .val (.int (1 : Int32)), .unset, .unset, .unset, .unset, .unset, .unset, .unset, .unset, .unset, .unset, .unset, .unset, .unset, .unset, .unset] [(.long ((2 : Int32).toInt64))])) _
        refine XS.lload X6.here hx rfl (hb hby at_133) rfl ?_
        show Steps p.tables e below (T6.setTop (mkF m 135 #[.val (.int xs), .val (.long st), .second, .val (.int stp), .val (.long exc), .second, .val (.int sel), .val (.long q), .second, .val (.ref a2), .val (.int (2 : Int32)), .val (.int (1 : Int32)), .unset, .unset, .unset, .unset, .unset, .unset, .unset, .unset, .unset, .unset, .unset, .unset, .unset, .unset, .unset] [(.long q), (.long ((2 : Int32).toInt64))])) _
        refine XS.lmul X6.here hx rfl (hb hby at_135) rfl ?_
        rw [k2]
        show Steps p.tables e below (T6.setTop (mkF m 136 #[.val (.int xs), .val (.long st), .second, .val (.int stp), .val (.long exc), .second, .val (.int sel), .val (.long q), .second, .val (.ref a2), .val (.int (2 : Int32)), .val (.int (1 : Int32)), .unset, .unset, .unset, .unset, .unset, .unset, .unset, .unset, .unset, .unset, .unset, .unset, .unset, .unset, .unset] [(.long o2)])) _
        refine XS.lstore X6.here hx rfl (hb hby at_136) rfl (l' := #[.val (.int xs), .val (.long st), .second, .val (.int stp), .val (.long exc), .second, .val (.int sel), .val (.long q), .second, .val (.ref a2), .val (.int (2 : Int32)), .val (.int (1 : Int32)), .val (.long o2), .second, .unset, .unset, .unset, .unset, .unset, .unset, .unset, .unset, .unset, .unset, .unset, .unset, .unset]) rfl ?_
        show Steps p.tables e below (T6.setTop (mkF m 138 #[.val (.int xs), .val (.long st), .second, .val (.int stp), .val (.long exc), .second, .val (.int sel), .val (.long q), .second, .val (.ref a2), .val (.int (2 : Int32)), .val (.int (1 : Int32)), .val (.long o2), .second, .unset, .unset, .unset, .unset, .unset, .unset, .unset, .unset, .unset, .unset, .unset, .unset, .unset] [])) _
        refine XS.lloadN X6.here hx rfl (hb hby at_138) rfl ?_
        show Steps p.tables e below (T6.setTop (mkF m 139 #[.val (.int xs), .val (.long st), .second, .val (.int stp), .val (.long exc), .second, .val (.int sel), .val (.long q), .second, .val (.ref a2), .val (.int (2 : Int32)), .val (.int (1 : Int32)), .val (.long o2), .second, .unset, .unset, .unset, .unset, .unset, .unset, .unset, .unset, .unset, .unset, .unset, .unset, .unset] [(.long st)])) _
        refine XS.lload X6.here hx rfl (hb hby at_139) rfl ?_
        show Steps p.tables e below (T6.setTop (mkF m 141 #[.val (.int xs), .val (.long st), .second, .val (.int stp), .val (.long exc), .second, .val (.int sel), .val (.long q), .second, .val (.ref a2), .val (.int (2 : Int32)), .val (.int (1 : Int32)), .val (.long o2), .second, .unset, .unset, .unset, .unset, .unset, .unset, .unset, .unset, .unset, .unset, .unset, .unset, .unset] [(.long o2), (.long st)])) _
        refine XS.ladd X6.here hx rfl (hb hby at_141) rfl ?_
        show Steps p.tables e below (T6.setTop (mkF m 142 #[.val (.int xs), .val (.long st), .second, .val (.int stp), .val (.long exc), .second, .val (.int sel), .val (.long q), .second, .val (.ref a2), .val (.int (2 : Int32)), .val (.int (1 : Int32)), .val (.long o2), .second, .unset, .unset, .unset, .unset, .unset, .unset, .unset, .unset, .unset, .unset, .unset, .unset, .unset] [(.long (st + o2))])) _
        refine XS.lload X6.here hx rfl (hb hby at_142) rfl ?_
        show Steps p.tables e below (T6.setTop (mkF m 144 #[.val (.int xs), .val (.long st), .second, .val (.int stp), .val (.long exc), .second, .val (.int sel), .val (.long q), .second, .val (.ref a2), .val (.int (2 : Int32)), .val (.int (1 : Int32)), .val (.long o2), .second, .unset, .unset, .unset, .unset, .unset, .unset, .unset, .unset, .unset, .unset, .unset, .unset, .unset] [(.long exc), (.long (st + o2))])) _
        refine XS.ladd X6.here hx rfl (hb hby at_144) rfl ?_
        rw [harr]
        show Steps p.tables e below (T6.setTop (mkF m 145 #[.val (.int xs), .val (.long st), .second, .val (.int stp), .val (.long exc), .second, .val (.int sel), .val (.long q), .second, .val (.ref a2), .val (.int (2 : Int32)), .val (.int (1 : Int32)), .val (.long o2), .second, .unset, .unset, .unset, .unset, .unset, .unset, .unset, .unset, .unset, .unset, .unset, .unset, .unset] [(.long arr)])) _
        refine XS.lstore X6.here hx rfl (hb hby at_145) rfl (l' := #[.val (.int xs), .val (.long st), .second, .val (.int stp), .val (.long exc), .second, .val (.int sel), .val (.long q), .second, .val (.ref a2), .val (.int (2 : Int32)), .val (.int (1 : Int32)), .val (.long o2), .second, .val (.long arr), .second, .unset, .unset, .unset, .unset, .unset, .unset, .unset, .unset, .unset, .unset, .unset]) rfl ?_
        show Steps p.tables e below (T6.setTop (mkF m 147 #[.val (.int xs), .val (.long st), .second, .val (.int stp), .val (.long exc), .second, .val (.int sel), .val (.long q), .second, .val (.ref a2), .val (.int (2 : Int32)), .val (.int (1 : Int32)), .val (.long o2), .second, .val (.long arr), .second, .unset, .unset, .unset, .unset, .unset, .unset, .unset, .unset, .unset, .unset, .unset] [])) _
        refine XS.aload X6.here hx rfl (hb hby at_147) rfl rfl ?_
        show Steps p.tables e below (T6.setTop (mkF m 149 #[.val (.int xs), .val (.long st), .second, .val (.int stp), .val (.long exc), .second, .val (.int sel), .val (.long q), .second, .val (.ref a2), .val (.int (2 : Int32)), .val (.int (1 : Int32)), .val (.long o2), .second, .val (.long arr), .second, .unset, .unset, .unset, .unset, .unset, .unset, .unset, .unset, .unset, .unset, .unset] [(.ref a2)])) _
        refine XS.lload X6.here hx rfl (hb hby at_149) rfl ?_
        show Steps p.tables e below (T6.setTop (mkF m 151 #[.val (.int xs), .val (.long st), .second, .val (.int stp), .val (.long exc), .second, .val (.int sel), .val (.long q), .second, .val (.ref a2), .val (.int (2 : Int32)), .val (.int (1 : Int32)), .val (.long o2), .second, .val (.long arr), .second, .unset, .unset, .unset, .unset, .unset, .unset, .unset, .unset, .unset, .unset, .unset] [(.long arr), (.ref a2)])) _
        refine st8.trans ?_
        show Steps p.tables e below (T8.setTop (mkF m 154 #[.val (.int xs), .val (.long st), .second, .val (.int stp), .val (.long exc), .second, .val (.int sel), .val (.long q), .second, .val (.ref a2), .val (.int (2 : Int32)), .val (.int (1 : Int32)), .val (.long o2), .second, .val (.long arr), .second, .unset, .unset, .unset, .unset, .unset, .unset, .unset, .unset, .unset, .unset, .unset] [(.long (arr + 0))])) _
        refine XS.lstore X8.here hx rfl (hb hby at_154) rfl (l' := #[.val (.int xs), .val (.long st), .second, .val (.int stp), .val (.long exc), .second, .val (.int sel), .val (.long q), .second, .val (.ref a2), .val (.int (2 : Int32)), .val (.int (1 : Int32)), .val (.long o2), .second, .val (.long arr), .second, .val (.long (arr + 0)), .second, .unset, .unset, .unset, .unset, .unset, .unset, .unset, .unset, .unset]) rfl ?_
        show Steps p.tables e below (T8.setTop (mkF m 156 #[.val (.int xs), .val (.long st), .second, .val (.int stp), .val (.long exc), .second, .val (.int sel), .val (.long q), .second, .val (.ref a2), .val (.int (2 : Int32)), .val (.int (1 : Int32)), .val (.long o2), .second, .val (.long arr), .second, .val (.long (arr + 0)), .second, .unset, .unset, .unset, .unset, .unset, .unset, .unset, .unset, .unset] [])) _
        refine XS.aload X8.here hx rfl (hb hby at_156) rfl rfl ?_
        show Steps p.tables e below (T8.setTop (mkF m 158 #[.val (.int xs), .val (.long st), .second, .val (.int stp), .val (.long exc), .second, .val (.int sel), .val (.long q), .second, .val (.ref a2), .val (.int (2 : Int32)), .val (.int (1 : Int32)), .val (.long o2), .second, .val (.long arr), .second, .val (.long (arr + 0)), .second, .unset, .unset, .unset, .unset, .unset, .unset, .unset, .unset, .unset] [(.ref a2)])) _
        refine st9.trans ?_
        show Steps p.tables e below (T9.setTop (mkF m 161 #[.val (.int xs), .val (.long st), .second, .val (.int stp), .val (.long exc), .second, .val (.int sel), .val (.long q), .second, .val (.ref a2), .val (.int (2 : Int32)), .val (.int (1 : Int32)), .val (.long o2), .second, .val (.long arr), .second, .val (.long (arr + 0)), .second, .unset, .unset, .unset, .unset, .unset, .unset, .unset, .unset, .unset] [(.long (arr + q))])) _
        refine XS.lstore X9.here hx rfl (hb hby at_161) rfl (l' := #[.val (.int xs), .val (.long st), .second, .val (.int stp), .val (.long exc), .second, .val (.int sel), .val (.long q), .second, .val (.ref a2), .val (.int (2 : Int32)), .val (.int (1 : Int32)), .val (.long o2), .second, .val (.long arr), .second, .val (.long (arr + 0)), .second, .val (.long (arr + q)), .second, .unset, .unset, .unset, .unset, .unset, .unset, .unset]) rfl ?_
        show Steps p.tables e below (T9.setTop (mkF m 163 #[.val (.int xs), .val (.long st), .second, .val (.int stp), .val (.long exc), .second, .val (.int sel), .val (.long q), .second, .val (.ref a2), .val (.int (2 : Int32)), .val (.int (1 : Int32)), .val (.long o2), .second, .val (.long arr), .second, .val (.long (arr + 0)), .second, .val (.long (arr + q)), .second, .unset, .unset, .unset, .unset, .unset, .unset, .unset] [])) _
        refine XS.lloadN X9.here hx rfl (hb hby at_163) rfl ?_
        show Steps p.tables e below (T9.setTop (mkF m 164 #[.val (.int xs), .val (.long st), .second, .val (.int stp), .val (.long exc), .second, .val (.int sel), .val (.long q), .second, .val (.ref a2), .val (.int (2 : Int32)), .val (.int (1 : Int32)), .val (.long o2), .second, .val (.long arr), .second, .val (.long (arr + 0)), .second, .val (.long (arr + q)), .second, .unset, .unset, .unset, .unset, .unset, .unset, .unset] [(.long st)])) _
        refine XS.lload X9.here hx rfl (hb hby at_164) rfl ?_
        show Steps p.tables e below (T9.setTop (mkF m 166 #[.val (.int xs), .val (.long st), .second, .val (.int stp), .val (.long exc), .second, .val (.int sel), .val (.long q), .second, .val (.ref a2), .val (.int (2 : Int32)), .val (.int (1 : Int32)), .val (.long o2), .second, .val (.long arr), .second, .val (.long (arr + 0)), .second, .val (.long (arr + q)), .second, .unset, .unset, .unset, .unset, .unset, .unset, .unset] [(.long o2), (.long st)])) _
        refine XS.ladd X9.here hx rfl (hb hby at_166) rfl ?_
        show Steps p.tables e below (T9.setTop (mkF m 167 #[.val (.int xs), .val (.long st), .second, .val (.int stp), .val (.long exc), .second, .val (.int sel), .val (.long q), .second, .val (.ref a2), .val (.int (2 : Int32)), .val (.int (1 : Int32)), .val (.long o2), .second, .val (.long arr), .second, .val (.long (arr + 0)), .second, .val (.long (arr + q)), .second, .unset, .unset, .unset, .unset, .unset, .unset, .unset] [(.long (st + o2))])) _
        refine XS.lstore X9.here hx rfl (hb hby at_167) rfl (l' := #[.val (.int xs), .val (.long st), .second, .val (.int stp), .val (.long exc), .second, .val (.int sel), .val (.long q), .second, .val (.ref a2), .val (.int (2 : Int32)), .val (.int (1 : Int32)), .val (.long o2), .second, .val (.long arr), .second, .val (.long (arr + 0)), .second, .val (.long (arr + q)), .second, .val (.long (st + o2)), .second, .unset, .unset, .unset, .unset, .unset]) rfl ?_
        show Steps p.tables e below (T9.setTop (mkF m 169 #[.val (.int xs), .val (.long st), .second, .val (.int stp), .val (.long exc), .second, .val (.int sel), .val (.long q), .second, .val (.ref a2), .val (.int (2 : Int32)), .val (.int (1 : Int32)), .val (.long o2), .second, .val (.long arr), .second, .val (.long (arr + 0)), .second, .val (.long (arr + q)), .second, .val (.long (st + o2)), .second, .unset, .unset, .unset, .unset, .unset] [])) _
        refine XS.lload X9.here hx rfl (hb hby at_169) rfl ?_
        show Steps p.tables e below (T9.setTop (mkF m 171 #[.val (.int xs), .val (.long st), .second, .val (.int stp), .val (.long exc), .second, .val (.int sel), .val (.long q), .second, .val (.ref a2), .val (.int (2 : Int32)), .val (.int (1 : Int32)), .val (.long o2), .second, .val (.long arr), .second, .val (.long (arr + 0)), .second, .val (.long (arr + q)), .second, .val (.long (st + o2)), .second, .unset, .unset, .unset, .unset, .unset] [(.long arr)])) _
        refine XS.lloadN X9.here hx rfl (hb hby at_171) rfl ?_
        show Steps p.tables e below (T9.setTop (mkF m 172 #[.val (.int xs), .val (.long st), .second, .val (.int stp), .val (.long exc), .second, .val (.int sel), .val (.long q), .second, .val (.ref a2), .val (.int (2 : Int32)), .val (.int (1 : Int32)), .val (.long o2), .second, .val (.long arr), .second, .val (.long (arr + 0)), .second, .val (.long (arr + q)), .second, .val (.long (st + o2)), .second, .unset, .unset, .unset, .unset, .unset] [(.long st), (.long arr)])) _
        refine XS.lsub X9.here hx rfl (hb hby at_172) rfl ?_
        show Steps p.tables e below (T9.setTop (mkF m 173 #[.val (.int xs), .val (.long st), .second, .val (.int stp), .val (.long exc), .second, .val (.int sel), .val (.long q), .second, .val (.ref a2), .val (.int (2 : Int32)), .val (.int (1 : Int32)), .val (.long o2), .second, .val (.long arr), .second, .val (.long (arr + 0)), .second, .val (.long (arr + q)), .second, .val (.long (st + o2)), .second, .unset, .unset, .unset, .unset, .unset] [(.long (arr - st))])) _
        refine XS.lload X9.here hx rfl (hb hby at_173) rfl ?_
        show Steps p.tables e below (T9.setTop (mkF m 175 #[.val (.int xs), .val (.long st), .second, .val (.int stp), .val (.long exc), .second, .val (.int sel), .val (.long q), .second, .val (.ref a2), .val (.int (2 : Int32)), .val (.int (1 : Int32)), .val (.long o2), .second, .val (.long arr), .second, .val (.long (arr + 0)), .second, .val (.long (arr + q)), .second, .val (.long (st + o2)), .second, .unset, .unset, .unset, .unset, .unset] [(.long o2), (.long (arr - st))])) _
        refine XS.lcmp X9.here hx rfl (hb hby at_175) rfl ?_
        show Steps p.tables e below (T9.setTop (mkF m 176 #[.val (.int xs), .val (.long st), .second, .val (.int stp), .val (.long exc), .second, .val (.int sel), .val (.long q), .second, .val (.ref a2), .val (.int (2 : Int32)), .val (.int (1 : Int32)), .val (.long o2), .second, .val (.long arr), .second, .val (.long (arr + 0)), .second, .val (.long (arr + q)), .second, .val (.long (st + o2)), .second, .unset, .unset, .unset, .unset, .unset] [(.int (lcmpW (arr - st) o2))])) _
        refine XS.ifNo X9.here hx rfl (hb hby at_176) rfl ((Jvm.Own.holdsL _ _ _).trans (Jvm.Own.dF (by omega))) ?_
        show Steps p.tables e below (T9.setTop (mkF m 179 #[.val (.int xs), .val (.long st), .second, .val (.int stp), .val (.long exc), .second, .val (.int sel), .val (.long q), .second, .val (.ref a2), .val (.int (2 : Int32)), .val (.int (1 : Int32)), .val (.long o2), .second, .val (.long arr), .second, .val (.long (arr + 0)), .second, .val (.long (arr + q)), .second, .val (.long (st + o2)), .second, .unset, .unset, .unset, .unset, .unset] [])) _
        refine XS.iconst X9.here hx rfl (hb hby at_179) ?_
        show Steps p.tables e below (T9.setTop (mkF m 180 #[.val (.int xs), .val (.long st), .second, .val (.int stp), .val (.long exc), .second, .val (.int sel), .val (.long q), .second, .val (.ref a2), .val (.int (2 : Int32)), .val (.int (1 : Int32)), .val (.long o2), .second, .val (.long arr), .second, .val (.long (arr + 0)), .second, .val (.long (arr + q)), .second, .val (.long (st + o2)), .second, .unset, .unset, .unset, .unset, .unset] [(.int (1 : Int32))])) _
        refine XS.goto X9.here hx rfl (pc0 := 180) (pc' := 184) rfl (hb hby at_180) (by decide) (by decide) ?_
        show Steps p.tables e below (T9.setTop (mkF m 184 #[.val (.int xs), .val (.long st), .second, .val (.int stp), .val (.long exc), .second, .val (.int sel), .val (.long q), .second, .val (.ref a2), .val (.int (2 : Int32)), .val (.int (1 : Int32)), .val (.long o2), .second, .val (.long arr), .second, .val (.long (arr + 0)), .second, .val (.long (arr + q)), .second, .val (.long (st + o2)), .second, .unset, .unset, .unset, .unset, .unset] [(.int (1 : Int32))])) _
        refine XS.istore X9.here hx rfl (hb hby at_184) rfl (l' := #[.val (.int xs), .val (.long st), .second, .val (.int stp), .val (.long exc), .second, .val (.int sel), .val (.long q), .second, .val (.ref a2), .val (.int (2 : Int32)), .val (.int (1 : Int32)), .val (.long o2), .second, .val (.long arr), .second, .val (.long (arr + 0)), .second, .val (.long (arr + q)), .second, .val (.long (st + o2)), .second, .val (.int (1 : Int32)), .unset, .unset, .unset, .unset]) rfl ?_
        show Steps p.tables e below (T9.setTop (mkF m 186 #[.val (.int xs), .val (.long st), .second, .val (.int stp), .val (.long exc), .second, .val (.int sel), .val (.long q), .second, .val (.ref a2), .val (.int (2 : Int32)), .val (.int (1 : Int32)), .val (.long o2), .second, .val (.long arr), .second, .val (.long (arr + 0)), .second, .val (.long (arr + q)), .second, .val (.long (st + o2)), .second, .val (.int (1 : Int32)), .unset, .unset, .unset, .unset] [])) _
        refine XS.iload X9.here hx rfl (hb hby at_186) rfl ?_
        show Steps p.tables e below (T9.setTop (mkF m 188 #[.val (.int xs), .val (.long st), .second, .val (.int stp), .val (.long exc), .second, .val (.int sel), .val (.long q), .second, .val (.ref a2), .val (.int (2 : Int32)), .val (.int (1 : Int32)), .val (.long o2), .second, .val (.long arr), .second, .val (.long (arr + 0)), .second, .val (.long (arr + q)), .second, .val (.long (st + o2)), .second, .val (.int (1 : Int32)), .unset, .unset, .unset, .unset] [(.int (1 : Int32))])) _
        refine XS.ifNo X9.here hx rfl (hb hby at_188) rfl rfl ?_
        show Steps p.tables e below (T9.setTop (mkF m 191 #[.val (.int xs), .val (.long st), .second, .val (.int stp), .val (.long exc), .second, .val (.int sel), .val (.long q), .second, .val (.ref a2), .val (.int (2 : Int32)), .val (.int (1 : Int32)), .val (.long o2), .second, .val (.long arr), .second, .val (.long (arr + 0)), .second, .val (.long (arr + q)), .second, .val (.long (st + o2)), .second, .val (.int (1 : Int32)), .unset, .unset, .unset, .unset] [])) _
        refine XS.lload X9.here hx rfl (hb hby at_191) rfl ?_
        show Steps p.tables e below (T9.setTop (mkF m 193 #[.val (.int xs), .val (.long st), .second, .val (.int stp), .val (.long exc), .second, .val (.int sel), .val (.long q), .second, .val (.ref a2), .val (.int (2 : Int32)), .val (.int (1 : Int32)), .val (.long o2), .second, .val (.long arr), .second, .val (.long (arr + 0)), .second, .val (.long (arr + q)), .second, .val (.long (st + o2)), .second, .val (.int (1 : Int32)), .unset, .unset, .unset, .unset] [(.long arr)])) _
        refine XS.goto X9.here hx rfl (pc0 := 193) (pc' := 198) rfl (hb hby at_193) (by decide) (by decide) ?_
        show Steps p.tables e below (T9.setTop (mkF m 198 #[.val (.int xs), .val (.long st), .second, .val (.int stp), .val (.long exc), .second, .val (.int sel), .val (.long q), .second, .val (.ref a2), .val (.int (2 : Int32)), .val (.int (1 : Int32)), .val (.long o2), .second, .val (.long arr), .second, .val (.long (arr + 0)), .second, .val (.long (arr + q)), .second, .val (.long (st + o2)), .second, .val (.int (1 : Int32)), .unset, .unset, .unset, .unset] [(.long arr)])) _
        refine XS.lstore X9.here hx rfl (hb hby at_198) rfl (l' := #[.val (.int xs), .val (.long st), .second, .val (.int stp), .val (.long exc), .second, .val (.int sel), .val (.long q), .second, .val (.ref a2), .val (.int (2 : Int32)), .val (.int (1 : Int32)), .val (.long o2), .second, .val (.long arr), .second, .val (.long (arr + 0)), .second, .val (.long (arr + q)), .second, .val (.long (st + o2)), .second, .val (.int (1 : Int32)), .val (.long arr), .second, .unset, .unset]) rfl ?_
        show Steps p.tables e below (T9.setTop (mkF m 200 #[.val (.int xs), .val (.long st), .second, .val (.int stp), .val (.long exc), .second, .val (.int sel), .val (.long q), .second, .val (.ref a2), .val (.int (2 : Int32)), .val (.int (1 : Int32)), .val (.long o2), .second, .val (.long arr), .second, .val (.long (arr + 0)), .second, .val (.long (arr + q)), .second, .val (.long (st + o2)), .second, .val (.int (1 : Int32)), .val (.long arr), .second, .unset, .unset] [])) _
        refine XS.lload X9.here hx rfl (hb hby at_200) rfl ?_
        show Steps p.tables e below (T9.setTop (mkF m 202 #[.val (.int xs), .val (.long st), .second, .val (.int stp), .val (.long exc), .second, .val (.int sel), .val (.long q), .second, .val (.ref a2), .val (.int (2 : Int32)), .val (.int (1 : Int32)), .val (.long o2), .second, .val (.long arr), .second, .val (.long (arr + 0)), .second, .val (.long (arr + q)), .second, .val (.long (st + o2)), .second, .val (.int (1 : Int32)), .val (.long arr), .second, .unset, .unset] [(.long arr)])) _
        refine XS.lload X9.here hx rfl (hb hby at_202) rfl ?_
        show Steps p.tables e below (T9.setTop (mkF m 204 #[.val (.int xs), .val (.long st), .second, .val (.int stp), .val (.long exc), .second, .val (.int sel), .val (.long q), .second, .val (.ref a2), .val (.int (2 : Int32)), .val (.int (1 : Int32)), .val (.long o2), .second, .val (.long arr), .second, .val (.long (arr + 0)), .second, .val (.long (arr + q)), .second, .val (.long (st + o2)), .second, .val (.int (1 : Int32)), .val (.long arr), .second, .unset, .unset] [(.long q), (.long arr)])) _
        refine XS.ladd X9.here hx rfl (hb hby at_204) rfl ?_
        show Steps p.tables e below (T9.setTop (mkF m 205 #[.val (.int xs), .val (.long st), .second, .val (.int stp), .val (.long exc), .second, .val (.int sel), .val (.long q), .second, .val (.ref a2), .val (.int (2 : Int32)), .val (.int (1 : Int32)), .val (.long o2), .second, .val (.long arr), .second, .val (.long (arr + 0)), .second, .val (.long (arr + q)), .second, .val (.long (st + o2)), .second, .val (.int (1 : Int32)), .val (.long arr), .second, .unset, .unset] [(.long (arr + q))])) _
        refine XS.lstore X9.here hx rfl (hb hby at_205) rfl (l' := #[.val (.int xs), .val (.long st), .second, .val (.int stp), .val (.long exc), .second, .val (.int sel), .val (.long q), .second, .val (.ref a2), .val (.int (2 : Int32)), .val (.int (1 : Int32)), .val (.long o2), .second, .val (.long arr), .second, .val (.long (arr + 0)), .second, .val (.long (arr + q)), .second, .val (.long (st + o2)), .second, .val (.int (1 : Int32)), .val (.long arr), .second, .val (.long (arr + q)), .second]) rfl ?_
        show Steps p.tables e below (T9.setTop (mkF m 207 #[.val (.int xs), .val (.long st), .second, .val (.int stp), .val (.long exc), .second, .val (.int sel), .val (.long q), .second, .val (.ref a2), .val (.int (2 : Int32)), .val (.int (1 : Int32)), .val (.long o2), .second, .val (.long arr), .second, .val (.long (arr + 0)), .second, .val (.long (arr + q)), .second, .val (.long (st + o2)), .second, .val (.int (1 : Int32)), .val (.long arr), .second, .val (.long (arr + q)), .second] [])) _
        refine XS.iload X9.here hx rfl (hb hby at_207) rfl ?_
        show Steps p.tables e below (T9.setTop (mkF m 209 #[.val (.int xs), .val (.long st), .second, .val (.int stp), .val (.long exc), .second, .val (.int sel), .val (.long q), .second, .val (.ref a2), .val (.int (2 : Int32)), .val (.int (1 : Int32)), .val (.long o2), .second, .val (.long arr), .second, .val (.long (arr + 0)), .second, .val (.long (arr + q)), .second, .val (.long (st + o2)), .second, .val (.int (1 : Int32)), .val (.long arr), .second, .val (.long (arr + q)), .second] [(.int (1 : Int32))])) _
        refine XS.ifNo X9.here hx rfl (hb hby at_209) rfl rfl ?_
        show Steps p.tables e below (T9.setTop (mkF m 212 #[.val (.int xs), .val (.long st), .second, .val (.int stp), .val (.long exc), .second, .val (.int sel), .val (.long q), .second, .val (.ref a2), .val (.int (2 : Int32)), .val (.int (1 : Int32)), .val (.long o2), .second, .val (.long arr), .second, .val (.long (arr + 0)), .second, .val (.long (arr + q)), .second, .val (.long (st + o2)), .second, .val (.int (1 : Int32)), .val (.long arr), .second, .val (.long (arr + q)), .second] [])) _
        refine XS.lload X9.here hx rfl (hb hby at_212) rfl ?_
        show Steps p.tables e below (T9.setTop (mkF m 214 #[.val (.int xs), .val (.long st), .second, .val (.int stp), .val (.long exc), .second, .val (.int sel), .val (.long q), .second, .val (.ref a2), .val (.int (2 : Int32)), .val (.int (1 : Int32)), .val (.long o2), .second, .val (.long arr), .second, .val (.long (arr + 0)), .second, .val (.long (arr + q)), .second, .val (.long (st + o2)), .second, .val (.int (1 : Int32)), .val (.long arr), .second, .val (.long (arr + q)), .second] [(.long (arr + 0))])) _
        refine XS.lload X9.here hx rfl (hb hby at_214) rfl ?_
        show Steps p.tables e below (T9.setTop (mkF m 216 #[.val (.int xs), .val (.long st), .second, .val (.int stp), .val (.long exc), .second, .val (.int sel), .val (.long q), .second, .val (.ref a2), .val (.int (2 : Int32)), .val (.int (1 : Int32)), .val (.long o2), .second, .val (.long arr), .second, .val (.long (arr + 0)), .second, .val (.long (arr + q)), .second, .val (.long (st + o2)), .second, .val (.int (1 : Int32)), .val (.long arr), .second, .val (.long (arr + q)), .second] [(.long arr), (.long (arr + 0))])) _
        refine XS.lcmp X9.here hx rfl (hb hby at_216) rfl ?_
        show Steps p.tables e below (T9.setTop (mkF m 217 #[.val (.int xs), .val (.long st), .second, .val (.int stp), .val (.long exc), .second, .val (.int sel), .val (.long q), .second, .val (.ref a2), .val (.int (2 : Int32)), .val (.int (1 : Int32)), .val (.long o2), .second, .val (.long arr), .second, .val (.long (arr + 0)), .second, .val (.long (arr + q)), .second, .val (.long (st + o2)), .second, .val (.int (1 : Int32)), .val (.long arr), .second, .val (.long (arr + q)), .second] [(.int (lcmpW (arr + 0) arr))])) _
        refine XS.ifNo X9.here hx rfl (hb hby at_217) rfl ((Jvm.Own.holdsL _ _ _).trans (Jvm.Own.dF (by rw [sz]; exact fun q => q rfl))) ?_
        show Steps p.tables e below (T9.setTop (mkF m 220 #[.val (.int xs), .val (.long st), .second, .val (.int stp), .val (.long exc), .second, .val (.int sel), .val (.long q), .second, .val (.ref a2), .val (.int (2 : Int32)), .val (.int (1 : Int32)), .val (.long o2), .second, .val (.long arr), .second, .val (.long (arr + 0)), .second, .val (.long (arr + q)), .second, .val (.long (st + o2)), .second, .val (.int (1 : Int32)), .val (.long arr), .second, .val (.long (arr + q)), .second] [])) _
        refine XS.lload X9.here hx rfl (hb hby at_220) rfl ?_
        show Steps p.tables e below (T9.setTop (mkF m 222 #[.val (.int xs), .val (.long st), .second, .val (.int stp), .val (.long exc), .second, .val (.int sel), .val (.long q), .second, .val (.ref a2), .val (.int (2 : Int32)), .val (.int (1 : Int32)), .val (.long o2), .second, .val (.long arr), .second, .val (.long (arr + 0)), .second, .val (.long (arr + q)), .second, .val (.long (st + o2)), .second, .val (.int (1 : Int32)), .val (.long arr), .second, .val (.long (arr + q)), .second] [(.long (arr + q))])) _
        refine XS.lload X9.here hx rfl (hb hby at_222) rfl ?_
        show Steps p.tables e below (T9.setTop (mkF m 224 #[.val (.int xs), .val (.long st), .second, .val (.int stp), .val (.long exc), .second, .val (.int sel), .val (.long q), .second, .val (.ref a2), .val (.int (2 : Int32)), .val (.int (1 : Int32)), .val (.long o2), .second, .val (.long arr), .second, .val (.long (arr + 0)), .second, .val (.long (arr + q)), .second, .val (.long (st + o2)), .second, .val (.int (1 : Int32)), .val (.long arr), .second, .val (.long (arr + q)), .second] [(.long (arr + q)), (.long (arr + q))])) _
        refine XS.lcmp X9.here hx rfl (hb hby at_224) rfl ?_
        show Steps p.tables e below (T9.setTop (mkF m 225 #[.val (.int xs), .val (.long st), .second, .val (.int stp), .val (.long exc), .second, .val (.int sel), .val (.long q), .second, .val (.ref a2), .val (.int (2 : Int32)), .val (.int (1 : Int32)), .val (.long o2), .second, .val (.long arr), .second, .val (.long (arr + 0)), .second, .val (.long (arr + q)), .second, .val (.long (st + o2)), .second, .val (.int (1 : Int32)), .val (.long arr), .second, .val (.long (arr + q)), .second] [(.int (lcmpW (arr + q) (arr + q)))])) _
        refine XS.ifNo X9.here hx rfl (hb hby at_225) rfl ((Jvm.Own.holdsL _ _ _).trans (Jvm.Own.dF (fun q => q rfl))) ?_
        show Steps p.tables e below (T9.setTop (mkF m 228 #[.val (.int xs), .val (.long st), .second, .val (.int stp), .val (.long exc), .second, .val (.int sel), .val (.long q), .second, .val (.ref a2), .val (.int (2 : Int32)), .val (.int (1 : Int32)), .val (.long o2), .second, .val (.long arr), .second, .val (.long (arr + 0)), .second, .val (.long (arr + q)), .second, .val (.long (st + o2)), .second, .val (.int (1 : Int32)), .val (.long arr), .second, .val (.long (arr + q)), .second] [])) _
        refine XS.iconst X9.here hx rfl (hb hby at_228) ?_
        show Steps p.tables e below (T9.setTop (mkF m 229 #[.val (.int xs), .val (.long st), .second, .val (.int stp), .val (.long exc), .second, .val (.int sel), .val (.long q), .second, .val (.ref a2), .val (.int (2 : Int32)), .val (.int (1 : Int32)), .val (.long o2), .second, .val (.long arr), .second, .val (.long (arr + 0)), .second, .val (.long (arr + q)), .second, .val (.long (st + o2)), .second, .val (.int (1 : Int32)), .val (.long arr), .second, .val (.long (arr + q)), .second] [(.int (1 : Int32))])) _
        refine XS.goto X9.here hx rfl (pc0 := 229) (pc' := 233) rfl (hb hby at_229) (by decide) (by decide) ?_
        show Steps p.tables e below (T9.setTop (mkF m 233 #[.val (.int xs), .val (.long st), .second, .val (.int stp), .val (.long exc), .second, .val (.int sel), .val (.long q), .second, .val (.ref a2), .val (.int (2 : Int32)), .val (.int (1 : Int32)), .val (.long o2), .second, .val (.long arr), .second, .val (.long (arr + 0)), .second, .val (.long (arr + q)), .second, .val (.long (st + o2)), .second, .val (.int (1 : Int32)), .val (.long arr), .second, .val (.long (arr + q)), .second] [(.int (1 : Int32))])) _
        exact retN X9 hx (t := .boolean) Bd.returns (by simp) (hb hby at_233) hr
      · show QL n0 _ T9.heap _
        exact ⟨rfl, (Fr.app (Fr.app (Fr.app (Fr.app (Fr.app (Fr.app (Fr.app N0 N1) N3) N4) N5) N6) N8) N9)⟩
    · obtain ⟨_, _, ⟨T1, L1, k1, n1⟩, -, X1, ⟨Lc1, hQ1, l1, y1, z1⟩, st1⟩ := Jvm.LawKit.callS X0 hx (y := (⟨"com/example/earnest_load/earnestload/run/ScheduleNextFromPinLaw", "period", "(I)J"⟩ : MethodName)) hown (mvT hZ (hw _ (List.mem_of_getElem? (i := 0) rfl))) (mvT hZ (hw _ (List.mem_of_getElem? (i := 1) rfl))) (mvT hZ (hw _ (List.mem_of_getElem? (i := 2) rfl))) (mvT hZ (hw _ (List.mem_of_getElem? (i := 3) rfl))) (by decide) (backOf (W := 0) (rmPer l Z a0 hw [] sel h0 n0 Z0 q rr htri) hZ (hw _ (List.mem_of_getElem? (i := 3) rfl)) (hw _ (List.mem_of_getElem? (i := 2) rfl)) (by decide) (by decide)) (g := (mkF m 8 #[.val (.int xs), .val (.long st), .second, .val (.int stp), .val (.long exc), .second, .val (.int sel), .unset, .unset, .unset, .unset, .unset, .unset, .unset, .unset, .unset, .unset, .unset, .unset, .unset, .unset, .unset, .unset, .unset, .unset, .unset, .unset] [(.int sel)])) rfl (by rw [hml]; rfl) (argsL := [(.int sel)]) (rest := []) (lenOf pd_2 rfl) rfl (by show 2 * 0 + _ ≤ _; exact Nat.le_of_eq rfl) (hb hby at_8) (fun _ _ => ⟨rfl, e0, (by decide : 0 + 0 ≤ _), (by decide : 0 + 0 ≤ _)⟩)
      dsimp only [Pt.U, Pt.locs, Pt.cells, Pt.slots] at X1 l1 y1 z1 st1 hQ1
      subst l1 y1 z1
      obtain ⟨rfl, N1, e1⟩ := hQ1
      obtain ⟨T2, h2, X2, e2, E2, A2, D2, -, st2⟩ := newO X1 hx hZ hown (hw _ (List.mem_of_getElem? (i := 5) rfl)) (hw _ (List.mem_of_getElem? (i := 6) rfl)) (hw _ (List.mem_of_getElem? (i := 7) rfl)) e1 (g := (mkF m 13 #[.val (.int xs), .val (.long st), .second, .val (.int stp), .val (.long exc), .second, .val (.int sel), .val (.long q), .second, .unset, .unset, .unset, .unset, .unset, .unset, .unset, .unset, .unset, .unset, .unset, .unset, .unset, .unset, .unset, .unset, .unset, .unset] [])) rfl (hb hby at_13) (by decide) (by decide)
      obtain ⟨a2, g2⟩ : ∃ z, z = h0.size := ⟨_, rfl⟩
      rw [← g2] at A2 D2 st2
      have D_start := D2 (Or.inl (hw _ (List.mem_of_getElem? (i := 20) rfl))) (ty := .long) (by decide)
      have D_count := D2 (Or.inl (hw _ (List.mem_of_getElem? (i := 27) rfl))) (ty := .long) (by decide)
      have D_rate := D2 (Or.inr (hw _ (List.mem_of_getElem? (i := 18) rfl))) (ty := .double) (by decide)
      have Z2 : n0 ≤ h2.size := Nat.le_trans Z0 E2.1
      have ga : n0 ≤ a2 := Nat.le_trans Z0 (Nat.le_of_eq g2.symm)
      obtain ⟨_, _, ⟨T3, L3, k3, n3⟩, -, X3, ⟨Lc3, hQ3, l3, y3, z3⟩, st3⟩ := Jvm.LawKit.callS X2 hx (y := (⟨"com/example/earnest_load/earnestload/run/ScheduleNextFromPinLaw", "rate", "(I)I"⟩ : MethodName)) hown (mvT hZ (hw _ (List.mem_of_getElem? (i := 8) rfl))) (mvT hZ (hw _ (List.mem_of_getElem? (i := 9) rfl))) (mvT hZ (hw _ (List.mem_of_getElem? (i := 2) rfl))) (mvT hZ (hw _ (List.mem_of_getElem? (i := 10) rfl))) (by decide) (backOf (W := 2) (rmRate l Z a0 hw [] sel h2 n0 Z2 q rr htri) hZ (hw _ (List.mem_of_getElem? (i := 10) rfl)) (hw _ (List.mem_of_getElem? (i := 2) rfl)) (by decide) (by decide)) (g := (mkF m 19 #[.val (.int xs), .val (.long st), .second, .val (.int stp), .val (.long exc), .second, .val (.int sel), .val (.long q), .second, .unset, .unset, .unset, .unset, .unset, .unset, .unset, .unset, .unset, .unset, .unset, .unset, .unset, .unset, .unset, .unset, .unset, .unset] [(.int sel), (.ref a2), (.ref a2)])) rfl (by rw [hml]; rfl) (argsL := [(.int sel)]) (rest := [(.ref a2), (.ref a2)]) (lenOf pd_3 rfl) rfl (by show 2 * 0 + _ ≤ _; exact Nat.le_of_eq rfl) (hb hby at_19) (fun _ _ => ⟨rfl, e2, (by decide : 1 + 0 ≤ _), (by decide : 3 + 0 ≤ _)⟩)
      dsimp only [Pt.U, Pt.locs, Pt.cells, Pt.slots] at X3 l3 y3 z3 st3 hQ3
      subst l3 y3 z3
      obtain ⟨rfl, N3, e3⟩ := hQ3
      obtain ⟨_, _, ⟨T4, L4, k4, n4⟩, -, X4, ⟨Lc4, hQ4, l4, y4, z4⟩, st4⟩ := X3.specialBack hx (y := (⟨"com/example/earnest_load/earnestload/run/Schedule", "<init>", "(DJ)V"⟩ : MethodName)) rfl hown (mvT hZ (hw _ (List.mem_of_getElem? (i := 11) rfl))) (mvT hZ (hw _ (List.mem_of_getElem? (i := 12) rfl))) (mvT hZ (hw _ (List.mem_of_getElem? (i := 13) rfl))) (by decide) (backOf (W := 1) (rmInit l Z a0 hw [] a2 (FP.i2d rr) st h2 n0 Z2 A2 ga D_start D_count D_rate) hZ (hw _ (List.mem_of_getElem? (i := 13) rfl)) (hw _ (List.mem_of_getElem? (i := 7) rfl)) (by decide) (by decide)) (g := (mkF m 24 #[.val (.int xs), .val (.long st), .second, .val (.int stp), .val (.long exc), .second, .val (.int sel), .val (.long q), .second, .unset, .unset, .unset, .unset, .unset, .unset, .unset, .unset, .unset, .unset, .unset, .unset, .unset, .unset, .unset, .unset, .unset, .unset] [(.long st), (.double (FP.i2d rr)), (.ref a2), (.ref a2)])) rfl (by rw [hml]; rfl) (Steps.refl _) (a := a2) (argsL := [(.double (FP.i2d rr)), (.long st)]) (rest := [(.ref a2)]) (lenOf pd_4 rfl) rfl (by show 2 * 0 + _ ≤ _; exact Nat.le_of_eq rfl) (hb hby at_24) (fun _ _ => ⟨rfl, e3, (by decide : 1 + 0 ≤ _), (by decide : 3 + 0 ≤ _)⟩)
      dsimp only [Pt.U, Pt.locs, Pt.cells, Pt.slots] at X4 l4 y4 z4 st4 hQ4
      subst l4 y4 z4
      obtain ⟨rfl, N4, K4, E4, Fs4, Fc4, Fr4⟩ := hQ4
      have Z4 : n0 ≤ T4.heap.size := Nat.le_trans Z2 K4.1
      obtain ⟨cq5, kq5, q5a, q5b, q5c⟩ := isOf hZ rfl E4
      obtain ⟨_, _, ⟨T5, L5, k5, n5⟩, -, X5, ⟨Lc5, hQ5, l5, y5, z5⟩, st5⟩ := X4.virtualBack hx (y := (⟨"com/example/earnest_load/earnestload/run/Schedule", "next", "()J"⟩ : MethodName)) (z := (⟨"com/example/earnest_load/earnestload/run/Schedule", "next", "()J"⟩ : MethodName)) hown (mvT hZ (hw _ (List.mem_of_getElem? (i := 21) rfl))) (mvT hZ (hw _ (List.mem_of_getElem? (i := 22) rfl))) (notFace_of_selects (args := #[]) (mvT hZ (hw _ (List.mem_of_getElem? (i := 24) rfl)))) (mvT hZ (hw _ (List.mem_of_getElem? (i := 24) rfl))) (mvT hZ (hw _ (List.mem_of_getElem? (i := 23) rfl))) (by decide) (backOf (W := 0) (rmNext l Z a0 hw [] a2 T4.heap n0 Z4 st (0 : Int64) (0 : Int64) (FP.i2d rr) Fs4 Fc4 Fr4 E4 ga p0.1 p0.2.1 p0.2.2) hZ (hw _ (List.mem_of_getElem? (i := 25) rfl)) (hw _ (List.mem_of_getElem? (i := 7) rfl)) (by decide) (by decide)) q5a q5c (g := (mkF m 49 #[.val (.int xs), .val (.long st), .second, .val (.int stp), .val (.long exc), .second, .val (.int sel), .val (.long q), .second, .val (.ref a2), .val (.int (2 : Int32)), .val (.int (1 : Int32)), .unset, .unset, .unset, .unset, .unset, .unset, .unset, .unset, .unset, .unset, .unset, .unset, .unset, .unset, .unset] [(.ref a2)])) rfl (by rw [hml]; rfl) (Steps.refl _) (argsL := []) (rest := []) (lenOf pd_1 rfl) rfl (by show 2 * 0 + _ ≤ _; exact Nat.le_of_eq rfl) (hb hby at_49) (fun _ _ => ⟨rfl, rfl, (by decide : 1 + 0 ≤ _), (by decide : 3 + 0 ≤ _)⟩)
      dsimp only [Pt.U, Pt.locs, Pt.cells, Pt.slots] at X5 l5 y5 z5 st5 hQ5
      subst l5 y5 z5
      obtain ⟨rfl, N5, K5, E5, Fs5, Fc5, Fr5⟩ := hQ5
      have Z5 : n0 ≤ T5.heap.size := Nat.le_trans Z4 K5.1
      obtain ⟨cq6, kq6, q6a, q6b, q6c⟩ := isOf hZ rfl E5
      obtain ⟨_, _, ⟨T6, L6, k6, n6⟩, -, X6, ⟨Lc6, hQ6, l6, y6, z6⟩, st6⟩ := X5.virtualBack hx (y := (⟨"com/example/earnest_load/earnestload/run/Schedule", "next", "()J"⟩ : MethodName)) (z := (⟨"com/example/earnest_load/earnestload/run/Schedule", "next", "()J"⟩ : MethodName)) hown (mvT hZ (hw _ (List.mem_of_getElem? (i := 21) rfl))) (mvT hZ (hw _ (List.mem_of_getElem? (i := 22) rfl))) (notFace_of_selects (args := #[]) (mvT hZ (hw _ (List.mem_of_getElem? (i := 24) rfl)))) (mvT hZ (hw _ (List.mem_of_getElem? (i := 24) rfl))) (mvT hZ (hw _ (List.mem_of_getElem? (i := 23) rfl))) (by decide) (backOf (W := 0) (rmNext l Z a0 hw [] a2 T5.heap n0 Z5 st (0 + (1 : Int64)) q (FP.i2d rr) Fs5 Fc5 Fr5 E5 ga p1.1 p1.2.1 p1.2.2) hZ (hw _ (List.mem_of_getElem? (i := 25) rfl)) (hw _ (List.mem_of_getElem? (i := 7) rfl)) (by decide) (by decide)) q6a q6c (g := (mkF m 77 #[.val (.int xs), .val (.long st), .second, .val (.int stp), .val (.long exc), .second, .val (.int sel), .val (.long q), .second, .val (.ref a2), .val (.int (2 : Int32)), .val (.int (1 : Int32)), .unset, .unset, .unset, .unset, .unset, .unset, .unset, .unset, .unset, .unset, .unset, .unset, .unset, .unset, .unset] [(.ref a2)])) rfl (by rw [hml]; rfl) (Steps.refl _) (argsL := []) (rest := []) (lenOf pd_1 rfl) rfl (by show 2 * 0 + _ ≤ _; exact Nat.le_of_eq rfl) (hb hby at_77) (fun _ _ => ⟨rfl, rfl, (by decide : 1 + 0 ≤ _), (by decide : 3 + 0 ≤ _)⟩)
      dsimp only [Pt.U, Pt.locs, Pt.cells, Pt.slots] at X6 l6 y6 z6 st6 hQ6
      subst l6 y6 z6
      obtain ⟨rfl, N6, K6, E6, Fs6, Fc6, Fr6⟩ := hQ6
      have Z6 : n0 ≤ T6.heap.size := Nat.le_trans Z5 K6.1
      obtain ⟨cq8, kq8, q8a, q8b, q8c⟩ := isOf hZ rfl E6
      obtain ⟨_, _, ⟨T8, L8, k8, n8⟩, -, X8, ⟨Lc8, hQ8, l8, y8, z8⟩, st8⟩ := X6.virtualBack hx (y := (⟨"com/example/earnest_load/earnestload/run/Schedule", "nextFrom", "(J)J"⟩ : MethodName)) (z := (⟨"com/example/earnest_load/earnestload/run/Schedule", "nextFrom", "(J)J"⟩ : MethodName)) hown (mvT hZ (hw _ (List.mem_of_getElem? (i := 33) rfl))) (mvT hZ (hw _ (List.mem_of_getElem? (i := 34) rfl))) (notFace_of_selects (args := #[]) (mvT hZ (hw _ (List.mem_of_getElem? (i := 36) rfl)))) (mvT hZ (hw _ (List.mem_of_getElem? (i := 36) rfl))) (mvT hZ (hw _ (List.mem_of_getElem? (i := 35) rfl))) (by decide) (backOf (W := 0) (rmFromN l Z a0 hw [] a2 arr T6.heap n0 Z6 st (0 + (1 : Int64) + (1 : Int64)) o2 (FP.i2d rr) Fs6 Fc6 Fr6 E6 ga p2.1 p2.2.1 p2.2.2 p0.1 p0.2.1 p0.2.2 hc) hZ (hw _ (List.mem_of_getElem? (i := 37) rfl)) (hw _ (List.mem_of_getElem? (i := 7) rfl)) (by decide) (by decide)) q8a q8c (g := (mkF m 151 #[.val (.int xs), .val (.long st), .second, .val (.int stp), .val (.long exc), .second, .val (.int sel), .val (.long q), .second, .val (.ref a2), .val (.int (2 : Int32)), .val (.int (1 : Int32)), .val (.long o2), .second, .val (.long arr), .second, .unset, .unset, .unset, .unset, .unset, .unset, .unset, .unset, .unset, .unset, .unset] [(.long arr), (.ref a2)])) rfl (by rw [hml]; rfl) (Steps.refl _) (argsL := [(.long arr)]) (rest := []) (lenOf pd_0 rfl) rfl (by show 2 * 0 + _ ≤ _; exact Nat.le_of_eq rfl) (hb hby at_151) (fun _ _ => ⟨rfl, rfl, (by decide : 1 + 0 ≤ _), (by decide : 3 + 0 ≤ _)⟩)
      dsimp only [Pt.U, Pt.locs, Pt.cells, Pt.slots] at X8 l8 y8 z8 st8 hQ8
      subst l8 y8 z8
      obtain ⟨rfl, N8, K8, E8, Fs8, Fc8, Fr8⟩ := hQ8
      have Z8 : n0 ≤ T8.heap.size := Nat.le_trans Z6 K8.1
      obtain ⟨cq9, kq9, q9a, q9b, q9c⟩ := isOf hZ rfl E8
      obtain ⟨_, _, ⟨T9, L9, k9, n9⟩, -, X9, ⟨Lc9, hQ9, l9, y9, z9⟩, st9⟩ := X8.virtualBack hx (y := (⟨"com/example/earnest_load/earnestload/run/Schedule", "next", "()J"⟩ : MethodName)) (z := (⟨"com/example/earnest_load/earnestload/run/Schedule", "next", "()J"⟩ : MethodName)) hown (mvT hZ (hw _ (List.mem_of_getElem? (i := 21) rfl))) (mvT hZ (hw _ (List.mem_of_getElem? (i := 22) rfl))) (notFace_of_selects (args := #[]) (mvT hZ (hw _ (List.mem_of_getElem? (i := 24) rfl)))) (mvT hZ (hw _ (List.mem_of_getElem? (i := 24) rfl))) (mvT hZ (hw _ (List.mem_of_getElem? (i := 23) rfl))) (by decide) (backOf (W := 0) (rmNext l Z a0 hw [] a2 T8.heap n0 Z8 st (0 + (1 : Int64) + (1 : Int64) + (1 : Int64)) o3 (FP.i2d rr) Fs8 Fc8 Fr8 E8 ga p3.1 p3.2.1 p3.2.2) hZ (hw _ (List.mem_of_getElem? (i := 25) rfl)) (hw _ (List.mem_of_getElem? (i := 7) rfl)) (by decide) (by decide)) q9a q9c (g := (mkF m 158 #[.val (.int xs), .val (.long st), .second, .val (.int stp), .val (.long exc), .second, .val (.int sel), .val (.long q), .second, .val (.ref a2), .val (.int (2 : Int32)), .val (.int (1 : Int32)), .val (.long o2), .second, .val (.long arr), .second, .val (.long (st + o2)), .second, .unset, .unset, .unset, .unset, .unset, .unset, .unset, .unset, .unset] [(.ref a2)])) rfl (by rw [hml]; rfl) (Steps.refl _) (argsL := []) (rest := []) (lenOf pd_1 rfl) rfl (by show 2 * 0 + _ ≤ _; exact Nat.le_of_eq rfl) (hb hby at_158) (fun _ _ => ⟨rfl, rfl, (by decide : 1 + 0 ≤ _), (by decide : 3 + 0 ≤ _)⟩)
      dsimp only [Pt.U, Pt.locs, Pt.cells, Pt.slots] at X9 l9 y9 z9 st9 hQ9
      subst l9 y9 z9
      obtain ⟨rfl, N9, K9, E9, Fs9, Fc9, Fr9⟩ := hQ9
      obtain ⟨fs, hr, hrun, hended, hW, hsame⟩ := X9.leave (v := some (.int (1 : Int32))) (fun h => by rw [Bd.returns] at h; cases h)
      refine ⟨_, _, pre0 _ ?_, hrun, hended, _, _, rfl, ?_, ⟨_, rfl⟩, hW, hsame.mono (by decide) (by decide)⟩
      · show Steps p.tables e below (s₁.setTop (mkF m 0 #[.val (.int xs), .val (.long st), .second, .val (.int stp), .val (.long exc), .second, .unset, .unset, .unset, .unset, .unset, .unset, .unset, .unset, .unset, .unset, .unset, .unset, .unset, .unset, .unset, .unset, .unset, .unset, .unset, .unset, .unset] [])) _
        refine XS.iloadN X0.here hx rfl (hb hby at_0) rfl ?_
        show Steps p.tables e below (s₁.setTop (mkF m 1 #[.val (.int xs), .val (.long st), .second, .val (.int stp), .val (.long exc), .second, .unset, .unset, .unset, .unset, .unset, .unset, .unset, .unset, .unset, .unset, .unset, .unset, .unset, .unset, .unset, .unset, .unset, .unset, .unset, .unset, .unset] [(.int xs)])) _
        refine XS.bipush X0.here hx rfl (hb hby at_1) ?_
        show Steps p.tables e below (s₁.setTop (mkF m 3 #[.val (.int xs), .val (.long st), .second, .val (.int stp), .val (.long exc), .second, .unset, .unset, .unset, .unset, .unset, .unset, .unset, .unset, .unset, .unset, .unset, .unset, .unset, .unset, .unset, .unset, .unset, .unset, .unset, .unset, .unset] [(.int (7 : Int32)), (.int xs)])) _
        refine XS.iand X0.here hx rfl (hb hby at_3) rfl ?_
        rw [hsel]
        show Steps p.tables e below (s₁.setTop (mkF m 4 #[.val (.int xs), .val (.long st), .second, .val (.int stp), .val (.long exc), .second, .unset, .unset, .unset, .unset, .unset, .unset, .unset, .unset, .unset, .unset, .unset, .unset, .unset, .unset, .unset, .unset, .unset, .unset, .unset, .unset, .unset] [(.int sel)])) _
        refine XS.istore X0.here hx rfl (hb hby at_4) rfl (l' := #[.val (.int xs), .val (.long st), .second, .val (.int stp), .val (.long exc), .second, .val (.int sel), .unset, .unset, .unset, .unset, .unset, .unset, .unset, .unset, .unset, .unset, .unset, .unset, .unset, .unset, .unset, .unset, .unset, .unset, .unset, .unset]) rfl ?_
        show Steps p.tables e below (s₁.setTop (mkF m 6 #[.val (.int xs), .val (.long st), .second, .val (.int stp), .val (.long exc), .second, .val (.int sel), .unset, .unset, .unset, .unset, .unset, .unset, .unset, .unset, .unset, .unset, .unset, .unset, .unset, .unset, .unset, .unset, .unset, .unset, .unset, .unset] [])) _
        refine XS.iload X0.here hx rfl (hb hby at_6) rfl ?_
        show Steps p.tables e below (s₁.setTop (mkF m 8 #[.val (.int xs), .val (.long st), .second, .val (.int stp), .val (.long exc), .second, .val (.int sel), .unset, .unset, .unset, .unset, .unset, .unset, .unset, .unset, .unset, .unset, .unset, .unset, .unset, .unset, .unset, .unset, .unset, .unset, .unset, .unset] [(.int sel)])) _
        refine st1 _ ?_
        show Steps p.tables e below (T1.setTop (mkF m 11 #[.val (.int xs), .val (.long st), .second, .val (.int stp), .val (.long exc), .second, .val (.int sel), .unset, .unset, .unset, .unset, .unset, .unset, .unset, .unset, .unset, .unset, .unset, .unset, .unset, .unset, .unset, .unset, .unset, .unset, .unset, .unset] [(.long q)])) _
        refine XS.lstore X1.here hx rfl (hb hby at_11) rfl (l' := #[.val (.int xs), .val (.long st), .second, .val (.int stp), .val (.long exc), .second, .val (.int sel), .val (.long q), .second, .unset, .unset, .unset, .unset, .unset, .unset, .unset, .unset, .unset, .unset, .unset, .unset, .unset, .unset, .unset, .unset, .unset, .unset]) rfl ?_
        show Steps p.tables e below (T1.setTop (mkF m 13 #[.val (.int xs), .val (.long st), .second, .val (.int stp), .val (.long exc), .second, .val (.int sel), .val (.long q), .second, .unset, .unset, .unset, .unset, .unset, .unset, .unset, .unset, .unset, .unset, .unset, .unset, .unset, .unset, .unset, .unset, .unset, .unset] [])) _
        refine st2 _ ?_
        show Steps p.tables e below (T2.setTop (mkF m 16 #[.val (.int xs), .val (.long st), .second, .val (.int stp), .val (.long exc), .second, .val (.int sel), .val (.long q), .second, .unset, .unset, .unset, .unset, .unset, .unset, .unset, .unset, .unset, .unset, .unset, .unset, .unset, .unset, .unset, .unset, .unset, .unset] [(.ref a2)])) _
        refine XS.dup X2.here hx rfl (hb hby at_16) rfl rfl ?_
        show Steps p.tables e below (T2.setTop (mkF m 17 #[.val (.int xs), .val (.long st), .second, .val (.int stp), .val (.long exc), .second, .val (.int sel), .val (.long q), .second, .unset, .unset, .unset, .unset, .unset, .unset, .unset, .unset, .unset, .unset, .unset, .unset, .unset, .unset, .unset, .unset, .unset, .unset] [(.ref a2), (.ref a2)])) _
        refine XS.iload X2.here hx rfl (hb hby at_17) rfl ?_
        show Steps p.tables e below (T2.setTop (mkF m 19 #[.val (.int xs), .val (.long st), .second, .val (.int stp), .val (.long exc), .second, .val (.int sel), .val (.long q), .second, .unset, .unset, .unset, .unset, .unset, .unset, .unset, .unset, .unset, .unset, .unset, .unset, .unset, .unset, .unset, .unset, .unset, .unset] [(.int sel), (.ref a2), (.ref a2)])) _
        refine st3 _ ?_
        show Steps p.tables e below (T3.setTop (mkF m 22 #[.val (.int xs), .val (.long st), .second, .val (.int stp), .val (.long exc), .second, .val (.int sel), .val (.long q), .second, .unset, .unset, .unset, .unset, .unset, .unset, .unset, .unset, .unset, .unset, .unset, .unset, .unset, .unset, .unset, .unset, .unset, .unset] [(.int rr), (.ref a2), (.ref a2)])) _
        refine XS.i2dS X3.here hx rfl (hb hby at_22) rfl (v := FP.i2d rr) rfl ?_
        show Steps p.tables e below (T3.setTop (mkF m 23 #[.val (.int xs), .val (.long st), .second, .val (.int stp), .val (.long exc), .second, .val (.int sel), .val (.long q), .second, .unset, .unset, .unset, .unset, .unset, .unset, .unset, .unset, .unset, .unset, .unset, .unset, .unset, .unset, .unset, .unset, .unset, .unset] [(.double (FP.i2d rr)), (.ref a2), (.ref a2)])) _
        refine XS.lloadN X3.here hx rfl (hb hby at_23) rfl ?_
        show Steps p.tables e below (T3.setTop (mkF m 24 #[.val (.int xs), .val (.long st), .second, .val (.int stp), .val (.long exc), .second, .val (.int sel), .val (.long q), .second, .unset, .unset, .unset, .unset, .unset, .unset, .unset, .unset, .unset, .unset, .unset, .unset, .unset, .unset, .unset, .unset, .unset, .unset] [(.long st), (.double (FP.i2d rr)), (.ref a2), (.ref a2)])) _
        refine st4.trans ?_
        show Steps p.tables e below (T4.setTop (mkF m 27 #[.val (.int xs), .val (.long st), .second, .val (.int stp), .val (.long exc), .second, .val (.int sel), .val (.long q), .second, .unset, .unset, .unset, .unset, .unset, .unset, .unset, .unset, .unset, .unset, .unset, .unset, .unset, .unset, .unset, .unset, .unset, .unset] [(.ref a2)])) _
        refine XS.astore X4.here hx rfl (hb hby at_27) rfl rfl (l' := #[.val (.int xs), .val (.long st), .second, .val (.int stp), .val (.long exc), .second, .val (.int sel), .val (.long q), .second, .val (.ref a2), .unset, .unset, .unset, .unset, .unset, .unset, .unset, .unset, .unset, .unset, .unset, .unset, .unset, .unset, .unset, .unset, .unset]) rfl ?_
        show Steps p.tables e below (T4.setTop (mkF m 29 #[.val (.int xs), .val (.long st), .second, .val (.int stp), .val (.long exc), .second, .val (.int sel), .val (.long q), .second, .val (.ref a2), .unset, .unset, .unset, .unset, .unset, .unset, .unset, .unset, .unset, .unset, .unset, .unset, .unset, .unset, .unset, .unset, .unset] [])) _
        refine XS.iloadN X4.here hx rfl (hb hby at_29) rfl ?_
        show Steps p.tables e below (T4.setTop (mkF m 30 #[.val (.int xs), .val (.long st), .second, .val (.int stp), .val (.long exc), .second, .val (.int sel), .val (.long q), .second, .val (.ref a2), .unset, .unset, .unset, .unset, .unset, .unset, .unset, .unset, .unset, .unset, .unset, .unset, .unset, .unset, .unset, .unset, .unset] [(.int stp)])) _
        refine XS.iconst X4.here hx rfl (hb hby at_30) ?_
        show Steps p.tables e below (T4.setTop (mkF m 31 #[.val (.int xs), .val (.long st), .second, .val (.int stp), .val (.long exc), .second, .val (.int sel), .val (.long q), .second, .val (.ref a2), .unset, .unset, .unset, .unset, .unset, .unset, .unset, .unset, .unset, .unset, .unset, .unset, .unset, .unset, .unset, .unset, .unset] [(.int (3 : Int32)), (.int stp)])) _
        refine XS.iand X4.here hx rfl (hb hby at_31) rfl ?_
        rw [hkk]
        show Steps p.tables e below (T4.setTop (mkF m 32 #[.val (.int xs), .val (.long st), .second, .val (.int stp), .val (.long exc), .second, .val (.int sel), .val (.long q), .second, .val (.ref a2), .unset, .unset, .unset, .unset, .unset, .unset, .unset, .unset, .unset, .unset, .unset, .unset, .unset, .unset, .unset, .unset, .unset] [(.int (2 : Int32))])) _
        refine XS.istore X4.here hx rfl (hb hby at_32) rfl (l' := #[.val (.int xs), .val (.long st), .second, .val (.int stp), .val (.long exc), .second, .val (.int sel), .val (.long q), .second, .val (.ref a2), .val (.int (2 : Int32)), .unset, .unset, .unset, .unset, .unset, .unset, .unset, .unset, .unset, .unset, .unset, .unset, .unset, .unset, .unset, .unset]) rfl ?_
        show Steps p.tables e below (T4.setTop (mkF m 34 #[.val (.int xs), .val (.long st), .second, .val (.int stp), .val (.long exc), .second, .val (.int sel), .val (.long q), .second, .val (.ref a2), .val (.int (2 : Int32)), .unset, .unset, .unset, .unset, .unset, .unset, .unset, .unset, .unset, .unset, .unset, .unset, .unset, .unset, .unset, .unset] [])) _
        refine XS.iconst X4.here hx rfl (hb hby at_34) ?_
        show Steps p.tables e below (T4.setTop (mkF m 35 #[.val (.int xs), .val (.long st), .second, .val (.int stp), .val (.long exc), .second, .val (.int sel), .val (.long q), .second, .val (.ref a2), .val (.int (2 : Int32)), .unset, .unset, .unset, .unset, .unset, .unset, .unset, .unset, .unset, .unset, .unset, .unset, .unset, .unset, .unset, .unset] [(.int (1 : Int32))])) _
        refine XS.istore X4.here hx rfl (hb hby at_35) rfl (l' := #[.val (.int xs), .val (.long st), .second, .val (.int stp), .val (.long exc), .second, .val (.int sel), .val (.long q), .second, .val (.ref a2), .val (.int (2 : Int32)), .val (.int (1 : Int32)), .unset, .unset, .unset, .unset, .unset, .unset, .unset, .unset, .unset, .unset, .unset, .unset, .unset, .unset, .unset]) rfl ?_
        show Steps p.tables e below (T4.setTop (mkF m 37 #[.val (.int xs), .val (.long st), .second, .val (.int stp), .val (.long exc), .second, .val (.int sel), .val (.long q), .second, .val (.ref a2), .val (.int (2 : Int32)), .val (.int (1 : Int32)), .unset, .unset, .unset, .unset, .unset, .unset, .unset, .unset, .unset, .unset, .unset, .unset, .unset, .unset, .unset] [])) _
        refine XS.iload X4.here hx rfl (hb hby at_37) rfl ?_
        show Steps p.tables e below (T4.setTop (mkF m 39 #[.val (.int xs), .val (.long st), .second, .val (.int stp), .val (.long exc), .second, .val (.int sel), .val (.long q), .second, .val (.ref a2), .val (.int (2 : Int32)), .val (.int (1 : Int32)), .unset, .unset, .unset, .unset, .unset, .unset, .unset, .unset, .unset, .unset, .unset, .unset, .unset, .unset, .unset] [(.int (2 : Int32))])) _
        refine XS.ifNo X4.here hx rfl (hb hby at_39) rfl rfl ?_
        show Steps p.tables e below (T4.setTop (mkF m 42 #[.val (.int xs), .val (.long st), .second, .val (.int stp), .val (.long exc), .second, .val (.int sel), .val (.long q), .second, .val (.ref a2), .val (.int (2 : Int32)), .val (.int (1 : Int32)), .unset, .unset, .unset, .unset, .unset, .unset, .unset, .unset, .unset, .unset, .unset, .unset, .unset, .unset, .unset] [])) _
        refine XS.iload X4.here hx rfl (hb hby at_42) rfl ?_
        show Steps p.tables e below (T4.setTop (mkF m 44 #[.val (.int xs), .val (.long st), .second, .val (.int stp), .val (.long exc), .second, .val (.int sel), .val (.long q), .second, .val (.ref a2), .val (.int (2 : Int32)), .val (.int (1 : Int32)), .unset, .unset, .unset, .unset, .unset, .unset, .unset, .unset, .unset, .unset, .unset, .unset, .unset, .unset, .unset] [(.int (1 : Int32))])) _
        refine XS.ifNo X4.here hx rfl (hb hby at_44) rfl rfl ?_
        show Steps p.tables e below (T4.setTop (mkF m 47 #[.val (.int xs), .val (.long st), .second, .val (.int stp), .val (.long exc), .second, .val (.int sel), .val (.long q), .second, .val (.ref a2), .val (.int (2 : Int32)), .val (.int (1 : Int32)), .unset, .unset, .unset, .unset, .unset, .unset, .unset, .unset, .unset, .unset, .unset, .unset, .unset, .unset, .unset] [])) _
        refine XS.aload X4.here hx rfl (hb hby at_47) rfl rfl ?_
        show Steps p.tables e below (T4.setTop (mkF m 49 #[.val (.int xs), .val (.long st), .second, .val (.int stp), .val (.long exc), .second, .val (.int sel), .val (.long q), .second, .val (.ref a2), .val (.int (2 : Int32)), .val (.int (1 : Int32)), .unset, .unset, .unset, .unset, .unset, .unset, .unset, .unset, .unset, .unset, .unset, .unset, .unset, .unset, .unset] [(.ref a2)])) _
        refine st5.trans ?_
        show Steps p.tables e below (T5.setTop (mkF m 52 #[.val (.int xs), .val (.long st), .second, .val (.int stp), .val (.long exc), .second, .val (.int sel), .val (.long q), .second, .val (.ref a2), .val (.int (2 : Int32)), .val (.int (1 : Int32)), .unset, .unset, .unset, .unset, .unset, .unset, .unset, .unset, .unset, .unset, .unset, .unset, .unset, .unset, .unset] [(.long (st + (0 : Int64)))])) _
        refine XS.lloadN X5.here hx rfl (hb hby at_52) rfl ?_
        show Steps p.tables e below (T5.setTop (mkF m 53 #[.val (.int xs), .val (.long st), .second, .val (.int stp), .val (.long exc), .second, .val (.int sel), .val (.long q), .second, .val (.ref a2), .val (.int (2 : Int32)), .val (.int (1 : Int32)), .unset, .unset, .unset, .unset, .unset, .unset, .unset, .unset, .unset, .unset, .unset, .unset, .unset, .unset, .unset] [(.long st), (.long (st + (0 : Int64)))])) _
        refine XS.lcmp X5.here hx rfl (hb hby at_53) rfl ?_
        show Steps p.tables e below (T5.setTop (mkF m 54 #[.val (.int xs), .val (.long st), .second, .val (.int stp), .val (.long exc), .second, .val (.int sel), .val (.long q), .second, .val (.ref a2), .val (.int (2 : Int32)), .val (.int (1 : Int32)), .unset, .unset, .unset, .unset, .unset, .unset, .unset, .unset, .unset, .unset, .unset, .unset, .unset, .unset, .unset] [(.int (lcmpW (st + (0 : Int64)) st))])) _
        refine XS.ifNo X5.here hx rfl (hb hby at_54) rfl ((Jvm.Own.holdsL _ _ _).trans (Jvm.Own.dF (by rw [sz]; exact fun q => q rfl))) ?_
        show Steps p.tables e below (T5.setTop (mkF m 57 #[.val (.int xs), .val (.long st), .second, .val (.int stp), .val (.long exc), .second, .val (.int sel), .val (.long q), .second, .val (.ref a2), .val (.int (2 : Int32)), .val (.int (1 : Int32)), .unset, .unset, .unset, .unset, .unset, .unset, .unset, .unset, .unset, .unset, .unset, .unset, .unset, .unset, .unset] [])) _
        refine XS.iconst X5.here hx rfl (hb hby at_57) ?_
        show Steps p.tables e below (T5.setTop (mkF m 58 #[.val (.int xs), .val (.long st), .second, .val (.int stp), .val (.long exc), .second, .val (.int sel), .val (.long q), .second, .val (.ref a2), .val (.int (2 : Int32)), .val (.int (1 : Int32)), .unset, .unset, .unset, .unset, .unset, .unset, .unset, .unset, .unset, .unset, .unset, .unset, .unset, .unset, .unset] [(.int (1 : Int32))])) _
        refine XS.goto X5.here hx rfl (pc0 := 58) (pc' := 62) rfl (hb hby at_58) (by decide) (by decide) ?_
        show Steps p.tables e below (T5.setTop (mkF m 62 #[.val (.int xs), .val (.long st), .second, .val (.int stp), .val (.long exc), .second, .val (.int sel), .val (.long q), .second, .val (.ref a2), .val (.int (2 : Int32)), .val (.int (1 : Int32)), .unset, .unset, .unset, .unset, .unset, .unset, .unset, .unset, .unset, .unset, .unset, .unset, .unset, .unset, .unset] [(.int (1 : Int32))])) _
        refine XS.istore X5.here hx rfl (hb hby at_62) rfl (l' := #[.val (.int xs), .val (.long st), .second, .val (.int stp), .val (.long exc), .second, .val (.int sel), .val (.long q), .second, .val (.ref a2), .val (.int (2 : Int32)), .val (.int (1 : Int32)), .unset, .unset, .unset, .unset, .unset, .unset, .unset, .unset, .unset, .unset, .unset, .unset, .unset, .unset, .unset]) rfl ?_
        show Steps p.tables e below (T5.setTop (mkF m 64 #[.val (.int xs), .val (.long st), .second, .val (.int stp), .val (.long exc), .second, .val (.int sel), .val (.long q), .second, .val (.ref a2), .val (.int (2 : Int32)), .val (.int (1 : Int32)), .unset, .unset, .unset, .unset, .unset, .unset, .unset, .unset, .unset, .unset, .unset, .unset, .unset, .unset, .unset] [])) _
        refine XS.iload X5.here hx rfl (hb hby at_64) rfl ?_
        show Steps p.tables e below (T5.setTop (mkF m 66 #[.val (.int xs), .val (.long st), .second, .val (.int stp), .val (.long exc), .second, .val (.int sel), .val (.long q), .second, .val (.ref a2), .val (.int (2 : Int32)), .val (.int (1 : Int32)), .unset, .unset, .unset, .unset, .unset, .unset, .unset, .unset, .unset, .unset, .unset, .unset, .unset, .unset, .unset] [(.int (2 : Int32))])) _
        refine XS.iconst X5.here hx rfl (hb hby at_66) ?_
        show Steps p.tables e below (T5.setTop (mkF m 67 #[.val (.int xs), .val (.long st), .second, .val (.int stp), .val (.long exc), .second, .val (.int sel), .val (.long q), .second, .val (.ref a2), .val (.int (2 : Int32)), .val (.int (1 : Int32)), .unset, .unset, .unset, .unset, .unset, .unset, .unset, .unset, .unset, .unset, .unset, .unset, .unset, .unset, .unset] [(.int (1 : Int32)), (.int (2 : Int32))])) _
        refine XS.icmpNo X5.here hx rfl (hb hby at_67) rfl rfl ?_
        show Steps p.tables e below (T5.setTop (mkF m 70 #[.val (.int xs), .val (.long st), .second, .val (.int stp), .val (.long exc), .second, .val (.int sel), .val (.long q), .second, .val (.ref a2), .val (.int (2 : Int32)), .val (.int (1 : Int32)), .unset, .unset, .unset, .unset, .unset, .unset, .unset, .unset, .unset, .unset, .unset, .unset, .unset, .unset, .unset] [])) _
        refine XS.iload X5.here hx rfl (hb hby at_70) rfl ?_
        show Steps p.tables e below (T5.setTop (mkF m 72 #[.val (.int xs), .val (.long st), .second, .val (.int stp), .val (.long exc), .second, .val (.int sel), .val (.long q), .second, .val (.ref a2), .val (.int (2 : Int32)), .val (.int (1 : Int32)), .unset, .unset, .unset, .unset, .unset, .unset, .unset, .unset, .unset, .unset, .unset, .unset, .unset, .unset, .unset] [(.int (1 : Int32))])) _
        refine XS.ifNo X5.here hx rfl (hb hby at_72) rfl rfl ?_
        show Steps p.tables e below (T5.setTop (mkF m 75 #[.val (.int xs), .val (.long st), .second, .val (.int stp), .val (.long exc), .second, .val (.int sel), .val (.long q), .second, .val (.ref a2), .val (.int (2 : Int32)), .val (.int (1 : Int32)), .unset, .unset, .unset, .unset, .unset, .unset, .unset, .unset, .unset, .unset, .unset, .unset, .unset, .unset, .unset] [])) _
        refine XS.aload X5.here hx rfl (hb hby at_75) rfl rfl ?_
        show Steps p.tables e below (T5.setTop (mkF m 77 #[.val (.int xs), .val (.long st), .second, .val (.int stp), .val (.long exc), .second, .val (.int sel), .val (.long q), .second, .val (.ref a2), .val (.int (2 : Int32)), .val (.int (1 : Int32)), .unset, .unset, .unset, .unset, .unset, .unset, .unset, .unset, .unset, .unset, .unset, .unset, .unset, .unset, .unset] [(.ref a2)])) _
        refine st6.trans ?_
        show Steps p.tables e below (T6.setTop (mkF m 80 #[.val (.int xs), .val (.long st), .second, .val (.int stp), .val (.long exc), .second, .val (.int sel), .val (.long q), .second, .val (.ref a2), .val (.int (2 : Int32)), .val (.int (1 : Int32)), .unset, .unset, .unset, .unset, .unset, .unset, .unset, .unset, .unset, .unset, .unset, .unset, .unset, .unset, .unset] [(.long (st + q))])) _
        refine XS.lloadN X6.here hx rfl (hb hby at_80) rfl ?_
        show Steps p.tables e below (T6.setTop (mkF m 81 #[.val (.int xs), .val (.long st), .second, .val (.int stp), .val (.long exc), .second, .val (.int sel), .val (.long q), .second, .val (.ref a2), .val (.int (2 : Int32)), .val (.int (1 : Int32)), .unset, .unset, .unset, .unset, .unset, .unset, .unset, .unset, .unset, .unset, .unset, .unset, .unset, .unset, .unset] [(.long st), (.long (st + q))])) _
        refine XS.lload X6.here hx rfl (hb hby at_81) rfl ?_
        show Steps p.tables e below (T6.setTop (mkF m 83 #[.val (.int xs), .val (.long st), .second, .val (.int stp), .val (.long exc), .second, .val (.int sel), .val (.long q), .second, .val (.ref a2), .val (.int (2 : Int32)), .val (.int (1 : Int32)), .unset, .unset, .unset, .unset, .unset, .unset, .unset, .unset, .unset, .unset, .unset, .unset, .unset, .unset, .unset] [(.long q), (.long st), (.long (st + q))])) _
        refine XS.ladd X6.here hx rfl (hb hby at_83) rfl ?_
        show Steps p.tables e below (T6.setTop (mkF m 84 #[.val (.int xs), .val (.long st), .second, .val (.int stp), .val (.long exc), .second, .val (.int sel), .val (.long q), .second, .val (.ref a2), .val (.int (2 : Int32)), .val (.int (1 : Int32)), .unset, .unset, .unset, .unset, .unset, .unset, .unset, .unset, .unset, .unset, .unset, .unset, .unset, .unset, .unset] [(.long (st + q)), (.long (st + q))])) _
        refine XS.lcmp X6.here hx rfl (hb hby at_84) rfl ?_
        show Steps p.tables e below (T6.setTop (mkF m 85 #[.val (.int xs), .val (.long st), .second, .val (.int stp), .val (.long exc), .second, .val (.int sel), .val (.long q), .second, .val (.ref a2), .val (.int (2 : Int32)), .val (.int (1 : Int32)), .unset, .unset, .unset, .unset, .unset, .unset, .unset, .unset, .unset, .unset, .unset, .unset, .unset, .unset, .unset] [(.int (lcmpW (st + q) (st + q)))])) _
        refine XS.ifNo X6.here hx rfl (hb hby at_85) rfl ((Jvm.Own.holdsL _ _ _).trans (Jvm.Own.dF (fun q => q rfl))) ?_
        show Steps p.tables e below (T6.setTop (mkF m 88 #[.val (.int xs), .val (.long st), .second, .val (.int stp), .val (.long exc), .second, .val (.int sel), .val (.long q), .second, .val (.ref a2), .val (.int (2 : Int32)), .val (.int (1 : Int32)), .unset, .unset, .unset, .unset, .unset, .unset, .unset, .unset, .unset, .unset, .unset, .unset, .unset, .unset, .unset] [])) _
        refine XS.iconst X6.here hx rfl (hb hby at_88) ?_
        show Steps p.tables e below (T6.setTop (mkF m 89 #[.val (.int xs), .val (.long st), .second, .val (.int stp), .val (.long exc), .second, .val (.int sel), .val (.long q), .second, .val (.ref a2), .val (.int (2 : Int32)), .val (.int (1 : Int32)), .unset, .unset, .unset, .unset, .unset, .unset, .unset, .unset, .unset, .unset, .unset, .unset, .unset, .unset, .unset] [(.int (1 : Int32))])) _
        refine XS.goto X6.here hx rfl (pc0 := 89) (pc' := 93) rfl (hb hby at_89) (by decide) (by decide) ?_
        show Steps p.tables e below (T6.setTop (mkF m 93 #[.val (.int xs), .val (.long st), .second, .val (.int stp), .val (.long exc), .second, .val (.int sel), .val (.long q), .second, .val (.ref a2), .val (.int (2 : Int32)), .val (.int (1 : Int32)), .unset, .unset, .unset, .unset, .unset, .unset, .unset, .unset, .unset, .unset, .unset, .unset, .unset, .unset, .unset] [(.int (1 : Int32))])) _
        refine XS.istore X6.here hx rfl (hb hby at_93) rfl (l' := #[.val (.int xs), .val (.long st), .second, .val (.int stp), .val (.long exc), .second, .val (.int sel), .val (.long q), .second, .val (.ref a2), .val (.int (2 : Int32)), .val (.int (1 : Int32)), .unset, .unset, .unset, .unset, .unset, .unset, .unset, .unset, .unset, .unset, .unset, .unset, .unset, .unset, .unset]) rfl ?_
        show Steps p.tables e below (T6.setTop (mkF m 95 #[.val (.int xs), .val (.long st), .second, .val (.int stp), .val (.long exc), .second, .val (.int sel), .val (.long q), .second, .val (.ref a2), .val (.int (2 : Int32)), .val (.int (1 : Int32)), .unset, .unset, .unset, .unset, .unset, .unset, .unset, .unset, .unset, .unset, .unset, .unset, .unset, .unset, .unset] [])) _
        refine XS.iload X6.here hx rfl (hb hby at_95) rfl ?_
        show Steps p.tables e below (T6.setTop (mkF m 97 #[.val (.int xs), .val (.long st), .second, .val (.int stp), .val (.long exc), .second, .val (.int sel), .val (.long q), .second, .val (.ref a2), .val (.int (2 : Int32)), .val (.int (1 : Int32)), .unset, .unset, .unset, .unset, .unset, .unset, .unset, .unset, .unset, .unset, .unset, .unset, .unset, .unset, .unset] [(.int (2 : Int32))])) _
        refine XS.iconst X6.here hx rfl (hb hby at_97) ?_
        show Steps p.tables e below (T6.setTop (mkF m 98 #[.val (.int xs), .val (.long st), .second, .val (.int stp), .val (.long exc), .second, .val (.int sel), .val (.long q), .second, .val (.ref a2), .val (.int (2 : Int32)), .val (.int (1 : Int32)), .unset, .unset, .unset, .unset, .unset, .unset, .unset, .unset, .unset, .unset, .unset, .unset, .unset, .unset, .unset] [(.int (2 : Int32)), (.int (2 : Int32))])) _
        refine XS.icmpYes X6.here hx rfl (pc0 := 98) (pc' := 130) rfl (hb hby at_98) rfl rfl (by decide) (by decide) ?_
        show Steps p.tables e below (T6.setTop (mkF m 130 #[.val (.int xs), .val (.long st), .second, .val (.int stp), .val (.long exc), .second, .val (.int sel), .val (.long q), .second, .val (.ref a2), .val (.int (2 : Int32)), .val (.int (1 : Int32)), .unset, .unset, .unset, .unset, .unset, .unset, .unset, .unset, .unset, .unset, .unset, .unset, .unset, .unset, .unset] [])) _
        refine XS.iload X6.here hx rfl (hb hby at_130) rfl ?_
        show Steps p.tables e below (T6.setTop (mkF m 132 #[.val (.int xs), .val (.long st), .second, .val (.int stp), .val (.long exc), .second, .val (.int sel), .val (.long q), .second, .val (.ref a2), .val (.int (2 : Int32)), .val (.int (1 : Int32)), .unset, .unset, .unset, .unset, .unset, .unset, .unset, .unset, .unset, .unset, .unset, .unset, .unset, .unset, .unset] [(.int (2 : Int32))])) _
        refine XS.i2l X6.here hx rfl (hb hby at_132) rfl ?_
        show Steps p.tables e below (T6.setTop (mkF m 133 #[.val (.int xs), .val (.long st), .second, .val (.int stp), .val (.long exc), .second, .val (.int sel), .val (.long q), .second, .val (.ref a2), .val (.int (2 : Int32)), .val (.int (1 : Int32)), .unset, .unset, .unset, .unset, .unset, .unset, .unset, .unset, .unset, .unset, .unset, .unset, .unset, .unset, .unset] [(.long ((2 : Int32).toInt64))])) _
        refine XS.lload X6.here hx rfl (hb hby at_133) rfl ?_
        show Steps p.tables e below (T6.setTop (mkF m 135 #[.val (.int xs), .val (.long st), .second, .val (.int stp), .val (.long exc), .second, .val (.int sel), .val (.long q), .second, .val (.ref a2), .val (.int (2 : Int32)), .val (.int (1 : Int32)), .unset, .unset, .unset, .unset, .unset, .unset, .unset, .unset, .unset, .unset, .unset, .unset, .unset, .unset, .unset] [(.long q), (.long ((2 : Int32).toInt64))])) _
        refine XS.lmul X6.here hx rfl (hb hby at_135) rfl ?_
        rw [k2]
        show Steps p.tables e below (T6.setTop (mkF m 136 #[.val (.int xs), .val (.long st), .second, .val (.int stp), .val (.long exc), .second, .val (.int sel), .val (.long q), .second, .val (.ref a2), .val (.int (2 : Int32)), .val (.int (1 : Int32)), .unset, .unset, .unset, .unset, .unset, .unset, .unset, .unset, .unset, .unset, .unset, .unset, .unset, .unset, .unset] [(.long o2)])) _
        refine XS.lstore X6.here hx rfl (hb hby at_136) rfl (l' := #[.val (.int xs), .val (.long st), .second, .val (.int stp), .val (.long exc), .second, .val (.int sel), .val (.long q), .second, .val (.ref a2), .val (.int (2 : Int32)), .val (.int (1 : Int32)), .val (.long o2), .second, .unset, .unset, .unset, .unset, .unset, .unset, .unset, .unset, .unset, .unset, .unset, .unset, .unset]) rfl ?_
        show Steps p.tables e below (T6.setTop (mkF m 138 #[.val (.int xs), .val (.long st), .second, .val (.int stp), .val (.long exc), .second, .val (.int sel), .val (.long q), .second, .val (.ref a2), .val (.int (2 : Int32)), .val (.int (1 : Int32)), .val (.long o2), .second, .unset, .unset, .unset, .unset, .unset, .unset, .unset, .unset, .unset, .unset, .unset, .unset, .unset] [])) _
        refine XS.lloadN X6.here hx rfl (hb hby at_138) rfl ?_
        show Steps p.tables e below (T6.setTop (mkF m 139 #[.val (.int xs), .val (.long st), .second, .val (.int stp), .val (.long exc), .second, .val (.int sel), .val (.long q), .second, .val (.ref a2), .val (.int (2 : Int32)), .val (.int (1 : Int32)), .val (.long o2), .second, .unset, .unset, .unset, .unset, .unset, .unset, .unset, .unset, .unset, .unset, .unset, .unset, .unset] [(.long st)])) _
        refine XS.lload X6.here hx rfl (hb hby at_139) rfl ?_
        show Steps p.tables e below (T6.setTop (mkF m 141 #[.val (.int xs), .val (.long st), .second, .val (.int stp), .val (.long exc), .second, .val (.int sel), .val (.long q), .second, .val (.ref a2), .val (.int (2 : Int32)), .val (.int (1 : Int32)), .val (.long o2), .second, .unset, .unset, .unset, .unset, .unset, .unset, .unset, .unset, .unset, .unset, .unset, .unset, .unset] [(.long o2), (.long st)])) _
        refine XS.ladd X6.here hx rfl (hb hby at_141) rfl ?_
        show Steps p.tables e below (T6.setTop (mkF m 142 #[.val (.int xs), .val (.long st), .second, .val (.int stp), .val (.long exc), .second, .val (.int sel), .val (.long q), .second, .val (.ref a2), .val (.int (2 : Int32)), .val (.int (1 : Int32)), .val (.long o2), .second, .unset, .unset, .unset, .unset, .unset, .unset, .unset, .unset, .unset, .unset, .unset, .unset, .unset] [(.long (st + o2))])) _
        refine XS.lload X6.here hx rfl (hb hby at_142) rfl ?_
        show Steps p.tables e below (T6.setTop (mkF m 144 #[.val (.int xs), .val (.long st), .second, .val (.int stp), .val (.long exc), .second, .val (.int sel), .val (.long q), .second, .val (.ref a2), .val (.int (2 : Int32)), .val (.int (1 : Int32)), .val (.long o2), .second, .unset, .unset, .unset, .unset, .unset, .unset, .unset, .unset, .unset, .unset, .unset, .unset, .unset] [(.long exc), (.long (st + o2))])) _
        refine XS.ladd X6.here hx rfl (hb hby at_144) rfl ?_
        rw [harr]
        show Steps p.tables e below (T6.setTop (mkF m 145 #[.val (.int xs), .val (.long st), .second, .val (.int stp), .val (.long exc), .second, .val (.int sel), .val (.long q), .second, .val (.ref a2), .val (.int (2 : Int32)), .val (.int (1 : Int32)), .val (.long o2), .second, .unset, .unset, .unset, .unset, .unset, .unset, .unset, .unset, .unset, .unset, .unset, .unset, .unset] [(.long arr)])) _
        refine XS.lstore X6.here hx rfl (hb hby at_145) rfl (l' := #[.val (.int xs), .val (.long st), .second, .val (.int stp), .val (.long exc), .second, .val (.int sel), .val (.long q), .second, .val (.ref a2), .val (.int (2 : Int32)), .val (.int (1 : Int32)), .val (.long o2), .second, .val (.long arr), .second, .unset, .unset, .unset, .unset, .unset, .unset, .unset, .unset, .unset, .unset, .unset]) rfl ?_
        show Steps p.tables e below (T6.setTop (mkF m 147 #[.val (.int xs), .val (.long st), .second, .val (.int stp), .val (.long exc), .second, .val (.int sel), .val (.long q), .second, .val (.ref a2), .val (.int (2 : Int32)), .val (.int (1 : Int32)), .val (.long o2), .second, .val (.long arr), .second, .unset, .unset, .unset, .unset, .unset, .unset, .unset, .unset, .unset, .unset, .unset] [])) _
        refine XS.aload X6.here hx rfl (hb hby at_147) rfl rfl ?_
        show Steps p.tables e below (T6.setTop (mkF m 149 #[.val (.int xs), .val (.long st), .second, .val (.int stp), .val (.long exc), .second, .val (.int sel), .val (.long q), .second, .val (.ref a2), .val (.int (2 : Int32)), .val (.int (1 : Int32)), .val (.long o2), .second, .val (.long arr), .second, .unset, .unset, .unset, .unset, .unset, .unset, .unset, .unset, .unset, .unset, .unset] [(.ref a2)])) _
        refine XS.lload X6.here hx rfl (hb hby at_149) rfl ?_
        show Steps p.tables e below (T6.setTop (mkF m 151 #[.val (.int xs), .val (.long st), .second, .val (.int stp), .val (.long exc), .second, .val (.int sel), .val (.long q), .second, .val (.ref a2), .val (.int (2 : Int32)), .val (.int (1 : Int32)), .val (.long o2), .second, .val (.long arr), .second, .unset, .unset, .unset, .unset, .unset, .unset, .unset, .unset, .unset, .unset, .unset] [(.long arr), (.ref a2)])) _
        refine st8.trans ?_
        show Steps p.tables e below (T8.setTop (mkF m 154 #[.val (.int xs), .val (.long st), .second, .val (.int stp), .val (.long exc), .second, .val (.int sel), .val (.long q), .second, .val (.ref a2), .val (.int (2 : Int32)), .val (.int (1 : Int32)), .val (.long o2), .second, .val (.long arr), .second, .unset, .unset, .unset, .unset, .unset, .unset, .unset, .unset, .unset, .unset, .unset] [(.long (st + o2))])) _
        refine XS.lstore X8.here hx rfl (hb hby at_154) rfl (l' := #[.val (.int xs), .val (.long st), .second, .val (.int stp), .val (.long exc), .second, .val (.int sel), .val (.long q), .second, .val (.ref a2), .val (.int (2 : Int32)), .val (.int (1 : Int32)), .val (.long o2), .second, .val (.long arr), .second, .val (.long (st + o2)), .second, .unset, .unset, .unset, .unset, .unset, .unset, .unset, .unset, .unset]) rfl ?_
        show Steps p.tables e below (T8.setTop (mkF m 156 #[.val (.int xs), .val (.long st), .second, .val (.int stp), .val (.long exc), .second, .val (.int sel), .val (.long q), .second, .val (.ref a2), .val (.int (2 : Int32)), .val (.int (1 : Int32)), .val (.long o2), .second, .val (.long arr), .second, .val (.long (st + o2)), .second, .unset, .unset, .unset, .unset, .unset, .unset, .unset, .unset, .unset] [])) _
        refine XS.aload X8.here hx rfl (hb hby at_156) rfl rfl ?_
        show Steps p.tables e below (T8.setTop (mkF m 158 #[.val (.int xs), .val (.long st), .second, .val (.int stp), .val (.long exc), .second, .val (.int sel), .val (.long q), .second, .val (.ref a2), .val (.int (2 : Int32)), .val (.int (1 : Int32)), .val (.long o2), .second, .val (.long arr), .second, .val (.long (st + o2)), .second, .unset, .unset, .unset, .unset, .unset, .unset, .unset, .unset, .unset] [(.ref a2)])) _
        refine st9.trans ?_
        show Steps p.tables e below (T9.setTop (mkF m 161 #[.val (.int xs), .val (.long st), .second, .val (.int stp), .val (.long exc), .second, .val (.int sel), .val (.long q), .second, .val (.ref a2), .val (.int (2 : Int32)), .val (.int (1 : Int32)), .val (.long o2), .second, .val (.long arr), .second, .val (.long (st + o2)), .second, .unset, .unset, .unset, .unset, .unset, .unset, .unset, .unset, .unset] [(.long (st + o3))])) _
        refine XS.lstore X9.here hx rfl (hb hby at_161) rfl (l' := #[.val (.int xs), .val (.long st), .second, .val (.int stp), .val (.long exc), .second, .val (.int sel), .val (.long q), .second, .val (.ref a2), .val (.int (2 : Int32)), .val (.int (1 : Int32)), .val (.long o2), .second, .val (.long arr), .second, .val (.long (st + o2)), .second, .val (.long (st + o3)), .second, .unset, .unset, .unset, .unset, .unset, .unset, .unset]) rfl ?_
        show Steps p.tables e below (T9.setTop (mkF m 163 #[.val (.int xs), .val (.long st), .second, .val (.int stp), .val (.long exc), .second, .val (.int sel), .val (.long q), .second, .val (.ref a2), .val (.int (2 : Int32)), .val (.int (1 : Int32)), .val (.long o2), .second, .val (.long arr), .second, .val (.long (st + o2)), .second, .val (.long (st + o3)), .second, .unset, .unset, .unset, .unset, .unset, .unset, .unset] [])) _
        refine XS.lloadN X9.here hx rfl (hb hby at_163) rfl ?_
        show Steps p.tables e below (T9.setTop (mkF m 164 #[.val (.int xs), .val (.long st), .second, .val (.int stp), .val (.long exc), .second, .val (.int sel), .val (.long q), .second, .val (.ref a2), .val (.int (2 : Int32)), .val (.int (1 : Int32)), .val (.long o2), .second, .val (.long arr), .second, .val (.long (st + o2)), .second, .val (.long (st + o3)), .second, .unset, .unset, .unset, .unset, .unset, .unset, .unset] [(.long st)])) _
        refine XS.lload X9.here hx rfl (hb hby at_164) rfl ?_
        show Steps p.tables e below (T9.setTop (mkF m 166 #[.val (.int xs), .val (.long st), .second, .val (.int stp), .val (.long exc), .second, .val (.int sel), .val (.long q), .second, .val (.ref a2), .val (.int (2 : Int32)), .val (.int (1 : Int32)), .val (.long o2), .second, .val (.long arr), .second, .val (.long (st + o2)), .second, .val (.long (st + o3)), .second, .unset, .unset, .unset, .unset, .unset, .unset, .unset] [(.long o2), (.long st)])) _
        refine XS.ladd X9.here hx rfl (hb hby at_166) rfl ?_
        show Steps p.tables e below (T9.setTop (mkF m 167 #[.val (.int xs), .val (.long st), .second, .val (.int stp), .val (.long exc), .second, .val (.int sel), .val (.long q), .second, .val (.ref a2), .val (.int (2 : Int32)), .val (.int (1 : Int32)), .val (.long o2), .second, .val (.long arr), .second, .val (.long (st + o2)), .second, .val (.long (st + o3)), .second, .unset, .unset, .unset, .unset, .unset, .unset, .unset] [(.long (st + o2))])) _
        refine XS.lstore X9.here hx rfl (hb hby at_167) rfl (l' := #[.val (.int xs), .val (.long st), .second, .val (.int stp), .val (.long exc), .second, .val (.int sel), .val (.long q), .second, .val (.ref a2), .val (.int (2 : Int32)), .val (.int (1 : Int32)), .val (.long o2), .second, .val (.long arr), .second, .val (.long (st + o2)), .second, .val (.long (st + o3)), .second, .val (.long (st + o2)), .second, .unset, .unset, .unset, .unset, .unset]) rfl ?_
        show Steps p.tables e below (T9.setTop (mkF m 169 #[.val (.int xs), .val (.long st), .second, .val (.int stp), .val (.long exc), .second, .val (.int sel), .val (.long q), .second, .val (.ref a2), .val (.int (2 : Int32)), .val (.int (1 : Int32)), .val (.long o2), .second, .val (.long arr), .second, .val (.long (st + o2)), .second, .val (.long (st + o3)), .second, .val (.long (st + o2)), .second, .unset, .unset, .unset, .unset, .unset] [])) _
        refine XS.lload X9.here hx rfl (hb hby at_169) rfl ?_
        show Steps p.tables e below (T9.setTop (mkF m 171 #[.val (.int xs), .val (.long st), .second, .val (.int stp), .val (.long exc), .second, .val (.int sel), .val (.long q), .second, .val (.ref a2), .val (.int (2 : Int32)), .val (.int (1 : Int32)), .val (.long o2), .second, .val (.long arr), .second, .val (.long (st + o2)), .second, .val (.long (st + o3)), .second, .val (.long (st + o2)), .second, .unset, .unset, .unset, .unset, .unset] [(.long arr)])) _
        refine XS.lloadN X9.here hx rfl (hb hby at_171) rfl ?_
        show Steps p.tables e below (T9.setTop (mkF m 172 #[.val (.int xs), .val (.long st), .second, .val (.int stp), .val (.long exc), .second, .val (.int sel), .val (.long q), .second, .val (.ref a2), .val (.int (2 : Int32)), .val (.int (1 : Int32)), .val (.long o2), .second, .val (.long arr), .second, .val (.long (st + o2)), .second, .val (.long (st + o3)), .second, .val (.long (st + o2)), .second, .unset, .unset, .unset, .unset, .unset] [(.long st), (.long arr)])) _
        refine XS.lsub X9.here hx rfl (hb hby at_172) rfl ?_
        show Steps p.tables e below (T9.setTop (mkF m 173 #[.val (.int xs), .val (.long st), .second, .val (.int stp), .val (.long exc), .second, .val (.int sel), .val (.long q), .second, .val (.ref a2), .val (.int (2 : Int32)), .val (.int (1 : Int32)), .val (.long o2), .second, .val (.long arr), .second, .val (.long (st + o2)), .second, .val (.long (st + o3)), .second, .val (.long (st + o2)), .second, .unset, .unset, .unset, .unset, .unset] [(.long (arr - st))])) _
        refine XS.lload X9.here hx rfl (hb hby at_173) rfl ?_
        show Steps p.tables e below (T9.setTop (mkF m 175 #[.val (.int xs), .val (.long st), .second, .val (.int stp), .val (.long exc), .second, .val (.int sel), .val (.long q), .second, .val (.ref a2), .val (.int (2 : Int32)), .val (.int (1 : Int32)), .val (.long o2), .second, .val (.long arr), .second, .val (.long (st + o2)), .second, .val (.long (st + o3)), .second, .val (.long (st + o2)), .second, .unset, .unset, .unset, .unset, .unset] [(.long o2), (.long (arr - st))])) _
        refine XS.lcmp X9.here hx rfl (hb hby at_175) rfl ?_
        show Steps p.tables e below (T9.setTop (mkF m 176 #[.val (.int xs), .val (.long st), .second, .val (.int stp), .val (.long exc), .second, .val (.int sel), .val (.long q), .second, .val (.ref a2), .val (.int (2 : Int32)), .val (.int (1 : Int32)), .val (.long o2), .second, .val (.long arr), .second, .val (.long (st + o2)), .second, .val (.long (st + o3)), .second, .val (.long (st + o2)), .second, .unset, .unset, .unset, .unset, .unset] [(.int (lcmpW (arr - st) o2))])) _
        refine XS.ifYes X9.here hx rfl (pc0 := 176) (pc' := 183) rfl (hb hby at_176) rfl ((Jvm.Own.holdsL _ _ _).trans (Jvm.Own.dT (by omega))) (by decide) (by decide) ?_
        show Steps p.tables e below (T9.setTop (mkF m 183 #[.val (.int xs), .val (.long st), .second, .val (.int stp), .val (.long exc), .second, .val (.int sel), .val (.long q), .second, .val (.ref a2), .val (.int (2 : Int32)), .val (.int (1 : Int32)), .val (.long o2), .second, .val (.long arr), .second, .val (.long (st + o2)), .second, .val (.long (st + o3)), .second, .val (.long (st + o2)), .second, .unset, .unset, .unset, .unset, .unset] [])) _
        refine XS.iconst X9.here hx rfl (hb hby at_183) ?_
        show Steps p.tables e below (T9.setTop (mkF m 184 #[.val (.int xs), .val (.long st), .second, .val (.int stp), .val (.long exc), .second, .val (.int sel), .val (.long q), .second, .val (.ref a2), .val (.int (2 : Int32)), .val (.int (1 : Int32)), .val (.long o2), .second, .val (.long arr), .second, .val (.long (st + o2)), .second, .val (.long (st + o3)), .second, .val (.long (st + o2)), .second, .unset, .unset, .unset, .unset, .unset] [(.int (0 : Int32))])) _
        refine XS.istore X9.here hx rfl (hb hby at_184) rfl (l' := #[.val (.int xs), .val (.long st), .second, .val (.int stp), .val (.long exc), .second, .val (.int sel), .val (.long q), .second, .val (.ref a2), .val (.int (2 : Int32)), .val (.int (1 : Int32)), .val (.long o2), .second, .val (.long arr), .second, .val (.long (st + o2)), .second, .val (.long (st + o3)), .second, .val (.long (st + o2)), .second, .val (.int (0 : Int32)), .unset, .unset, .unset, .unset]) rfl ?_
        show Steps p.tables e below (T9.setTop (mkF m 186 #[.val (.int xs), .val (.long st), .second, .val (.int stp), .val (.long exc), .second, .val (.int sel), .val (.long q), .second, .val (.ref a2), .val (.int (2 : Int32)), .val (.int (1 : Int32)), .val (.long o2), .second, .val (.long arr), .second, .val (.long (st + o2)), .second, .val (.long (st + o3)), .second, .val (.long (st + o2)), .second, .val (.int (0 : Int32)), .unset, .unset, .unset, .unset] [])) _
        refine XS.iload X9.here hx rfl (hb hby at_186) rfl ?_
        show Steps p.tables e below (T9.setTop (mkF m 188 #[.val (.int xs), .val (.long st), .second, .val (.int stp), .val (.long exc), .second, .val (.int sel), .val (.long q), .second, .val (.ref a2), .val (.int (2 : Int32)), .val (.int (1 : Int32)), .val (.long o2), .second, .val (.long arr), .second, .val (.long (st + o2)), .second, .val (.long (st + o3)), .second, .val (.long (st + o2)), .second, .val (.int (0 : Int32)), .unset, .unset, .unset, .unset] [(.int (0 : Int32))])) _
        refine XS.ifYes X9.here hx rfl (pc0 := 188) (pc' := 196) rfl (hb hby at_188) rfl rfl (by decide) (by decide) ?_
        show Steps p.tables e below (T9.setTop (mkF m 196 #[.val (.int xs), .val (.long st), .second, .val (.int stp), .val (.long exc), .second, .val (.int sel), .val (.long q), .second, .val (.ref a2), .val (.int (2 : Int32)), .val (.int (1 : Int32)), .val (.long o2), .second, .val (.long arr), .second, .val (.long (st + o2)), .second, .val (.long (st + o3)), .second, .val (.long (st + o2)), .second, .val (.int (0 : Int32)), .unset, .unset, .unset, .unset] [])) _
        refine XS.lload X9.here hx rfl (hb hby at_196) rfl ?_
        show Steps p.tables e below (T9.setTop (mkF m 198 #[.val (.int xs), .val (.long st), .second, .val (.int stp), .val (.long exc), .second, .val (.int sel), .val (.long q), .second, .val (.ref a2), .val (.int (2 : Int32)), .val (.int (1 : Int32)), .val (.long o2), .second, .val (.long arr), .second, .val (.long (st + o2)), .second, .val (.long (st + o3)), .second, .val (.long (st + o2)), .second, .val (.int (0 : Int32)), .unset, .unset, .unset, .unset] [(.long (st + o2))])) _
        refine XS.lstore X9.here hx rfl (hb hby at_198) rfl (l' := #[.val (.int xs), .val (.long st), .second, .val (.int stp), .val (.long exc), .second, .val (.int sel), .val (.long q), .second, .val (.ref a2), .val (.int (2 : Int32)), .val (.int (1 : Int32)), .val (.long o2), .second, .val (.long arr), .second, .val (.long (st + o2)), .second, .val (.long (st + o3)), .second, .val (.long (st + o2)), .second, .val (.int (0 : Int32)), .val (.long (st + o2)), .second, .unset, .unset]) rfl ?_
        show Steps p.tables e below (T9.setTop (mkF m 200 #[.val (.int xs), .val (.long st), .second, .val (.int stp), .val (.long exc), .second, .val (.int sel), .val (.long q), .second, .val (.ref a2), .val (.int (2 : Int32)), .val (.int (1 : Int32)), .val (.long o2), .second, .val (.long arr), .second, .val (.long (st + o2)), .second, .val (.long (st + o3)), .second, .val (.long (st + o2)), .second, .val (.int (0 : Int32)), .val (.long (st + o2)), .second, .unset, .unset] [])) _
        refine XS.lload X9.here hx rfl (hb hby at_200) rfl ?_
        show Steps p.tables e below (T9.setTop (mkF m 202 #[.val (.int xs), .val (.long st), .second, .val (.int stp), .val (.long exc), .second, .val (.int sel), .val (.long q), .second, .val (.ref a2), .val (.int (2 : Int32)), .val (.int (1 : Int32)), .val (.long o2), .second, .val (.long arr), .second, .val (.long (st + o2)), .second, .val (.long (st + o3)), .second, .val (.long (st + o2)), .second, .val (.int (0 : Int32)), .val (.long (st + o2)), .second, .unset, .unset] [(.long (st + o2))])) _
        refine XS.lload X9.here hx rfl (hb hby at_202) rfl ?_
        show Steps p.tables e below (T9.setTop (mkF m 204 #[.val (.int xs), .val (.long st), .second, .val (.int stp), .val (.long exc), .second, .val (.int sel), .val (.long q), .second, .val (.ref a2), .val (.int (2 : Int32)), .val (.int (1 : Int32)), .val (.long o2), .second, .val (.long arr), .second, .val (.long (st + o2)), .second, .val (.long (st + o3)), .second, .val (.long (st + o2)), .second, .val (.int (0 : Int32)), .val (.long (st + o2)), .second, .unset, .unset] [(.long q), (.long (st + o2))])) _
        refine XS.ladd X9.here hx rfl (hb hby at_204) rfl ?_
        show Steps p.tables e below (T9.setTop (mkF m 205 #[.val (.int xs), .val (.long st), .second, .val (.int stp), .val (.long exc), .second, .val (.int sel), .val (.long q), .second, .val (.ref a2), .val (.int (2 : Int32)), .val (.int (1 : Int32)), .val (.long o2), .second, .val (.long arr), .second, .val (.long (st + o2)), .second, .val (.long (st + o3)), .second, .val (.long (st + o2)), .second, .val (.int (0 : Int32)), .val (.long (st + o2)), .second, .unset, .unset] [(.long ((st + o2) + q))])) _
        refine XS.lstore X9.here hx rfl (hb hby at_205) rfl (l' := #[.val (.int xs), .val (.long st), .second, .val (.int stp), .val (.long exc), .second, .val (.int sel), .val (.long q), .second, .val (.ref a2), .val (.int (2 : Int32)), .val (.int (1 : Int32)), .val (.long o2), .second, .val (.long arr), .second, .val (.long (st + o2)), .second, .val (.long (st + o3)), .second, .val (.long (st + o2)), .second, .val (.int (0 : Int32)), .val (.long (st + o2)), .second, .val (.long ((st + o2) + q)), .second]) rfl ?_
        show Steps p.tables e below (T9.setTop (mkF m 207 #[.val (.int xs), .val (.long st), .second, .val (.int stp), .val (.long exc), .second, .val (.int sel), .val (.long q), .second, .val (.ref a2), .val (.int (2 : Int32)), .val (.int (1 : Int32)), .val (.long o2), .second, .val (.long arr), .second, .val (.long (st + o2)), .second, .val (.long (st + o3)), .second, .val (.long (st + o2)), .second, .val (.int (0 : Int32)), .val (.long (st + o2)), .second, .val (.long ((st + o2) + q)), .second] [])) _
        refine XS.iload X9.here hx rfl (hb hby at_207) rfl ?_
        show Steps p.tables e below (T9.setTop (mkF m 209 #[.val (.int xs), .val (.long st), .second, .val (.int stp), .val (.long exc), .second, .val (.int sel), .val (.long q), .second, .val (.ref a2), .val (.int (2 : Int32)), .val (.int (1 : Int32)), .val (.long o2), .second, .val (.long arr), .second, .val (.long (st + o2)), .second, .val (.long (st + o3)), .second, .val (.long (st + o2)), .second, .val (.int (0 : Int32)), .val (.long (st + o2)), .second, .val (.long ((st + o2) + q)), .second] [(.int (1 : Int32))])) _
        refine XS.ifNo X9.here hx rfl (hb hby at_209) rfl rfl ?_
        show Steps p.tables e below (T9.setTop (mkF m 212 #[.val (.int xs), .val (.long st), .second, .val (.int stp), .val (.long exc), .second, .val (.int sel), .val (.long q), .second, .val (.ref a2), .val (.int (2 : Int32)), .val (.int (1 : Int32)), .val (.long o2), .second, .val (.long arr), .second, .val (.long (st + o2)), .second, .val (.long (st + o3)), .second, .val (.long (st + o2)), .second, .val (.int (0 : Int32)), .val (.long (st + o2)), .second, .val (.long ((st + o2) + q)), .second] [])) _
        refine XS.lload X9.here hx rfl (hb hby at_212) rfl ?_
        show Steps p.tables e below (T9.setTop (mkF m 214 #[.val (.int xs), .val (.long st), .second, .val (.int stp), .val (.long exc), .second, .val (.int sel), .val (.long q), .second, .val (.ref a2), .val (.int (2 : Int32)), .val (.int (1 : Int32)), .val (.long o2), .second, .val (.long arr), .second, .val (.long (st + o2)), .second, .val (.long (st + o3)), .second, .val (.long (st + o2)), .second, .val (.int (0 : Int32)), .val (.long (st + o2)), .second, .val (.long ((st + o2) + q)), .second] [(.long (st + o2))])) _
        refine XS.lload X9.here hx rfl (hb hby at_214) rfl ?_
        show Steps p.tables e below (T9.setTop (mkF m 216 #[.val (.int xs), .val (.long st), .second, .val (.int stp), .val (.long exc), .second, .val (.int sel), .val (.long q), .second, .val (.ref a2), .val (.int (2 : Int32)), .val (.int (1 : Int32)), .val (.long o2), .second, .val (.long arr), .second, .val (.long (st + o2)), .second, .val (.long (st + o3)), .second, .val (.long (st + o2)), .second, .val (.int (0 : Int32)), .val (.long (st + o2)), .second, .val (.long ((st + o2) + q)), .second] [(.long (st + o2)), (.long (st + o2))])) _
        refine XS.lcmp X9.here hx rfl (hb hby at_216) rfl ?_
        show Steps p.tables e below (T9.setTop (mkF m 217 #[.val (.int xs), .val (.long st), .second, .val (.int stp), .val (.long exc), .second, .val (.int sel), .val (.long q), .second, .val (.ref a2), .val (.int (2 : Int32)), .val (.int (1 : Int32)), .val (.long o2), .second, .val (.long arr), .second, .val (.long (st + o2)), .second, .val (.long (st + o3)), .second, .val (.long (st + o2)), .second, .val (.int (0 : Int32)), .val (.long (st + o2)), .second, .val (.long ((st + o2) + q)), .second] [(.int (lcmpW (st + o2) (st + o2)))])) _
        refine XS.ifNo X9.here hx rfl (hb hby at_217) rfl ((Jvm.Own.holdsL _ _ _).trans (Jvm.Own.dF (fun q => q rfl))) ?_
        show Steps p.tables e below (T9.setTop (mkF m 220 #[.val (.int xs), .val (.long st), .second, .val (.int stp), .val (.long exc), .second, .val (.int sel), .val (.long q), .second, .val (.ref a2), .val (.int (2 : Int32)), .val (.int (1 : Int32)), .val (.long o2), .second, .val (.long arr), .second, .val (.long (st + o2)), .second, .val (.long (st + o3)), .second, .val (.long (st + o2)), .second, .val (.int (0 : Int32)), .val (.long (st + o2)), .second, .val (.long ((st + o2) + q)), .second] [])) _
        refine XS.lload X9.here hx rfl (hb hby at_220) rfl ?_
        show Steps p.tables e below (T9.setTop (mkF m 222 #[.val (.int xs), .val (.long st), .second, .val (.int stp), .val (.long exc), .second, .val (.int sel), .val (.long q), .second, .val (.ref a2), .val (.int (2 : Int32)), .val (.int (1 : Int32)), .val (.long o2), .second, .val (.long arr), .second, .val (.long (st + o2)), .second, .val (.long (st + o3)), .second, .val (.long (st + o2)), .second, .val (.int (0 : Int32)), .val (.long (st + o2)), .second, .val (.long ((st + o2) + q)), .second] [(.long (st + o3))])) _
        refine XS.lload X9.here hx rfl (hb hby at_222) rfl ?_
        show Steps p.tables e below (T9.setTop (mkF m 224 #[.val (.int xs), .val (.long st), .second, .val (.int stp), .val (.long exc), .second, .val (.int sel), .val (.long q), .second, .val (.ref a2), .val (.int (2 : Int32)), .val (.int (1 : Int32)), .val (.long o2), .second, .val (.long arr), .second, .val (.long (st + o2)), .second, .val (.long (st + o3)), .second, .val (.long (st + o2)), .second, .val (.int (0 : Int32)), .val (.long (st + o2)), .second, .val (.long ((st + o2) + q)), .second] [(.long ((st + o2) + q)), (.long (st + o3))])) _
        refine XS.lcmp X9.here hx rfl (hb hby at_224) rfl ?_
        show Steps p.tables e below (T9.setTop (mkF m 225 #[.val (.int xs), .val (.long st), .second, .val (.int stp), .val (.long exc), .second, .val (.int sel), .val (.long q), .second, .val (.ref a2), .val (.int (2 : Int32)), .val (.int (1 : Int32)), .val (.long o2), .second, .val (.long arr), .second, .val (.long (st + o2)), .second, .val (.long (st + o3)), .second, .val (.long (st + o2)), .second, .val (.int (0 : Int32)), .val (.long (st + o2)), .second, .val (.long ((st + o2) + q)), .second] [(.int (lcmpW (st + o3) ((st + o2) + q)))])) _
        refine XS.ifNo X9.here hx rfl (hb hby at_225) rfl ((Jvm.Own.holdsL _ _ _).trans (Jvm.Own.dF (fun z => z (by rw [Int64.add_assoc, pa3])))) ?_
        show Steps p.tables e below (T9.setTop (mkF m 228 #[.val (.int xs), .val (.long st), .second, .val (.int stp), .val (.long exc), .second, .val (.int sel), .val (.long q), .second, .val (.ref a2), .val (.int (2 : Int32)), .val (.int (1 : Int32)), .val (.long o2), .second, .val (.long arr), .second, .val (.long (st + o2)), .second, .val (.long (st + o3)), .second, .val (.long (st + o2)), .second, .val (.int (0 : Int32)), .val (.long (st + o2)), .second, .val (.long ((st + o2) + q)), .second] [])) _
        refine XS.iconst X9.here hx rfl (hb hby at_228) ?_
        show Steps p.tables e below (T9.setTop (mkF m 229 #[.val (.int xs), .val (.long st), .second, .val (.int stp), .val (.long exc), .second, .val (.int sel), .val (.long q), .second, .val (.ref a2), .val (.int (2 : Int32)), .val (.int (1 : Int32)), .val (.long o2), .second, .val (.long arr), .second, .val (.long (st + o2)), .second, .val (.long (st + o3)), .second, .val (.long (st + o2)), .second, .val (.int (0 : Int32)), .val (.long (st + o2)), .second, .val (.long ((st + o2) + q)), .second] [(.int (1 : Int32))])) _
        refine XS.goto X9.here hx rfl (pc0 := 229) (pc' := 233) rfl (hb hby at_229) (by decide) (by decide) ?_
        show Steps p.tables e below (T9.setTop (mkF m 233 #[.val (.int xs), .val (.long st), .second, .val (.int stp), .val (.long exc), .second, .val (.int sel), .val (.long q), .second, .val (.ref a2), .val (.int (2 : Int32)), .val (.int (1 : Int32)), .val (.long o2), .second, .val (.long arr), .second, .val (.long (st + o2)), .second, .val (.long (st + o3)), .second, .val (.long (st + o2)), .second, .val (.int (0 : Int32)), .val (.long (st + o2)), .second, .val (.long ((st + o2) + q)), .second] [(.int (1 : Int32))])) _
        exact retN X9 hx (t := .boolean) Bd.returns (by simp) (hb hby at_233) hr
      · show QL n0 _ T9.heap _
        exact ⟨rfl, (Fr.app (Fr.app (Fr.app (Fr.app (Fr.app (Fr.app (Fr.app N0 N1) N3) N4) N5) N6) N8) N9)⟩
  · obtain ⟨arr, harr⟩ : ∃ v, st + o3 + exc = v := ⟨_, rfl⟩
    by_cases hc : (o3).toInt < (arr - st).toInt
    · obtain ⟨_, _, ⟨T1, L1, k1, n1⟩, -, X1, ⟨Lc1, hQ1, l1, y1, z1⟩, st1⟩ := Jvm.LawKit.callS X0 hx (y := (⟨"com/example/earnest_load/earnestload/run/ScheduleNextFromPinLaw", "period", "(I)J"⟩ : MethodName)) hown (mvT hZ (hw _ (List.mem_of_getElem? (i := 0) rfl))) (mvT hZ (hw _ (List.mem_of_getElem? (i := 1) rfl))) (mvT hZ (hw _ (List.mem_of_getElem? (i := 2) rfl))) (mvT hZ (hw _ (List.mem_of_getElem? (i := 3) rfl))) (by decide) (backOf (W := 0) (rmPer l Z a0 hw [] sel h0 n0 Z0 q rr htri) hZ (hw _ (List.mem_of_getElem? (i := 3) rfl)) (hw _ (List.mem_of_getElem? (i := 2) rfl)) (by decide) (by decide)) (g := (mkF m 8 #[.val (.int xs), .val (.long st), .second, .val (.int stp), .val (.long exc), .second, .val (.int sel), .unset, .unset, .unset, .unset, .unset, .unset, .unset, .unset, .unset, .unset, .unset, .unset, .unset, .unset, .unset, .unset, .unset, .unset, .unset, .unset] [(.int sel)])) rfl (by rw [hml]; rfl) (argsL := [(.int sel)]) (rest := []) (lenOf pd_2 rfl) rfl (by show 2 * 0 + _ ≤ _; exact Nat.le_of_eq rfl) (hb hby at_8) (fun _ _ => ⟨rfl, e0, (by decide : 0 + 0 ≤ _), (by decide : 0 + 0 ≤ _)⟩)
      dsimp only [Pt.U, Pt.locs, Pt.cells, Pt.slots] at X1 l1 y1 z1 st1 hQ1
      subst l1 y1 z1
      obtain ⟨rfl, N1, e1⟩ := hQ1
      obtain ⟨T2, h2, X2, e2, E2, A2, D2, -, st2⟩ := newO X1 hx hZ hown (hw _ (List.mem_of_getElem? (i := 5) rfl)) (hw _ (List.mem_of_getElem? (i := 6) rfl)) (hw _ (List.mem_of_getElem? (i := 7) rfl)) e1 (g := (mkF m 13 #[.val (.int xs), .val (.long st), .second, .val (.int stp), .val (.long exc), .second, .val (.int sel), .val (.long q), .second, .unset, .unset, .unset, .unset, .unset, .unset, .unset, .unset, .unset, .unset, .unset, .unset, .unset, .unset, .unset, .unset, .unset, .unset] [])) rfl (hb hby at_13) (by decide) (by decide)
      obtain ⟨a2, g2⟩ : ∃ z, z = h0.size := ⟨_, rfl⟩
      rw [← g2] at A2 D2 st2
      have D_start := D2 (Or.inl (hw _ (List.mem_of_getElem? (i := 20) rfl))) (ty := .long) (by decide)
      have D_count := D2 (Or.inl (hw _ (List.mem_of_getElem? (i := 27) rfl))) (ty := .long) (by decide)
      have D_rate := D2 (Or.inr (hw _ (List.mem_of_getElem? (i := 18) rfl))) (ty := .double) (by decide)
      have Z2 : n0 ≤ h2.size := Nat.le_trans Z0 E2.1
      have ga : n0 ≤ a2 := Nat.le_trans Z0 (Nat.le_of_eq g2.symm)
      obtain ⟨_, _, ⟨T3, L3, k3, n3⟩, -, X3, ⟨Lc3, hQ3, l3, y3, z3⟩, st3⟩ := Jvm.LawKit.callS X2 hx (y := (⟨"com/example/earnest_load/earnestload/run/ScheduleNextFromPinLaw", "rate", "(I)I"⟩ : MethodName)) hown (mvT hZ (hw _ (List.mem_of_getElem? (i := 8) rfl))) (mvT hZ (hw _ (List.mem_of_getElem? (i := 9) rfl))) (mvT hZ (hw _ (List.mem_of_getElem? (i := 2) rfl))) (mvT hZ (hw _ (List.mem_of_getElem? (i := 10) rfl))) (by decide) (backOf (W := 2) (rmRate l Z a0 hw [] sel h2 n0 Z2 q rr htri) hZ (hw _ (List.mem_of_getElem? (i := 10) rfl)) (hw _ (List.mem_of_getElem? (i := 2) rfl)) (by decide) (by decide)) (g := (mkF m 19 #[.val (.int xs), .val (.long st), .second, .val (.int stp), .val (.long exc), .second, .val (.int sel), .val (.long q), .second, .unset, .unset, .unset, .unset, .unset, .unset, .unset, .unset, .unset, .unset, .unset, .unset, .unset, .unset, .unset, .unset, .unset, .unset] [(.int sel), (.ref a2), (.ref a2)])) rfl (by rw [hml]; rfl) (argsL := [(.int sel)]) (rest := [(.ref a2), (.ref a2)]) (lenOf pd_3 rfl) rfl (by show 2 * 0 + _ ≤ _; exact Nat.le_of_eq rfl) (hb hby at_19) (fun _ _ => ⟨rfl, e2, (by decide : 1 + 0 ≤ _), (by decide : 3 + 0 ≤ _)⟩)
      dsimp only [Pt.U, Pt.locs, Pt.cells, Pt.slots] at X3 l3 y3 z3 st3 hQ3
      subst l3 y3 z3
      obtain ⟨rfl, N3, e3⟩ := hQ3
      obtain ⟨_, _, ⟨T4, L4, k4, n4⟩, -, X4, ⟨Lc4, hQ4, l4, y4, z4⟩, st4⟩ := X3.specialBack hx (y := (⟨"com/example/earnest_load/earnestload/run/Schedule", "<init>", "(DJ)V"⟩ : MethodName)) rfl hown (mvT hZ (hw _ (List.mem_of_getElem? (i := 11) rfl))) (mvT hZ (hw _ (List.mem_of_getElem? (i := 12) rfl))) (mvT hZ (hw _ (List.mem_of_getElem? (i := 13) rfl))) (by decide) (backOf (W := 1) (rmInit l Z a0 hw [] a2 (FP.i2d rr) st h2 n0 Z2 A2 ga D_start D_count D_rate) hZ (hw _ (List.mem_of_getElem? (i := 13) rfl)) (hw _ (List.mem_of_getElem? (i := 7) rfl)) (by decide) (by decide)) (g := (mkF m 24 #[.val (.int xs), .val (.long st), .second, .val (.int stp), .val (.long exc), .second, .val (.int sel), .val (.long q), .second, .unset, .unset, .unset, .unset, .unset, .unset, .unset, .unset, .unset, .unset, .unset, .unset, .unset, .unset, .unset, .unset, .unset, .unset] [(.long st), (.double (FP.i2d rr)), (.ref a2), (.ref a2)])) rfl (by rw [hml]; rfl) (Steps.refl _) (a := a2) (argsL := [(.double (FP.i2d rr)), (.long st)]) (rest := [(.ref a2)]) (lenOf pd_4 rfl) rfl (by show 2 * 0 + _ ≤ _; exact Nat.le_of_eq rfl) (hb hby at_24) (fun _ _ => ⟨rfl, e3, (by decide : 1 + 0 ≤ _), (by decide : 3 + 0 ≤ _)⟩)
      dsimp only [Pt.U, Pt.locs, Pt.cells, Pt.slots] at X4 l4 y4 z4 st4 hQ4
      subst l4 y4 z4
      obtain ⟨rfl, N4, K4, E4, Fs4, Fc4, Fr4⟩ := hQ4
      have Z4 : n0 ≤ T4.heap.size := Nat.le_trans Z2 K4.1
      obtain ⟨cq5, kq5, q5a, q5b, q5c⟩ := isOf hZ rfl E4
      obtain ⟨_, _, ⟨T5, L5, k5, n5⟩, -, X5, ⟨Lc5, hQ5, l5, y5, z5⟩, st5⟩ := X4.virtualBack hx (y := (⟨"com/example/earnest_load/earnestload/run/Schedule", "next", "()J"⟩ : MethodName)) (z := (⟨"com/example/earnest_load/earnestload/run/Schedule", "next", "()J"⟩ : MethodName)) hown (mvT hZ (hw _ (List.mem_of_getElem? (i := 21) rfl))) (mvT hZ (hw _ (List.mem_of_getElem? (i := 22) rfl))) (notFace_of_selects (args := #[]) (mvT hZ (hw _ (List.mem_of_getElem? (i := 24) rfl)))) (mvT hZ (hw _ (List.mem_of_getElem? (i := 24) rfl))) (mvT hZ (hw _ (List.mem_of_getElem? (i := 23) rfl))) (by decide) (backOf (W := 0) (rmNext l Z a0 hw [] a2 T4.heap n0 Z4 st (0 : Int64) (0 : Int64) (FP.i2d rr) Fs4 Fc4 Fr4 E4 ga p0.1 p0.2.1 p0.2.2) hZ (hw _ (List.mem_of_getElem? (i := 25) rfl)) (hw _ (List.mem_of_getElem? (i := 7) rfl)) (by decide) (by decide)) q5a q5c (g := (mkF m 49 #[.val (.int xs), .val (.long st), .second, .val (.int stp), .val (.long exc), .second, .val (.int sel), .val (.long q), .second, .val (.ref a2), .val (.int (3 : Int32)), .val (.int (1 : Int32)), .unset, .unset, .unset, .unset, .unset, .unset, .unset, .unset, .unset, .unset, .unset, .unset, .unset, .unset, .unset] [(.ref a2)])) rfl (by rw [hml]; rfl) (Steps.refl _) (argsL := []) (rest := []) (lenOf pd_1 rfl) rfl (by show 2 * 0 + _ ≤ _; exact Nat.le_of_eq rfl) (hb hby at_49) (fun _ _ => ⟨rfl, rfl, (by decide : 1 + 0 ≤ _), (by decide : 3 + 0 ≤ _)⟩)
      dsimp only [Pt.U, Pt.locs, Pt.cells, Pt.slots] at X5 l5 y5 z5 st5 hQ5
      subst l5 y5 z5
      obtain ⟨rfl, N5, K5, E5, Fs5, Fc5, Fr5⟩ := hQ5
      have Z5 : n0 ≤ T5.heap.size := Nat.le_trans Z4 K5.1
      obtain ⟨cq6, kq6, q6a, q6b, q6c⟩ := isOf hZ rfl E5
      obtain ⟨_, _, ⟨T6, L6, k6, n6⟩, -, X6, ⟨Lc6, hQ6, l6, y6, z6⟩, st6⟩ := X5.virtualBack hx (y := (⟨"com/example/earnest_load/earnestload/run/Schedule", "next", "()J"⟩ : MethodName)) (z := (⟨"com/example/earnest_load/earnestload/run/Schedule", "next", "()J"⟩ : MethodName)) hown (mvT hZ (hw _ (List.mem_of_getElem? (i := 21) rfl))) (mvT hZ (hw _ (List.mem_of_getElem? (i := 22) rfl))) (notFace_of_selects (args := #[]) (mvT hZ (hw _ (List.mem_of_getElem? (i := 24) rfl)))) (mvT hZ (hw _ (List.mem_of_getElem? (i := 24) rfl))) (mvT hZ (hw _ (List.mem_of_getElem? (i := 23) rfl))) (by decide) (backOf (W := 0) (rmNext l Z a0 hw [] a2 T5.heap n0 Z5 st (0 + (1 : Int64)) q (FP.i2d rr) Fs5 Fc5 Fr5 E5 ga p1.1 p1.2.1 p1.2.2) hZ (hw _ (List.mem_of_getElem? (i := 25) rfl)) (hw _ (List.mem_of_getElem? (i := 7) rfl)) (by decide) (by decide)) q6a q6c (g := (mkF m 77 #[.val (.int xs), .val (.long st), .second, .val (.int stp), .val (.long exc), .second, .val (.int sel), .val (.long q), .second, .val (.ref a2), .val (.int (3 : Int32)), .val (.int (1 : Int32)), .unset, .unset, .unset, .unset, .unset, .unset, .unset, .unset, .unset, .unset, .unset, .unset, .unset, .unset, .unset] [(.ref a2)])) rfl (by rw [hml]; rfl) (Steps.refl _) (argsL := []) (rest := []) (lenOf pd_1 rfl) rfl (by show 2 * 0 + _ ≤ _; exact Nat.le_of_eq rfl) (hb hby at_77) (fun _ _ => ⟨rfl, rfl, (by decide : 1 + 0 ≤ _), (by decide : 3 + 0 ≤ _)⟩)
      dsimp only [Pt.U, Pt.locs, Pt.cells, Pt.slots] at X6 l6 y6 z6 st6 hQ6
      subst l6 y6 z6
      obtain ⟨rfl, N6, K6, E6, Fs6, Fc6, Fr6⟩ := hQ6
      have Z6 : n0 ≤ T6.heap.size := Nat.le_trans Z5 K6.1
      obtain ⟨cq7, kq7, q7a, q7b, q7c⟩ := isOf hZ rfl E6
      obtain ⟨_, _, ⟨T7, L7, k7, n7⟩, -, X7, ⟨Lc7, hQ7, l7, y7, z7⟩, st7⟩ := X6.virtualBack hx (y := (⟨"com/example/earnest_load/earnestload/run/Schedule", "next", "()J"⟩ : MethodName)) (z := (⟨"com/example/earnest_load/earnestload/run/Schedule", "next", "()J"⟩ : MethodName)) hown (mvT hZ (hw _ (List.mem_of_getElem? (i := 21) rfl))) (mvT hZ (hw _ (List.mem_of_getElem? (i := 22) rfl))) (notFace_of_selects (args := #[]) (mvT hZ (hw _ (List.mem_of_getElem? (i := 24) rfl)))) (mvT hZ (hw _ (List.mem_of_getElem? (i := 24) rfl))) (mvT hZ (hw _ (List.mem_of_getElem? (i := 23) rfl))) (by decide) (backOf (W := 0) (rmNext l Z a0 hw [] a2 T6.heap n0 Z6 st (0 + (1 : Int64) + (1 : Int64)) o2 (FP.i2d rr) Fs6 Fc6 Fr6 E6 ga p2.1 p2.2.1 p2.2.2) hZ (hw _ (List.mem_of_getElem? (i := 25) rfl)) (hw _ (List.mem_of_getElem? (i := 7) rfl)) (by decide) (by decide)) q7a q7c (g := (mkF m 108 #[.val (.int xs), .val (.long st), .second, .val (.int stp), .val (.long exc), .second, .val (.int sel), .val (.long q), .second, .val (.ref a2), .val (.int (3 : Int32)), .val (.int (1 : Int32)), .unset, .unset, .unset, .unset, .unset, .unset, .unset, .unset, .unset, .unset, .unset, .unset, .unset, .unset, .unset] [(.ref a2)])) rfl (by rw [hml]; rfl) (Steps.refl _) (argsL := []) (rest := []) (lenOf pd_1 rfl) rfl (by show 2 * 0 + _ ≤ _; exact Nat.le_of_eq rfl) (hb hby at_108) (fun _ _ => ⟨rfl, rfl, (by decide : 1 + 0 ≤ _), (by decide : 3 + 0 ≤ _)⟩)
      dsimp only [Pt.U, Pt.locs, Pt.cells, Pt.slots] at X7 l7 y7 z7 st7 hQ7
      subst l7 y7 z7
      obtain ⟨rfl, N7, K7, E7, Fs7, Fc7, Fr7⟩ := hQ7
      have Z7 : n0 ≤ T7.heap.size := Nat.le_trans Z6 K7.1
      obtain ⟨cq8, kq8, q8a, q8b, q8c⟩ := isOf hZ rfl E7
      obtain ⟨_, _, ⟨T8, L8, k8, n8⟩, -, X8, ⟨Lc8, hQ8, l8, y8, z8⟩, st8⟩ := X7.virtualBack hx (y := (⟨"com/example/earnest_load/earnestload/run/Schedule", "nextFrom", "(J)J"⟩ : MethodName)) (z := (⟨"com/example/earnest_load/earnestload/run/Schedule", "nextFrom", "(J)J"⟩ : MethodName)) hown (mvT hZ (hw _ (List.mem_of_getElem? (i := 33) rfl))) (mvT hZ (hw _ (List.mem_of_getElem? (i := 34) rfl))) (notFace_of_selects (args := #[]) (mvT hZ (hw _ (List.mem_of_getElem? (i := 36) rfl)))) (mvT hZ (hw _ (List.mem_of_getElem? (i := 36) rfl))) (mvT hZ (hw _ (List.mem_of_getElem? (i := 35) rfl))) (by decide) (backOf (W := 0) (rmFromL l Z a0 hw [] a2 arr T7.heap n0 Z7 st (0 + (1 : Int64) + (1 : Int64) + (1 : Int64)) o3 (FP.i2d rr) Fs7 Fc7 Fr7 E7 ga p3.1 p3.2.1 p3.2.2 p0.1 p0.2.1 p0.2.2 hc) hZ (hw _ (List.mem_of_getElem? (i := 37) rfl)) (hw _ (List.mem_of_getElem? (i := 7) rfl)) (by decide) (by decide)) q8a q8c (g := (mkF m 151 #[.val (.int xs), .val (.long st), .second, .val (.int stp), .val (.long exc), .second, .val (.int sel), .val (.long q), .second, .val (.ref a2), .val (.int (3 : Int32)), .val (.int (1 : Int32)), .val (.long o3), .second, .val (.long arr), .second, .unset, .unset, .unset, .unset, .unset, .unset, .unset, .unset, .unset, .unset, .unset] [(.long arr), (.ref a2)])) rfl (by rw [hml]; rfl) (Steps.refl _) (argsL := [(.long arr)]) (rest := []) (lenOf pd_0 rfl) rfl (by show 2 * 0 + _ ≤ _; exact Nat.le_of_eq rfl) (hb hby at_151) (fun _ _ => ⟨rfl, rfl, (by decide : 1 + 0 ≤ _), (by decide : 3 + 0 ≤ _)⟩)
      dsimp only [Pt.U, Pt.locs, Pt.cells, Pt.slots] at X8 l8 y8 z8 st8 hQ8
      subst l8 y8 z8
      obtain ⟨rfl, N8, K8, E8, Fs8, Fc8, Fr8⟩ := hQ8
      have Z8 : n0 ≤ T8.heap.size := Nat.le_trans Z7 K8.1
      obtain ⟨cq9, kq9, q9a, q9b, q9c⟩ := isOf hZ rfl E8
      obtain ⟨_, _, ⟨T9, L9, k9, n9⟩, -, X9, ⟨Lc9, hQ9, l9, y9, z9⟩, st9⟩ := X8.virtualBack hx (y := (⟨"com/example/earnest_load/earnestload/run/Schedule", "next", "()J"⟩ : MethodName)) (z := (⟨"com/example/earnest_load/earnestload/run/Schedule", "next", "()J"⟩ : MethodName)) hown (mvT hZ (hw _ (List.mem_of_getElem? (i := 21) rfl))) (mvT hZ (hw _ (List.mem_of_getElem? (i := 22) rfl))) (notFace_of_selects (args := #[]) (mvT hZ (hw _ (List.mem_of_getElem? (i := 24) rfl)))) (mvT hZ (hw _ (List.mem_of_getElem? (i := 24) rfl))) (mvT hZ (hw _ (List.mem_of_getElem? (i := 23) rfl))) (by decide) (backOf (W := 0) (rmNext l Z a0 hw [] a2 T8.heap n0 Z8 arr (0 + (1 : Int64)) q (FP.i2d rr) Fs8 Fc8 Fr8 E8 ga p1.1 p1.2.1 p1.2.2) hZ (hw _ (List.mem_of_getElem? (i := 25) rfl)) (hw _ (List.mem_of_getElem? (i := 7) rfl)) (by decide) (by decide)) q9a q9c (g := (mkF m 158 #[.val (.int xs), .val (.long st), .second, .val (.int stp), .val (.long exc), .second, .val (.int sel), .val (.long q), .second, .val (.ref a2), .val (.int (3 : Int32)), .val (.int (1 : Int32)), .val (.long o3), .second, .val (.long arr), .second, .val (.long (arr + 0)), .second, .unset, .unset, .unset, .unset, .unset, .unset, .unset, .unset, .unset] [(.ref a2)])) rfl (by rw [hml]; rfl) (Steps.refl _) (argsL := []) (rest := []) (lenOf pd_1 rfl) rfl (by show 2 * 0 + _ ≤ _; exact Nat.le_of_eq rfl) (hb hby at_158) (fun _ _ => ⟨rfl, rfl, (by decide : 1 + 0 ≤ _), (by decide : 3 + 0 ≤ _)⟩)
      dsimp only [Pt.U, Pt.locs, Pt.cells, Pt.slots] at X9 l9 y9 z9 st9 hQ9
      subst l9 y9 z9
      obtain ⟨rfl, N9, K9, E9, Fs9, Fc9, Fr9⟩ := hQ9
      obtain ⟨fs, hr, hrun, hended, hW, hsame⟩ := X9.leave (v := some (.int (1 : Int32))) (fun h => by rw [Bd.returns] at h; cases h)
      refine ⟨_, _, pre0 _ ?_, hrun, hended, _, _, rfl, ?_, ⟨_, rfl⟩, hW, hsame.mono (by decide) (by decide)⟩
      · show Steps p.tables e below (s₁.setTop (mkF m 0 #[.val (.int xs), .val (.long st), .second, .val (.int stp), .val (.long exc), .second, .unset, .unset, .unset, .unset, .unset, .unset, .unset, .unset, .unset, .unset, .unset, .unset, .unset, .unset, .unset, .unset, .unset, .unset, .unset, .unset, .unset] [])) _
        refine XS.iloadN X0.here hx rfl (hb hby at_0) rfl ?_
        show Steps p.tables e below (s₁.setTop (mkF m 1 #[.val (.int xs), .val (.long st), .second, .val (.int stp), .val (.long exc), .second, .unset, .unset, .unset, .unset, .unset, .unset, .unset, .unset, .unset, .unset, .unset, .unset, .unset, .unset, .unset, .unset, .unset, .unset, .unset, .unset, .unset] [(.int xs)])) _
        refine XS.bipush X0.here hx rfl (hb hby at_1) ?_
        show Steps p.tables e below (s₁.setTop (mkF m 3 #[.val (.int xs), .val (.long st), .second, .val (.int stp), .val (.long exc), .second, .unset, .unset, .unset, .unset, .unset, .unset, .unset, .unset, .unset, .unset, .unset, .unset, .unset, .unset, .unset, .unset, .unset, .unset, .unset, .unset, .unset] [(.int (7 : Int32)), (.int xs)])) _
        refine XS.iand X0.here hx rfl (hb hby at_3) rfl ?_
        rw [hsel]
        show Steps p.tables e below (s₁.setTop (mkF m 4 #[.val (.int xs), .val (.long st), .second, .val (.int stp), .val (.long exc), .second, .unset, .unset, .unset, .unset, .unset, .unset, .unset, .unset, .unset, .unset, .unset, .unset, .unset, .unset, .unset, .unset, .unset, .unset, .unset, .unset, .unset] [(.int sel)])) _
        refine XS.istore X0.here hx rfl (hb hby at_4) rfl (l' := #[.val (.int xs), .val (.long st), .second, .val (.int stp), .val (.long exc), .second, .val (.int sel), .unset, .unset, .unset, .unset, .unset, .unset, .unset, .unset, .unset, .unset, .unset, .unset, .unset, .unset, .unset, .unset, .unset, .unset, .unset, .unset]) rfl ?_
        show Steps p.tables e below (s₁.setTop (mkF m 6 #[.val (.int xs), .val (.long st), .second, .val (.int stp), .val (.long exc), .second, .val (.int sel), .unset, .unset, .unset, .unset, .unset, .unset, .unset, .unset, .unset, .unset, .unset, .unset, .unset, .unset, .unset, .unset, .unset, .unset, .unset, .unset] [])) _
        refine XS.iload X0.here hx rfl (hb hby at_6) rfl ?_
        show Steps p.tables e below (s₁.setTop (mkF m 8 #[.val (.int xs), .val (.long st), .second, .val (.int stp), .val (.long exc), .second, .val (.int sel), .unset, .unset, .unset, .unset, .unset, .unset, .unset, .unset, .unset, .unset, .unset, .unset, .unset, .unset, .unset, .unset, .unset, .unset, .unset, .unset] [(.int sel)])) _
        refine st1 _ ?_
        show Steps p.tables e below (T1.setTop (mkF m 11 #[.val (.int xs), .val (.long st), .second, .val (.int stp), .val (.long exc), .second, .val (.int sel), .unset, .unset, .unset, .unset, .unset, .unset, .unset, .unset, .unset, .unset, .unset, .unset, .unset, .unset, .unset, .unset, .unset, .unset, .unset, .unset] [(.long q)])) _
        refine XS.lstore X1.here hx rfl (hb hby at_11) rfl (l' := #[.val (.int xs), .val (.long st), .second, .val (.int stp), .val (.long exc), .second, .val (.int sel), .val (.long q), .second, .unset, .unset, .unset, .unset, .unset, .unset, .unset, .unset, .unset, .unset, .unset, .unset, .unset, .unset, .unset, .unset, .unset, .unset]) rfl ?_
        show Steps p.tables e below (T1.setTop (mkF m 13 #[.val (.int xs), .val (.long st), .second, .val (.int stp), .val (.long exc), .second, .val (.int sel), .val (.long q), .second, .unset, .unset, .unset, .unset, .unset, .unset, .unset, .unset, .unset, .unset, .unset, .unset, .unset, .unset, .unset, .unset, .unset, .unset] [])) _
        refine st2 _ ?_
        show Steps p.tables e below (T2.setTop (mkF m 16 #[.val (.int xs), .val (.long st), .second, .val (.int stp), .val (.long exc), .second, .val (.int sel), .val (.long q), .second, .unset, .unset, .unset, .unset, .unset, .unset, .unset, .unset, .unset, .unset, .unset, .unset, .unset, .unset, .unset, .unset, .unset, .unset] [(.ref a2)])) _
        refine XS.dup X2.here hx rfl (hb hby at_16) rfl rfl ?_
        show Steps p.tables e below (T2.setTop (mkF m 17 #[.val (.int xs), .val (.long st), .second, .val (.int stp), .val (.long exc), .second, .val (.int sel), .val (.long q), .second, .unset, .unset, .unset, .unset, .unset, .unset, .unset, .unset, .unset, .unset, .unset, .unset, .unset, .unset, .unset, .unset, .unset, .unset] [(.ref a2), (.ref a2)])) _
        refine XS.iload X2.here hx rfl (hb hby at_17) rfl ?_
        show Steps p.tables e below (T2.setTop (mkF m 19 #[.val (.int xs), .val (.long st), .second, .val (.int stp), .val (.long exc), .second, .val (.int sel), .val (.long q), .second, .unset, .unset, .unset, .unset, .unset, .unset, .unset, .unset, .unset, .unset, .unset, .unset, .unset, .unset, .unset, .unset, .unset, .unset] [(.int sel), (.ref a2), (.ref a2)])) _
        refine st3 _ ?_
        show Steps p.tables e below (T3.setTop (mkF m 22 #[.val (.int xs), .val (.long st), .second, .val (.int stp), .val (.long exc), .second, .val (.int sel), .val (.long q), .second, .unset, .unset, .unset, .unset, .unset, .unset, .unset, .unset, .unset, .unset, .unset, .unset, .unset, .unset, .unset, .unset, .unset, .unset] [(.int rr), (.ref a2), (.ref a2)])) _
        refine XS.i2dS X3.here hx rfl (hb hby at_22) rfl (v := FP.i2d rr) rfl ?_
        show Steps p.tables e below (T3.setTop (mkF m 23 #[.val (.int xs), .val (.long st), .second, .val (.int stp), .val (.long exc), .second, .val (.int sel), .val (.long q), .second, .unset, .unset, .unset, .unset, .unset, .unset, .unset, .unset, .unset, .unset, .unset, .unset, .unset, .unset, .unset, .unset, .unset, .unset] [(.double (FP.i2d rr)), (.ref a2), (.ref a2)])) _
        refine XS.lloadN X3.here hx rfl (hb hby at_23) rfl ?_
        show Steps p.tables e below (T3.setTop (mkF m 24 #[.val (.int xs), .val (.long st), .second, .val (.int stp), .val (.long exc), .second, .val (.int sel), .val (.long q), .second, .unset, .unset, .unset, .unset, .unset, .unset, .unset, .unset, .unset, .unset, .unset, .unset, .unset, .unset, .unset, .unset, .unset, .unset] [(.long st), (.double (FP.i2d rr)), (.ref a2), (.ref a2)])) _
        refine st4.trans ?_
        show Steps p.tables e below (T4.setTop (mkF m 27 #[.val (.int xs), .val (.long st), .second, .val (.int stp), .val (.long exc), .second, .val (.int sel), .val (.long q), .second, .unset, .unset, .unset, .unset, .unset, .unset, .unset, .unset, .unset, .unset, .unset, .unset, .unset, .unset, .unset, .unset, .unset, .unset] [(.ref a2)])) _
        refine XS.astore X4.here hx rfl (hb hby at_27) rfl rfl (l' := #[.val (.int xs), .val (.long st), .second, .val (.int stp), .val (.long exc), .second, .val (.int sel), .val (.long q), .second, .val (.ref a2), .unset, .unset, .unset, .unset, .unset, .unset, .unset, .unset, .unset, .unset, .unset, .unset, .unset, .unset, .unset, .unset, .unset]) rfl ?_
        show Steps p.tables e below (T4.setTop (mkF m 29 #[.val (.int xs), .val (.long st), .second, .val (.int stp), .val (.long exc), .second, .val (.int sel), .val (.long q), .second, .val (.ref a2), .unset, .unset, .unset, .unset, .unset, .unset, .unset, .unset, .unset, .unset, .unset, .unset, .unset, .unset, .unset, .unset, .unset] [])) _
        refine XS.iloadN X4.here hx rfl (hb hby at_29) rfl ?_
        show Steps p.tables e below (T4.setTop (mkF m 30 #[.val (.int xs), .val (.long st), .second, .val (.int stp), .val (.long exc), .second, .val (.int sel), .val (.long q), .second, .val (.ref a2), .unset, .unset, .unset, .unset, .unset, .unset, .unset, .unset, .unset, .unset, .unset, .unset, .unset, .unset, .unset, .unset, .unset] [(.int stp)])) _
        refine XS.iconst X4.here hx rfl (hb hby at_30) ?_
        show Steps p.tables e below (T4.setTop (mkF m 31 #[.val (.int xs), .val (.long st), .second, .val (.int stp), .val (.long exc), .second, .val (.int sel), .val (.long q), .second, .val (.ref a2), .unset, .unset, .unset, .unset, .unset, .unset, .unset, .unset, .unset, .unset, .unset, .unset, .unset, .unset, .unset, .unset, .unset] [(.int (3 : Int32)), (.int stp)])) _
        refine XS.iand X4.here hx rfl (hb hby at_31) rfl ?_
        rw [hkk]
        show Steps p.tables e below (T4.setTop (mkF m 32 #[.val (.int xs), .val (.long st), .second, .val (.int stp), .val (.long exc), .second, .val (.int sel), .val (.long q), .second, .val (.ref a2), .unset, .unset, .unset, .unset, .unset, .unset, .unset, .unset, .unset, .unset, .unset, .unset, .unset, .unset, .unset, .unset, .unset] [(.int (3 : Int32))])) _
        refine XS.istore X4.here hx rfl (hb hby at_32) rfl (l' := #[.val (.int xs), .val (.long st), .second, .val (.int stp), .val (.long exc), .second, .val (.int sel), .val (.long q), .second, .val (.ref a2), .val (.int (3 : Int32)), .unset, .unset, .unset, .unset, .unset, .unset, .unset, .unset, .unset, .unset, .unset, .unset, .unset, .unset, .unset, .unset]) rfl ?_
        show Steps p.tables e below (T4.setTop (mkF m 34 #[.val (.int xs), .val (.long st), .second, .val (.int stp), .val (.long exc), .second, .val (.int sel), .val (.long q), .second, .val (.ref a2), .val (.int (3 : Int32)), .unset, .unset, .unset, .unset, .unset, .unset, .unset, .unset, .unset, .unset, .unset, .unset, .unset, .unset, .unset, .unset] [])) _
        refine XS.iconst X4.here hx rfl (hb hby at_34) ?_
        show Steps p.tables e below (T4.setTop (mkF m 35 #[.val (.int xs), .val (.long st), .second, .val (.int stp), .val (.long exc), .second, .val (.int sel), .val (.long q), .second, .val (.ref a2), .val (.int (3 : Int32)), .unset, .unset, .unset, .unset, .unset, .unset, .unset, .unset, .unset, .unset, .unset, .unset, .unset, .unset, .unset, .unset] [(.int (1 : Int32))])) _
        refine XS.istore X4.here hx rfl (hb hby at_35) rfl (l' := #[.val (.int xs), .val (.long st), .second, .val (.int stp), .val (.long exc), .second, .val (.int sel), .val (.long q), .second, .val (.ref a2), .val (.int (3 : Int32)), .val (.int (1 : Int32)), .unset, .unset, .unset, .unset, .unset, .unset, .unset, .unset, .unset, .unset, .unset, .unset, .unset, .unset, .unset]) rfl ?_
        show Steps p.tables e below (T4.setTop (mkF m 37 #[.val (.int xs), .val (.long st), .second, .val (.int stp), .val (.long exc), .second, .val (.int sel), .val (.long q), .second, .val (.ref a2), .val (.int (3 : Int32)), .val (.int (1 : Int32)), .unset, .unset, .unset, .unset, .unset, .unset, .unset, .unset, .unset, .unset, .unset, .unset, .unset, .unset, .unset] [])) _
        refine XS.iload X4.here hx rfl (hb hby at_37) rfl ?_
        show Steps p.tables e below (T4.setTop (mkF m 39 #[.val (.int xs), .val (.long st), .second, .val (.int stp), .val (.long exc), .second, .val (.int sel), .val (.long q), .second, .val (.ref a2), .val (.int (3 : Int32)), .val (.int (1 : Int32)), .unset, .unset, .unset, .unset, .unset, .unset, .unset, .unset, .unset, .unset, .unset, .unset, .unset, .unset, .unset] [(.int (3 : Int32))])) _
        refine XS.ifNo X4.here hx rfl (hb hby at_39) rfl rfl ?_
        show Steps p.tables e below (T4.setTop (mkF m 42 #[.val (.int xs), .val (.long st), .second, .val (.int stp), .val (.long exc), .second, .val (.int sel), .val (.long q), .second, .val (.ref a2), .val (.int (3 : Int32)), .val (.int (1 : Int32)), .unset, .unset, .unset, .unset, .unset, .unset, .unset, .unset, .unset, .unset, .unset, .unset, .unset, .unset, .unset] [])) _
        refine XS.iload X4.here hx rfl (hb hby at_42) rfl ?_
        show Steps p.tables e below (T4.setTop (mkF m 44 #[.val (.int xs), .val (.long st), .second, .val (.int stp), .val (.long exc), .second, .val (.int sel), .val (.long q), .second, .val (.ref a2), .val (.int (3 : Int32)), .val (.int (1 : Int32)), .unset, .unset, .unset, .unset, .unset, .unset, .unset, .unset, .unset, .unset, .unset, .unset, .unset, .unset, .unset] [(.int (1 : Int32))])) _
        refine XS.ifNo X4.here hx rfl (hb hby at_44) rfl rfl ?_
        show Steps p.tables e below (T4.setTop (mkF m 47 #[.val (.int xs), .val (.long st), .second, .val (.int stp), .val (.long exc), .second, .val (.int sel), .val (.long q), .second, .val (.ref a2), .val (.int (3 : Int32)), .val (.int (1 : Int32)), .unset, .unset, .unset, .unset, .unset, .unset, .unset, .unset, .unset, .unset, .unset, .unset, .unset, .unset, .unset] [])) _
        refine XS.aload X4.here hx rfl (hb hby at_47) rfl rfl ?_
        show Steps p.tables e below (T4.setTop (mkF m 49 #[.val (.int xs), .val (.long st), .second, .val (.int stp), .val (.long exc), .second, .val (.int sel), .val (.long q), .second, .val (.ref a2), .val (.int (3 : Int32)), .val (.int (1 : Int32)), .unset, .unset, .unset, .unset, .unset, .unset, .unset, .unset, .unset, .unset, .unset, .unset, .unset, .unset, .unset] [(.ref a2)])) _
        refine st5.trans ?_
        show Steps p.tables e below (T5.setTop (mkF m 52 #[.val (.int xs), .val (.long st), .second, .val (.int stp), .val (.long exc), .second, .val (.int sel), .val (.long q), .second, .val (.ref a2), .val (.int (3 : Int32)), .val (.int (1 : Int32)), .unset, .unset, .unset, .unset, .unset, .unset, .unset, .unset, .unset, .unset, .unset, .unset, .unset, .unset, .unset] [(.long (st + (0 : Int64)))])) _
        refine XS.lloadN X5.here hx rfl (hb hby at_52) rfl ?_
        show Steps p.tables e below (T5.setTop (mkF m 53 #[.val (.int xs), .val (.long st), .second, .val (.int stp), .val (.long exc), .second, .val (.int sel), .val (.long q), .second, .val (.ref a2), .val (.int (3 : Int32)), .val (.int (1 : Int32)), .unset, .unset, .unset, .unset, .unset, .unset, .unset, .unset, .unset, .unset, .unset, .unset, .unset, .unset, .unset] [(.long st), (.long (st + (0 : Int64)))])) _
        refine XS.lcmp X5.here hx rfl (hb hby at_53) rfl ?_
        show Steps p.tables e below (T5.setTop (mkF m 54 #[.val (.int xs), .val (.long st), .second, .val (.int stp), .val (.long exc), .second, .val (.int sel), .val (.long q), .second, .val (.ref a2), .val (.int (3 : Int32)), .val (.int (1 : Int32)), .unset, .unset, .unset, .unset, .unset, .unset, .unset, .unset, .unset, .unset, .unset, .unset, .unset, .unset, .unset] [(.int (lcmpW (st + (0 : Int64)) st))])) _
        refine XS.ifNo X5.here hx rfl (hb hby at_54) rfl ((Jvm.Own.holdsL _ _ _).trans (Jvm.Own.dF (by rw [sz]; exact fun q => q rfl))) ?_
        show Steps p.tables e below (T5.setTop (mkF m 57 #[.val (.int xs), .val (.long st), .second, .val (.int stp), .val (.long exc), .second, .val (.int sel), .val (.long q), .second, .val (.ref a2), .val (.int (3 : Int32)), .val (.int (1 : Int32)), .unset, .unset, .unset, .unset, .unset, .unset, .unset, .unset, .unset, .unset, .unset, .unset, .unset, .unset, .unset] [])) _
        refine XS.iconst X5.here hx rfl (hb hby at_57) ?_
        show Steps p.tables e below (T5.setTop (mkF m 58 #[.val (.int xs), .val (.long st), .second, .val (.int stp), .val (.long exc), .second, .val (.int sel), .val (.long q), .second, .val (.ref a2), .val (.int (3 : Int32)), .val (.int (1 : Int32)), .unset, .unset, .unset, .unset, .unset, .unset, .unset, .unset, .unset, .unset, .unset, .unset, .unset, .unset, .unset] [(.int (1 : Int32))])) _
        refine XS.goto X5.here hx rfl (pc0 := 58) (pc' := 62) rfl (hb hby at_58) (by decide) (by decide) ?_
        show Steps p.tables e below (T5.setTop (mkF m 62 #[.val (.int xs), .val (.long st), .second, .val (.int stp), .val (.long exc), .second, .val (.int sel), .val (.long q), .second, .val (.ref a2), .val (.int (3 : Int32)), .val (.int (1 : Int32)), .unset, .unset, .unset, .unset, .unset, .unset, .unset, .unset, .unset, .unset, .unset, .unset, .unset, .unset, .unset] [(.int (1 : Int32))])) _
        refine XS.istore X5.here hx rfl (hb hby at_62) rfl (l' := #[.val (.int xs), .val (.long st), .second, .val (.int stp), .val (.long exc), .second, .val (.int sel), .val (.long q), .second, .val (.ref a2), .val (.int (3 : Int32)), .val (.int (1 : Int32)), .unset, .unset, .unset, .unset, .unset, .unset, .unset, .unset, .unset, .unset, .unset, .unset, .unset, .unset, .unset]) rfl ?_
        show Steps p.tables e below (T5.setTop (mkF m 64 #[.val (.int xs), .val (.long st), .second, .val (.int stp), .val (.long exc), .second, .val (.int sel), .val (.long q), .second, .val (.ref a2), .val (.int (3 : Int32)), .val (.int (1 : Int32)), .unset, .unset, .unset, .unset, .unset, .unset, .unset, .unset, .unset, .unset, .unset, .unset, .unset, .unset, .unset] [])) _
        refine XS.iload X5.here hx rfl (hb hby at_64) rfl ?_
        show Steps p.tables e below (T5.setTop (mkF m 66 #[.val (.int xs), .val (.long st), .second, .val (.int stp), .val (.long exc), .second, .val (.int sel), .val (.long q), .second, .val (.ref a2), .val (.int (3 : Int32)), .val (.int (1 : Int32)), .unset, .unset, .unset, .unset, .unset, .unset, .unset, .unset, .unset, .unset, .unset, .unset, .unset, .unset, .unset] [(.int (3 : Int32))])) _
        refine XS.iconst X5.here hx rfl (hb hby at_66) ?_
        show Steps p.tables e below (T5.setTop (mkF m 67 #[.val (.int xs), .val (.long st), .second, .val (.int stp), .val (.long exc), .second, .val (.int sel), .val (.long q), .second, .val (.ref a2), .val (.int (3 : Int32)), .val (.int (1 : Int32)), .unset, .unset, .unset, .unset, .unset, .unset, .unset, .unset, .unset, .unset, .unset, .unset, .unset, .unset, .unset] [(.int (1 : Int32)), (.int (3 : Int32))])) _
        refine XS.icmpNo X5.here hx rfl (hb hby at_67) rfl rfl ?_
        show Steps p.tables e below (T5.setTop (mkF m 70 #[.val (.int xs), .val (.long st), .second, .val (.int stp), .val (.long exc), .second, .val (.int sel), .val (.long q), .second, .val (.ref a2), .val (.int (3 : Int32)), .val (.int (1 : Int32)), .unset, .unset, .unset, .unset, .unset, .unset, .unset, .unset, .unset, .unset, .unset, .unset, .unset, .unset, .unset] [])) _
        refine XS.iload X5.here hx rfl (hb hby at_70) rfl ?_
        show Steps p.tables e below (T5.setTop (mkF m 72 #[.val (.int xs), .val (.long st), .second, .val (.int stp), .val (.long exc), .second, .val (.int sel), .val (.long q), .second, .val (.ref a2), .val (.int (3 : Int32)), .val (.int (1 : Int32)), .unset, .unset, .unset, .unset, .unset, .unset, .unset, .unset, .unset, .unset, .unset, .unset, .unset, .unset, .unset] [(.int (1 : Int32))])) _
        refine XS.ifNo X5.here hx rfl (hb hby at_72) rfl rfl ?_
        show Steps p.tables e below (T5.setTop (mkF m 75 #[.val (.int xs), .val (.long st), .second, .val (.int stp), .val (.long exc), .second, .val (.int sel), .val (.long q), .second, .val (.ref a2), .val (.int (3 : Int32)), .val (.int (1 : Int32)), .unset, .unset, .unset, .unset, .unset, .unset, .unset, .unset, .unset, .unset, .unset, .unset, .unset, .unset, .unset] [])) _
        refine XS.aload X5.here hx rfl (hb hby at_75) rfl rfl ?_
        show Steps p.tables e below (T5.setTop (mkF m 77 #[.val (.int xs), .val (.long st), .second, .val (.int stp), .val (.long exc), .second, .val (.int sel), .val (.long q), .second, .val (.ref a2), .val (.int (3 : Int32)), .val (.int (1 : Int32)), .unset, .unset, .unset, .unset, .unset, .unset, .unset, .unset, .unset, .unset, .unset, .unset, .unset, .unset, .unset] [(.ref a2)])) _
        refine st6.trans ?_
        show Steps p.tables e below (T6.setTop (mkF m 80 #[.val (.int xs), .val (.long st), .second, .val (.int stp), .val (.long exc), .second, .val (.int sel), .val (.long q), .second, .val (.ref a2), .val (.int (3 : Int32)), .val (.int (1 : Int32)), .unset, .unset, .unset, .unset, .unset, .unset, .unset, .unset, .unset, .unset, .unset, .unset, .unset, .unset, .unset] [(.long (st + q))])) _
        refine XS.lloadN X6.here hx rfl (hb hby at_80) rfl ?_
        show Steps p.tables e below (T6.setTop (mkF m 81 #[.val (.int xs), .val (.long st), .second, .val (.int stp), .val (.long exc), .second, .val (.int sel), .val (.long q), .second, .val (.ref a2), .val (.int (3 : Int32)), .val (.int (1 : Int32)), .unset, .unset, .unset, .unset, .unset, .unset, .unset, .unset, .unset, .unset, .unset, .unset, .unset, .unset, .unset] [(.long st), (.long (st + q))])) _
        refine XS.lload X6.here hx rfl (hb hby at_81) rfl ?_
        show Steps p.tables e below (T6.setTop (mkF m 83 #[.val (.int xs), .val (.long st), .second, .val (.int stp), .val (.long exc), .second, .val (.int sel), .val (.long q), .second, .val (.ref a2), .val (.int (3 : Int32)), .val (.int (1 : Int32)), .unset, .unset, .unset, .unset, .unset, .unset, .unset, .unset, .unset, .unset, .unset, .unset, .unset, .unset, .unset] [(.long q), (.long st), (.long (st + q))])) _
        refine XS.ladd X6.here hx rfl (hb hby at_83) rfl ?_
        show Steps p.tables e below (T6.setTop (mkF m 84 #[.val (.int xs), .val (.long st), .second, .val (.int stp), .val (.long exc), .second, .val (.int sel), .val (.long q), .second, .val (.ref a2), .val (.int (3 : Int32)), .val (.int (1 : Int32)), .unset, .unset, .unset, .unset, .unset, .unset, .unset, .unset, .unset, .unset, .unset, .unset, .unset, .unset, .unset] [(.long (st + q)), (.long (st + q))])) _
        refine XS.lcmp X6.here hx rfl (hb hby at_84) rfl ?_
        show Steps p.tables e below (T6.setTop (mkF m 85 #[.val (.int xs), .val (.long st), .second, .val (.int stp), .val (.long exc), .second, .val (.int sel), .val (.long q), .second, .val (.ref a2), .val (.int (3 : Int32)), .val (.int (1 : Int32)), .unset, .unset, .unset, .unset, .unset, .unset, .unset, .unset, .unset, .unset, .unset, .unset, .unset, .unset, .unset] [(.int (lcmpW (st + q) (st + q)))])) _
        refine XS.ifNo X6.here hx rfl (hb hby at_85) rfl ((Jvm.Own.holdsL _ _ _).trans (Jvm.Own.dF (fun q => q rfl))) ?_
        show Steps p.tables e below (T6.setTop (mkF m 88 #[.val (.int xs), .val (.long st), .second, .val (.int stp), .val (.long exc), .second, .val (.int sel), .val (.long q), .second, .val (.ref a2), .val (.int (3 : Int32)), .val (.int (1 : Int32)), .unset, .unset, .unset, .unset, .unset, .unset, .unset, .unset, .unset, .unset, .unset, .unset, .unset, .unset, .unset] [])) _
        refine XS.iconst X6.here hx rfl (hb hby at_88) ?_
        show Steps p.tables e below (T6.setTop (mkF m 89 #[.val (.int xs), .val (.long st), .second, .val (.int stp), .val (.long exc), .second, .val (.int sel), .val (.long q), .second, .val (.ref a2), .val (.int (3 : Int32)), .val (.int (1 : Int32)), .unset, .unset, .unset, .unset, .unset, .unset, .unset, .unset, .unset, .unset, .unset, .unset, .unset, .unset, .unset] [(.int (1 : Int32))])) _
        refine XS.goto X6.here hx rfl (pc0 := 89) (pc' := 93) rfl (hb hby at_89) (by decide) (by decide) ?_
        show Steps p.tables e below (T6.setTop (mkF m 93 #[.val (.int xs), .val (.long st), .second, .val (.int stp), .val (.long exc), .second, .val (.int sel), .val (.long q), .second, .val (.ref a2), .val (.int (3 : Int32)), .val (.int (1 : Int32)), .unset, .unset, .unset, .unset, .unset, .unset, .unset, .unset, .unset, .unset, .unset, .unset, .unset, .unset, .unset] [(.int (1 : Int32))])) _
        refine XS.istore X6.here hx rfl (hb hby at_93) rfl (l' := #[.val (.int xs), .val (.long st), .second, .val (.int stp), .val (.long exc), .second, .val (.int sel), .val (.long q), .second, .val (.ref a2), .val (.int (3 : Int32)), .val (.int (1 : Int32)), .unset, .unset, .unset, .unset, .unset, .unset, .unset, .unset, .unset, .unset, .unset, .unset, .unset, .unset, .unset]) rfl ?_
        show Steps p.tables e below (T6.setTop (mkF m 95 #[.val (.int xs), .val (.long st), .second, .val (.int stp), .val (.long exc), .second, .val (.int sel), .val (.long q), .second, .val (.ref a2), .val (.int (3 : Int32)), .val (.int (1 : Int32)), .unset, .unset, .unset, .unset, .unset, .unset, .unset, .unset, .unset, .unset, .unset, .unset, .unset, .unset, .unset] [])) _
        refine XS.iload X6.here hx rfl (hb hby at_95) rfl ?_
        show Steps p.tables e below (T6.setTop (mkF m 97 #[.val (.int xs), .val (.long st), .second, .val (.int stp), .val (.long exc), .second, .val (.int sel), .val (.long q), .second, .val (.ref a2), .val (.int (3 : Int32)), .val (.int (1 : Int32)), .unset, .unset, .unset, .unset, .unset, .unset, .unset, .unset, .unset, .unset, .unset, .unset, .unset, .unset, .unset] [(.int (3 : Int32))])) _
        refine XS.iconst X6.here hx rfl (hb hby at_97) ?_
        show Steps p.tables e below (T6.setTop (mkF m 98 #[.val (.int xs), .val (.long st), .second, .val (.int stp), .val (.long exc), .second, .val (.int sel), .val (.long q), .second, .val (.ref a2), .val (.int (3 : Int32)), .val (.int (1 : Int32)), .unset, .unset, .unset, .unset, .unset, .unset, .unset, .unset, .unset, .unset, .unset, .unset, .unset, .unset, .unset] [(.int (2 : Int32)), (.int (3 : Int32))])) _
        refine XS.icmpNo X6.here hx rfl (hb hby at_98) rfl rfl ?_
        show Steps p.tables e below (T6.setTop (mkF m 101 #[.val (.int xs), .val (.long st), .second, .val (.int stp), .val (.long exc), .second, .val (.int sel), .val (.long q), .second, .val (.ref a2), .val (.int (3 : Int32)), .val (.int (1 : Int32)), .unset, .unset, .unset, .unset, .unset, .unset, .unset, .unset, .unset, .unset, .unset, .unset, .unset, .unset, .unset] [])) _
        refine XS.iload X6.here hx rfl (hb hby at_101) rfl ?_
        show Steps p.tables e below (T6.setTop (mkF m 103 #[.val (.int xs), .val (.long st), .second, .val (.int stp), .val (.long exc), .second, .val (.int sel), .val (.long q), .second, .val (.ref a2), .val (.int (3 : Int32)), .val (.int (1 : Int32)), .unset, .unset, .unset, .unset, .unset, .unset, .unset, .unset, .unset, .unset, .unset, .unset, .unset, .unset, .unset] [(.int (1 : Int32))])) _
        refine XS.ifNo X6.here hx rfl (hb hby at_103) rfl rfl ?_
        show Steps p.tables e below (T6.setTop (mkF m 106 #[.val (.int xs), .val (.long st), .second, .val (.int stp), .val (.long exc), .second, .val (.int sel), .val (.long q), .second, .val (.ref a2), .val (.int (3 : Int32)), .val (.int (1 : Int32)), .unset, .unset, .unset, .unset, .unset, .unset, .unset, .unset, .unset, .unset, .unset, .unset, .unset, .unset, .unset] [])) _
        refine XS.aload X6.here hx rfl (hb hby at_106) rfl rfl ?_
        show Steps p.tables e below (T6.setTop (mkF m 108 #[.val (.int xs), .val (.long st), .second, .val (.int stp), .val (.long exc), .second, .val (.int sel), .val (.long q), .second, .val (.ref a2), .val (.int (3 : Int32)), .val (.int (1 : Int32)), .unset, .unset, .unset, .unset, .unset, .unset, .unset, .unset, .unset, .unset, .unset, .unset, .unset, .unset, .unset] [(.ref a2)])) _
        refine st7.trans ?_
        show Steps p.tables e below (T7.setTop (mkF m 111 #[.val (.int xs), .val (.long st), .second, .val (.int stp), .val (.long exc), .second, .val (.int sel), .val (.long q), .second, .val (.ref a2), .val (.int (3 : Int32)), .val (.int (1 : Int32)), .unset, .unset, .unset, .unset, .unset, .unset, .unset, .unset, .unset, .unset, .unset, .unset, .unset, .unset, .unset] [(.long (st + o2))])) _
        refine XS.lloadN X7.here hx rfl (hb hby at_111) rfl ?_
        show Steps p.tables e below (T7.setTop (mkF m 112 #[.val (.int xs), .val (.long st), .second, .val (.int stp), .val (.long exc), .second, .val (.int sel), .val (.long q), .second, .val (.ref a2), .val (.int (3 : Int32)), .val (.int (1 : Int32)), .unset, .unset, .unset, .unset, .unset, .unset, .unset, .unset, .unset, .unset, .unset, .unset, .unset, .unset, .unset] [(.long st), (.long (st + o2))])) _
        refine X7.ldc2Long hx hown (mvT hZ (hw _ (List.mem_of_getElem? (i := 43) rfl))) (g := (mkF m 112 #[.val (.int xs), .val (.long st), .second, .val (.int stp), .val (.long exc), .second, .val (.int sel), .val (.long q), .second, .val (.ref a2), .val (.int (3 : Int32)), .val (.int (1 : Int32)), .unset, .unset, .unset, .unset, .unset, .unset, .unset, .unset, .unset, .unset, .unset, .unset, .unset, .unset, .unset] [(.long st), (.long (st + o2))])) rfl (hb hby at_112) _ ?_
        show Steps p.tables e below (T7.setTop (mkF m 115 #[.val (.int xs), .val (.long st), .second, .val (.int stp), .val (.long exc), .second, .val (.int sel), .val (.long q), .second, .val (.ref a2), .val (.int (3 : Int32)), .val (.int (1 : Int32)), .unset, .unset, .unset, .unset, .unset, .unset, .unset, .unset, .unset, .unset, .unset, .unset, .unset, .unset, .unset] [(.long (2 : Int64)), (.long st), (.long (st + o2))])) _
        refine XS.lload X7.here hx rfl (hb hby at_115) rfl ?_
        show Steps p.tables e below (T7.setTop (mkF m 117 #[.val (.int xs), .val (.long st), .second, .val (.int stp), .val (.long exc), .second, .val (.int sel), .val (.long q), .second, .val (.ref a2), .val (.int (3 : Int32)), .val (.int (1 : Int32)), .unset, .unset, .unset, .unset, .unset, .unset, .unset, .unset, .unset, .unset, .unset, .unset, .unset, .unset, .unset] [(.long q), (.long (2 : Int64)), (.long st), (.long (st + o2))])) _
        refine XS.lmul X7.here hx rfl (hb hby at_117) rfl ?_
        rw [m2]
        show Steps p.tables e below (T7.setTop (mkF m 118 #[.val (.int xs), .val (.long st), .second, .val (.int stp), .val (.long exc), .second, .val (.int sel), .val (.long q), .second, .val (.ref a2), .val (.int (3 : Int32)), .val (.int (1 : Int32)), .unset, .unset, .unset, .unset, .unset, .unset, .unset, .unset, .unset, .unset, .unset, .unset, .unset, .unset, .unset] [(.long o2), (.long st), (.long (st + o2))])) _
        refine XS.ladd X7.here hx rfl (hb hby at_118) rfl ?_
        show Steps p.tables e below (T7.setTop (mkF m 119 #[.val (.int xs), .val (.long st), .second, .val (.int stp), .val (.long exc), .second, .val (.int sel), .val (.long q), .second, .val (.ref a2), .val (.int (3 : Int32)), .val (.int (1 : Int32)), .unset, .unset, .unset, .unset, .unset, .unset, .unset, .unset, .unset, .unset, .unset, .unset, .unset, .unset, .unset] [(.long (st + o2)), (.long (st + o2))])) _
        refine XS.lcmp X7.here hx rfl (hb hby at_119) rfl ?_
        show Steps p.tables e below (T7.setTop (mkF m 120 #[.val (.int xs), .val (.long st), .second, .val (.int stp), .val (.long exc), .second, .val (.int sel), .val (.long q), .second, .val (.ref a2), .val (.int (3 : Int32)), .val (.int (1 : Int32)), .unset, .unset, .unset, .unset, .unset, .unset, .unset, .unset, .unset, .unset, .unset, .unset, .unset, .unset, .unset] [(.int (lcmpW (st + o2) (st + o2)))])) _
        refine XS.ifNo X7.here hx rfl (hb hby at_120) rfl ((Jvm.Own.holdsL _ _ _).trans (Jvm.Own.dF (fun q => q rfl))) ?_
        show Steps p.tables e below (T7.setTop (mkF m 123 #[.val (.int xs), .val (.long st), .second, .val (.int stp), .val (.long exc), .second, .val (.int sel), .val (.long q), .second, .val (.ref a2), .val (.int (3 : Int32)), .val (.int (1 : Int32)), .unset, .unset, .unset, .unset, .unset, .unset, .unset, .unset, .unset, .unset, .unset, .unset, .unset, .unset, .unset] [])) _
        refine XS.iconst X7.here hx rfl (hb hby at_123) ?_
        show Steps p.tables e below (T7.setTop (mkF m 124 #[.val (.int xs), .val (.long st), .second, .val (.int stp), .val (.long exc), .second, .val (.int sel), .val (.long q), .second, .val (.ref a2), .val (.int (3 : Int32)), .val (.int (1 : Int32)), .unset, .unset, .unset, .unset, .unset, .unset, .unset, .unset, .unset, .unset, .unset, .unset, .unset, .unset, .unset] [(.int (1 : Int32))])) _
        refine XS.goto X7.here hx rfl (pc0 := 124) (pc' := 128) rfl (hb hby at_124) (by decide) (by decide) ?_
        show Steps p.tables e below (T7.setTop (mkF m 128 #[.val (.int xs), .val (.long st), .second, .val (.int stp), .val (.long exc), .second, .val (.int sel), .val (.long q), .second, .val (.ref a2), .val (.int (3 : Int32)), .val (.int (1 : Int32)), .unset, .unset, .unset, .unset, .unset, .unset, .unset, .unset, .unset, .unset, .unset, .unset, .unset, .unset, .unset] [(.int (1 : Int32))])) _
        refine XS.istore X7.here hx rfl (hb hby at_128) rfl (l' := #[.val (.int xs), .val (.long st), .second, .val (.int stp), .val (.long exc), .second, .val (.int sel), .val (.long q), .second, .val (.ref a2), .val (.int (3 : Int32)), .val (.int (1 : Int32)), .unset, .unset, .unset, .unset, .unset, .unset, .unset, .unset, .unset, .unset, .unset, .unset, .unset, .unset, .unset]) rfl ?_
        show Steps p.tables e below (T7.setTop (mkF m 130 #[.val (.int xs), .val (.long st), .second, .val (.int stp), .val (.long exc), .second, .val (.int sel), .val (.long q), .second, .val (.ref a2), .val (.int (3 : Int32)), .val (.int (1 : Int32)), .unset, .unset, .unset, .unset, .unset, .unset, .unset, .unset, .unset, .unset, .unset, .unset, .unset, .unset, .unset] [])) _
        refine XS.iload X7.here hx rfl (hb hby at_130) rfl ?_
        show Steps p.tables e below (T7.setTop (mkF m 132 #[.val (.int xs), .val (.long st), .second, .val (.int stp), .val (.long exc), .second, .val (.int sel), .val (.long q), .second, .val (.ref a2), .val (.int (3 : Int32)), .val (.int (1 : Int32)), .unset, .unset, .unset, .unset, .unset, .unset, .unset, .unset, .unset, .unset, .unset, .unset, .unset, .unset, .unset] [(.int (3 : Int32))])) _
        refine XS.i2l X7.here hx rfl (hb hby at_132) rfl ?_
        show Steps p.tables e below (T7.setTop (mkF m 133 #[.val (.int xs), .val (.long st), .second, .val (.int stp), .val (.long exc), .second, .val (.int sel), .val (.long q), .second, .val (.ref a2), .val (.int (3 : Int32)), .val (.int (1 : Int32)), .unset, .unset, .unset, .unset, .unset, .unset, .unset, .unset, .unset, .unset, .unset, .unset, .unset, .unset, .unset] [(.long ((3 : Int32).toInt64))])) _
        refine XS.lload X7.here hx rfl (hb hby at_133) rfl ?_
        show Steps p.tables e below (T7.setTop (mkF m 135 #[.val (.int xs), .val (.long st), .second, .val (.int stp), .val (.long exc), .second, .val (.int sel), .val (.long q), .second, .val (.ref a2), .val (.int (3 : Int32)), .val (.int (1 : Int32)), .unset, .unset, .unset, .unset, .unset, .unset, .unset, .unset, .unset, .unset, .unset, .unset, .unset, .unset, .unset] [(.long q), (.long ((3 : Int32).toInt64))])) _
        refine XS.lmul X7.here hx rfl (hb hby at_135) rfl ?_
        rw [k3]
        show Steps p.tables e below (T7.setTop (mkF m 136 #[.val (.int xs), .val (.long st), .second, .val (.int stp), .val (.long exc), .second, .val (.int sel), .val (.long q), .second, .val (.ref a2), .val (.int (3 : Int32)), .val (.int (1 : Int32)), .unset, .unset, .unset, .unset, .unset, .unset, .unset, .unset, .unset, .unset, .unset, .unset, .unset, .unset, .unset] [(.long o3)])) _
        refine XS.lstore X7.here hx rfl (hb hby at_136) rfl (l' := #[.val (.int xs), .val (.long st), .second, .val (.int stp), .val (.long exc), .second, .val (.int sel), .val (.long q), .second, .val (.ref a2), .val (.int (3 : Int32)), .val (.int (1 : Int32)), .val (.long o3), .second, .unset, .unset, .unset, .unset, .unset, .unset, .unset, .unset, .unset, .unset, .unset, .unset, .unset]) rfl ?_
        show Steps p.tables e below (T7.setTop (mkF m 138 #[.val (.int xs), .val (.long st), .second, .val (.int stp), .val (.long exc), .second, .val (.int sel), .val (.long q), .second, .val (.ref a2), .val (.int (3 : Int32)), .val (.int (1 : Int32)), .val (.long o3), .second, .unset, .unset, .unset, .unset, .unset, .unset, .unset, .unset, .unset, .unset, .unset, .unset, .unset] [])) _
        refine XS.lloadN X7.here hx rfl (hb hby at_138) rfl ?_
        show Steps p.tables e below (T7.setTop (mkF m 139 #[.val (.int xs), .val (.long st), .second, .val (.int stp), .val (.long exc), .second, .val (.int sel), .val (.long q), .second, .val (.ref a2), .val (.int (3 : Int32)), .val (.int (1 : Int32)), .val (.long o3), .second, .unset, .unset, .unset, .unset, .unset, .unset, .unset, .unset, .unset, .unset, .unset, .unset, .unset] [(.long st)])) _
        refine XS.lload X7.here hx rfl (hb hby at_139) rfl ?_
        show Steps p.tables e below (T7.setTop (mkF m 141 #[.val (.int xs), .val (.long st), .second, .val (.int stp), .val (.long exc), .second, .val (.int sel), .val (.long q), .second, .val (.ref a2), .val (.int (3 : Int32)), .val (.int (1 : Int32)), .val (.long o3), .second, .unset, .unset, .unset, .unset, .unset, .unset, .unset, .unset, .unset, .unset, .unset, .unset, .unset] [(.long o3), (.long st)])) _
        refine XS.ladd X7.here hx rfl (hb hby at_141) rfl ?_
        show Steps p.tables e below (T7.setTop (mkF m 142 #[.val (.int xs), .val (.long st), .second, .val (.int stp), .val (.long exc), .second, .val (.int sel), .val (.long q), .second, .val (.ref a2), .val (.int (3 : Int32)), .val (.int (1 : Int32)), .val (.long o3), .second, .unset, .unset, .unset, .unset, .unset, .unset, .unset, .unset, .unset, .unset, .unset, .unset, .unset] [(.long (st + o3))])) _
        refine XS.lload X7.here hx rfl (hb hby at_142) rfl ?_
        show Steps p.tables e below (T7.setTop (mkF m 144 #[.val (.int xs), .val (.long st), .second, .val (.int stp), .val (.long exc), .second, .val (.int sel), .val (.long q), .second, .val (.ref a2), .val (.int (3 : Int32)), .val (.int (1 : Int32)), .val (.long o3), .second, .unset, .unset, .unset, .unset, .unset, .unset, .unset, .unset, .unset, .unset, .unset, .unset, .unset] [(.long exc), (.long (st + o3))])) _
        refine XS.ladd X7.here hx rfl (hb hby at_144) rfl ?_
        rw [harr]
        show Steps p.tables e below (T7.setTop (mkF m 145 #[.val (.int xs), .val (.long st), .second, .val (.int stp), .val (.long exc), .second, .val (.int sel), .val (.long q), .second, .val (.ref a2), .val (.int (3 : Int32)), .val (.int (1 : Int32)), .val (.long o3), .second, .unset, .unset, .unset, .unset, .unset, .unset, .unset, .unset, .unset, .unset, .unset, .unset, .unset] [(.long arr)])) _
        refine XS.lstore X7.here hx rfl (hb hby at_145) rfl (l' := #[.val (.int xs), .val (.long st), .second, .val (.int stp), .val (.long exc), .second, .val (.int sel), .val (.long q), .second, .val (.ref a2), .val (.int (3 : Int32)), .val (.int (1 : Int32)), .val (.long o3), .second, .val (.long arr), .second, .unset, .unset, .unset, .unset, .unset, .unset, .unset, .unset, .unset, .unset, .unset]) rfl ?_
        show Steps p.tables e below (T7.setTop (mkF m 147 #[.val (.int xs), .val (.long st), .second, .val (.int stp), .val (.long exc), .second, .val (.int sel), .val (.long q), .second, .val (.ref a2), .val (.int (3 : Int32)), .val (.int (1 : Int32)), .val (.long o3), .second, .val (.long arr), .second, .unset, .unset, .unset, .unset, .unset, .unset, .unset, .unset, .unset, .unset, .unset] [])) _
        refine XS.aload X7.here hx rfl (hb hby at_147) rfl rfl ?_
        show Steps p.tables e below (T7.setTop (mkF m 149 #[.val (.int xs), .val (.long st), .second, .val (.int stp), .val (.long exc), .second, .val (.int sel), .val (.long q), .second, .val (.ref a2), .val (.int (3 : Int32)), .val (.int (1 : Int32)), .val (.long o3), .second, .val (.long arr), .second, .unset, .unset, .unset, .unset, .unset, .unset, .unset, .unset, .unset, .unset, .unset] [(.ref a2)])) _
        refine XS.lload X7.here hx rfl (hb hby at_149) rfl ?_
        show Steps p.tables e below (T7.setTop (mkF m 151 #[.val (.int xs), .val (.long st), .second, .val (.int stp), .val (.long exc), .second, .val (.int sel), .val (.long q), .second, .val (.ref a2), .val (.int (3 : Int32)), .val (.int (1 : Int32)), .val (.long o3), .second, .val (.long arr), .second, .unset, .unset, .unset, .unset, .unset, .unset, .unset, .unset, .unset, .unset, .unset] [(.long arr), (.ref a2)])) _
        refine st8.trans ?_
        show Steps p.tables e below (T8.setTop (mkF m 154 #[.val (.int xs), .val (.long st), .second, .val (.int stp), .val (.long exc), .second, .val (.int sel), .val (.long q), .second, .val (.ref a2), .val (.int (3 : Int32)), .val (.int (1 : Int32)), .val (.long o3), .second, .val (.long arr), .second, .unset, .unset, .unset, .unset, .unset, .unset, .unset, .unset, .unset, .unset, .unset] [(.long (arr + 0))])) _
        refine XS.lstore X8.here hx rfl (hb hby at_154) rfl (l' := #[.val (.int xs), .val (.long st), .second, .val (.int stp), .val (.long exc), .second, .val (.int sel), .val (.long q), .second, .val (.ref a2), .val (.int (3 : Int32)), .val (.int (1 : Int32)), .val (.long o3), .second, .val (.long arr), .second, .val (.long (arr + 0)), .second, .unset, .unset, .unset, .unset, .unset, .unset, .unset, .unset, .unset]) rfl ?_
        show Steps p.tables e below (T8.setTop (mkF m 156 #[.val (.int xs), .val (.long st), .second, .val (.int stp), .val (.long exc), .second, .val (.int sel), .val (.long q), .second, .val (.ref a2), .val (.int (3 : Int32)), .val (.int (1 : Int32)), .val (.long o3), .second, .val (.long arr), .second, .val (.long (arr + 0)), .second, .unset, .unset, .unset, .unset, .unset, .unset, .unset, .unset, .unset] [])) _
        refine XS.aload X8.here hx rfl (hb hby at_156) rfl rfl ?_
        show Steps p.tables e below (T8.setTop (mkF m 158 #[.val (.int xs), .val (.long st), .second, .val (.int stp), .val (.long exc), .second, .val (.int sel), .val (.long q), .second, .val (.ref a2), .val (.int (3 : Int32)), .val (.int (1 : Int32)), .val (.long o3), .second, .val (.long arr), .second, .val (.long (arr + 0)), .second, .unset, .unset, .unset, .unset, .unset, .unset, .unset, .unset, .unset] [(.ref a2)])) _
        refine st9.trans ?_
        show Steps p.tables e below (T9.setTop (mkF m 161 #[.val (.int xs), .val (.long st), .second, .val (.int stp), .val (.long exc), .second, .val (.int sel), .val (.long q), .second, .val (.ref a2), .val (.int (3 : Int32)), .val (.int (1 : Int32)), .val (.long o3), .second, .val (.long arr), .second, .val (.long (arr + 0)), .second, .unset, .unset, .unset, .unset, .unset, .unset, .unset, .unset, .unset] [(.long (arr + q))])) _
        refine XS.lstore X9.here hx rfl (hb hby at_161) rfl (l' := #[.val (.int xs), .val (.long st), .second, .val (.int stp), .val (.long exc), .second, .val (.int sel), .val (.long q), .second, .val (.ref a2), .val (.int (3 : Int32)), .val (.int (1 : Int32)), .val (.long o3), .second, .val (.long arr), .second, .val (.long (arr + 0)), .second, .val (.long (arr + q)), .second, .unset, .unset, .unset, .unset, .unset, .unset, .unset]) rfl ?_
        show Steps p.tables e below (T9.setTop (mkF m 163 #[.val (.int xs), .val (.long st), .second, .val (.int stp), .val (.long exc), .second, .val (.int sel), .val (.long q), .second, .val (.ref a2), .val (.int (3 : Int32)), .val (.int (1 : Int32)), .val (.long o3), .second, .val (.long arr), .second, .val (.long (arr + 0)), .second, .val (.long (arr + q)), .second, .unset, .unset, .unset, .unset, .unset, .unset, .unset] [])) _
        refine XS.lloadN X9.here hx rfl (hb hby at_163) rfl ?_
        show Steps p.tables e below (T9.setTop (mkF m 164 #[.val (.int xs), .val (.long st), .second, .val (.int stp), .val (.long exc), .second, .val (.int sel), .val (.long q), .second, .val (.ref a2), .val (.int (3 : Int32)), .val (.int (1 : Int32)), .val (.long o3), .second, .val (.long arr), .second, .val (.long (arr + 0)), .second, .val (.long (arr + q)), .second, .unset, .unset, .unset, .unset, .unset, .unset, .unset] [(.long st)])) _
        refine XS.lload X9.here hx rfl (hb hby at_164) rfl ?_
        show Steps p.tables e below (T9.setTop (mkF m 166 #[.val (.int xs), .val (.long st), .second, .val (.int stp), .val (.long exc), .second, .val (.int sel), .val (.long q), .second, .val (.ref a2), .val (.int (3 : Int32)), .val (.int (1 : Int32)), .val (.long o3), .second, .val (.long arr), .second, .val (.long (arr + 0)), .second, .val (.long (arr + q)), .second, .unset, .unset, .unset, .unset, .unset, .unset, .unset] [(.long o3), (.long st)])) _
        refine XS.ladd X9.here hx rfl (hb hby at_166) rfl ?_
        show Steps p.tables e below (T9.setTop (mkF m 167 #[.val (.int xs), .val (.long st), .second, .val (.int stp), .val (.long exc), .second, .val (.int sel), .val (.long q), .second, .val (.ref a2), .val (.int (3 : Int32)), .val (.int (1 : Int32)), .val (.long o3), .second, .val (.long arr), .second, .val (.long (arr + 0)), .second, .val (.long (arr + q)), .second, .unset, .unset, .unset, .unset, .unset, .unset, .unset] [(.long (st + o3))])) _
        refine XS.lstore X9.here hx rfl (hb hby at_167) rfl (l' := #[.val (.int xs), .val (.long st), .second, .val (.int stp), .val (.long exc), .second, .val (.int sel), .val (.long q), .second, .val (.ref a2), .val (.int (3 : Int32)), .val (.int (1 : Int32)), .val (.long o3), .second, .val (.long arr), .second, .val (.long (arr + 0)), .second, .val (.long (arr + q)), .second, .val (.long (st + o3)), .second, .unset, .unset, .unset, .unset, .unset]) rfl ?_
        show Steps p.tables e below (T9.setTop (mkF m 169 #[.val (.int xs), .val (.long st), .second, .val (.int stp), .val (.long exc), .second, .val (.int sel), .val (.long q), .second, .val (.ref a2), .val (.int (3 : Int32)), .val (.int (1 : Int32)), .val (.long o3), .second, .val (.long arr), .second, .val (.long (arr + 0)), .second, .val (.long (arr + q)), .second, .val (.long (st + o3)), .second, .unset, .unset, .unset, .unset, .unset] [])) _
        refine XS.lload X9.here hx rfl (hb hby at_169) rfl ?_
        show Steps p.tables e below (T9.setTop (mkF m 171 #[.val (.int xs), .val (.long st), .second, .val (.int stp), .val (.long exc), .second, .val (.int sel), .val (.long q), .second, .val (.ref a2), .val (.int (3 : Int32)), .val (.int (1 : Int32)), .val (.long o3), .second, .val (.long arr), .second, .val (.long (arr + 0)), .second, .val (.long (arr + q)), .second, .val (.long (st + o3)), .second, .unset, .unset, .unset, .unset, .unset] [(.long arr)])) _
        refine XS.lloadN X9.here hx rfl (hb hby at_171) rfl ?_
        show Steps p.tables e below (T9.setTop (mkF m 172 #[.val (.int xs), .val (.long st), .second, .val (.int stp), .val (.long exc), .second, .val (.int sel), .val (.long q), .second, .val (.ref a2), .val (.int (3 : Int32)), .val (.int (1 : Int32)), .val (.long o3), .second, .val (.long arr), .second, .val (.long (arr + 0)), .second, .val (.long (arr + q)), .second, .val (.long (st + o3)), .second, .unset, .unset, .unset, .unset, .unset] [(.long st), (.long arr)])) _
        refine XS.lsub X9.here hx rfl (hb hby at_172) rfl ?_
        show Steps p.tables e below (T9.setTop (mkF m 173 #[.val (.int xs), .val (.long st), .second, .val (.int stp), .val (.long exc), .second, .val (.int sel), .val (.long q), .second, .val (.ref a2), .val (.int (3 : Int32)), .val (.int (1 : Int32)), .val (.long o3), .second, .val (.long arr), .second, .val (.long (arr + 0)), .second, .val (.long (arr + q)), .second, .val (.long (st + o3)), .second, .unset, .unset, .unset, .unset, .unset] [(.long (arr - st))])) _
        refine XS.lload X9.here hx rfl (hb hby at_173) rfl ?_
        show Steps p.tables e below (T9.setTop (mkF m 175 #[.val (.int xs), .val (.long st), .second, .val (.int stp), .val (.long exc), .second, .val (.int sel), .val (.long q), .second, .val (.ref a2), .val (.int (3 : Int32)), .val (.int (1 : Int32)), .val (.long o3), .second, .val (.long arr), .second, .val (.long (arr + 0)), .second, .val (.long (arr + q)), .second, .val (.long (st + o3)), .second, .unset, .unset, .unset, .unset, .unset] [(.long o3), (.long (arr - st))])) _
        refine XS.lcmp X9.here hx rfl (hb hby at_175) rfl ?_
        show Steps p.tables e below (T9.setTop (mkF m 176 #[.val (.int xs), .val (.long st), .second, .val (.int stp), .val (.long exc), .second, .val (.int sel), .val (.long q), .second, .val (.ref a2), .val (.int (3 : Int32)), .val (.int (1 : Int32)), .val (.long o3), .second, .val (.long arr), .second, .val (.long (arr + 0)), .second, .val (.long (arr + q)), .second, .val (.long (st + o3)), .second, .unset, .unset, .unset, .unset, .unset] [(.int (lcmpW (arr - st) o3))])) _
        refine XS.ifNo X9.here hx rfl (hb hby at_176) rfl ((Jvm.Own.holdsL _ _ _).trans (Jvm.Own.dF (by omega))) ?_
        show Steps p.tables e below (T9.setTop (mkF m 179 #[.val (.int xs), .val (.long st), .second, .val (.int stp), .val (.long exc), .second, .val (.int sel), .val (.long q), .second, .val (.ref a2), .val (.int (3 : Int32)), .val (.int (1 : Int32)), .val (.long o3), .second, .val (.long arr), .second, .val (.long (arr + 0)), .second, .val (.long (arr + q)), .second, .val (.long (st + o3)), .second, .unset, .unset, .unset, .unset, .unset] [])) _
        refine XS.iconst X9.here hx rfl (hb hby at_179) ?_
        show Steps p.tables e below (T9.setTop (mkF m 180 #[.val (.int xs), .val (.long st), .second, .val (.int stp), .val (.long exc), .second, .val (.int sel), .val (.long q), .second, .val (.ref a2), .val (.int (3 : Int32)), .val (.int (1 : Int32)), .val (.long o3), .second, .val (.long arr), .second, .val (.long (arr + 0)), .second, .val (.long (arr + q)), .second, .val (.long (st + o3)), .second, .unset, .unset, .unset, .unset, .unset] [(.int (1 : Int32))])) _
        refine XS.goto X9.here hx rfl (pc0 := 180) (pc' := 184) rfl (hb hby at_180) (by decide) (by decide) ?_
        show Steps p.tables e below (T9.setTop (mkF m 184 #[.val (.int xs), .val (.long st), .second, .val (.int stp), .val (.long exc), .second, .val (.int sel), .val (.long q), .second, .val (.ref a2), .val (.int (3 : Int32)), .val (.int (1 : Int32)), .val (.long o3), .second, .val (.long arr), .second, .val (.long (arr + 0)), .second, .val (.long (arr + q)), .second, .val (.long (st + o3)), .second, .unset, .unset, .unset, .unset, .unset] [(.int (1 : Int32))])) _
        refine XS.istore X9.here hx rfl (hb hby at_184) rfl (l' := #[.val (.int xs), .val (.long st), .second, .val (.int stp), .val (.long exc), .second, .val (.int sel), .val (.long q), .second, .val (.ref a2), .val (.int (3 : Int32)), .val (.int (1 : Int32)), .val (.long o3), .second, .val (.long arr), .second, .val (.long (arr + 0)), .second, .val (.long (arr + q)), .second, .val (.long (st + o3)), .second, .val (.int (1 : Int32)), .unset, .unset, .unset, .unset]) rfl ?_
        show Steps p.tables e below (T9.setTop (mkF m 186 #[.val (.int xs), .val (.long st), .second, .val (.int stp), .val (.long exc), .second, .val (.int sel), .val (.long q), .second, .val (.ref a2), .val (.int (3 : Int32)), .val (.int (1 : Int32)), .val (.long o3), .second, .val (.long arr), .second, .val (.long (arr + 0)), .second, .val (.long (arr + q)), .second, .val (.long (st + o3)), .second, .val (.int (1 : Int32)), .unset, .unset, .unset, .unset] [])) _
        refine XS.iload X9.here hx rfl (hb hby at_186) rfl ?_
        show Steps p.tables e below (T9.setTop (mkF m 188 #[.val (.int xs), .val (.long st), .second, .val (.int stp), .val (.long exc), .second, .val (.int sel), .val (.long q), .second, .val (.ref a2), .val (.int (3 : Int32)), .val (.int (1 : Int32)), .val (.long o3), .second, .val (.long arr), .second, .val (.long (arr + 0)), .second, .val (.long (arr + q)), .second, .val (.long (st + o3)), .second, .val (.int (1 : Int32)), .unset, .unset, .unset, .unset] [(.int (1 : Int32))])) _
        refine XS.ifNo X9.here hx rfl (hb hby at_188) rfl rfl ?_
        show Steps p.tables e below (T9.setTop (mkF m 191 #[.val (.int xs), .val (.long st), .second, .val (.int stp), .val (.long exc), .second, .val (.int sel), .val (.long q), .second, .val (.ref a2), .val (.int (3 : Int32)), .val (.int (1 : Int32)), .val (.long o3), .second, .val (.long arr), .second, .val (.long (arr + 0)), .second, .val (.long (arr + q)), .second, .val (.long (st + o3)), .second, .val (.int (1 : Int32)), .unset, .unset, .unset, .unset] [])) _
        refine XS.lload X9.here hx rfl (hb hby at_191) rfl ?_
        show Steps p.tables e below (T9.setTop (mkF m 193 #[.val (.int xs), .val (.long st), .second, .val (.int stp), .val (.long exc), .second, .val (.int sel), .val (.long q), .second, .val (.ref a2), .val (.int (3 : Int32)), .val (.int (1 : Int32)), .val (.long o3), .second, .val (.long arr), .second, .val (.long (arr + 0)), .second, .val (.long (arr + q)), .second, .val (.long (st + o3)), .second, .val (.int (1 : Int32)), .unset, .unset, .unset, .unset] [(.long arr)])) _
        refine XS.goto X9.here hx rfl (pc0 := 193) (pc' := 198) rfl (hb hby at_193) (by decide) (by decide) ?_
        show Steps p.tables e below (T9.setTop (mkF m 198 #[.val (.int xs), .val (.long st), .second, .val (.int stp), .val (.long exc), .second, .val (.int sel), .val (.long q), .second, .val (.ref a2), .val (.int (3 : Int32)), .val (.int (1 : Int32)), .val (.long o3), .second, .val (.long arr), .second, .val (.long (arr + 0)), .second, .val (.long (arr + q)), .second, .val (.long (st + o3)), .second, .val (.int (1 : Int32)), .unset, .unset, .unset, .unset] [(.long arr)])) _
        refine XS.lstore X9.here hx rfl (hb hby at_198) rfl (l' := #[.val (.int xs), .val (.long st), .second, .val (.int stp), .val (.long exc), .second, .val (.int sel), .val (.long q), .second, .val (.ref a2), .val (.int (3 : Int32)), .val (.int (1 : Int32)), .val (.long o3), .second, .val (.long arr), .second, .val (.long (arr + 0)), .second, .val (.long (arr + q)), .second, .val (.long (st + o3)), .second, .val (.int (1 : Int32)), .val (.long arr), .second, .unset, .unset]) rfl ?_
        show Steps p.tables e below (T9.setTop (mkF m 200 #[.val (.int xs), .val (.long st), .second, .val (.int stp), .val (.long exc), .second, .val (.int sel), .val (.long q), .second, .val (.ref a2), .val (.int (3 : Int32)), .val (.int (1 : Int32)), .val (.long o3), .second, .val (.long arr), .second, .val (.long (arr + 0)), .second, .val (.long (arr + q)), .second, .val (.long (st + o3)), .second, .val (.int (1 : Int32)), .val (.long arr), .second, .unset, .unset] [])) _
        refine XS.lload X9.here hx rfl (hb hby at_200) rfl ?_
        show Steps p.tables e below (T9.setTop (mkF m 202 #[.val (.int xs), .val (.long st), .second, .val (.int stp), .val (.long exc), .second, .val (.int sel), .val (.long q), .second, .val (.ref a2), .val (.int (3 : Int32)), .val (.int (1 : Int32)), .val (.long o3), .second, .val (.long arr), .second, .val (.long (arr + 0)), .second, .val (.long (arr + q)), .second, .val (.long (st + o3)), .second, .val (.int (1 : Int32)), .val (.long arr), .second, .unset, .unset] [(.long arr)])) _
        refine XS.lload X9.here hx rfl (hb hby at_202) rfl ?_
        show Steps p.tables e below (T9.setTop (mkF m 204 #[.val (.int xs), .val (.long st), .second, .val (.int stp), .val (.long exc), .second, .val (.int sel), .val (.long q), .second, .val (.ref a2), .val (.int (3 : Int32)), .val (.int (1 : Int32)), .val (.long o3), .second, .val (.long arr), .second, .val (.long (arr + 0)), .second, .val (.long (arr + q)), .second, .val (.long (st + o3)), .second, .val (.int (1 : Int32)), .val (.long arr), .second, .unset, .unset] [(.long q), (.long arr)])) _
        refine XS.ladd X9.here hx rfl (hb hby at_204) rfl ?_
        show Steps p.tables e below (T9.setTop (mkF m 205 #[.val (.int xs), .val (.long st), .second, .val (.int stp), .val (.long exc), .second, .val (.int sel), .val (.long q), .second, .val (.ref a2), .val (.int (3 : Int32)), .val (.int (1 : Int32)), .val (.long o3), .second, .val (.long arr), .second, .val (.long (arr + 0)), .second, .val (.long (arr + q)), .second, .val (.long (st + o3)), .second, .val (.int (1 : Int32)), .val (.long arr), .second, .unset, .unset] [(.long (arr + q))])) _
        refine XS.lstore X9.here hx rfl (hb hby at_205) rfl (l' := #[.val (.int xs), .val (.long st), .second, .val (.int stp), .val (.long exc), .second, .val (.int sel), .val (.long q), .second, .val (.ref a2), .val (.int (3 : Int32)), .val (.int (1 : Int32)), .val (.long o3), .second, .val (.long arr), .second, .val (.long (arr + 0)), .second, .val (.long (arr + q)), .second, .val (.long (st + o3)), .second, .val (.int (1 : Int32)), .val (.long arr), .second, .val (.long (arr + q)), .second]) rfl ?_
        show Steps p.tables e below (T9.setTop (mkF m 207 #[.val (.int xs), .val (.long st), .second, .val (.int stp), .val (.long exc), .second, .val (.int sel), .val (.long q), .second, .val (.ref a2), .val (.int (3 : Int32)), .val (.int (1 : Int32)), .val (.long o3), .second, .val (.long arr), .second, .val (.long (arr + 0)), .second, .val (.long (arr + q)), .second, .val (.long (st + o3)), .second, .val (.int (1 : Int32)), .val (.long arr), .second, .val (.long (arr + q)), .second] [])) _
        refine XS.iload X9.here hx rfl (hb hby at_207) rfl ?_
        show Steps p.tables e below (T9.setTop (mkF m 209 #[.val (.int xs), .val (.long st), .second, .val (.int stp), .val (.long exc), .second, .val (.int sel), .val (.long q), .second, .val (.ref a2), .val (.int (3 : Int32)), .val (.int (1 : Int32)), .val (.long o3), .second, .val (.long arr), .second, .val (.long (arr + 0)), .second, .val (.long (arr + q)), .second, .val (.long (st + o3)), .second, .val (.int (1 : Int32)), .val (.long arr), .second, .val (.long (arr + q)), .second] [(.int (1 : Int32))])) _
        refine XS.ifNo X9.here hx rfl (hb hby at_209) rfl rfl ?_
        show Steps p.tables e below (T9.setTop (mkF m 212 #[.val (.int xs), .val (.long st), .second, .val (.int stp), .val (.long exc), .second, .val (.int sel), .val (.long q), .second, .val (.ref a2), .val (.int (3 : Int32)), .val (.int (1 : Int32)), .val (.long o3), .second, .val (.long arr), .second, .val (.long (arr + 0)), .second, .val (.long (arr + q)), .second, .val (.long (st + o3)), .second, .val (.int (1 : Int32)), .val (.long arr), .second, .val (.long (arr + q)), .second] [])) _
        refine XS.lload X9.here hx rfl (hb hby at_212) rfl ?_
        show Steps p.tables e below (T9.setTop (mkF m 214 #[.val (.int xs), .val (.long st), .second, .val (.int stp), .val (.long exc), .second, .val (.int sel), .val (.long q), .second, .val (.ref a2), .val (.int (3 : Int32)), .val (.int (1 : Int32)), .val (.long o3), .second, .val (.long arr), .second, .val (.long (arr + 0)), .second, .val (.long (arr + q)), .second, .val (.long (st + o3)), .second, .val (.int (1 : Int32)), .val (.long arr), .second, .val (.long (arr + q)), .second] [(.long (arr + 0))])) _
        refine XS.lload X9.here hx rfl (hb hby at_214) rfl ?_
        show Steps p.tables e below (T9.setTop (mkF m 216 #[.val (.int xs), .val (.long st), .second, .val (.int stp), .val (.long exc), .second, .val (.int sel), .val (.long q), .second, .val (.ref a2), .val (.int (3 : Int32)), .val (.int (1 : Int32)), .val (.long o3), .second, .val (.long arr), .second, .val (.long (arr + 0)), .second, .val (.long (arr + q)), .second, .val (.long (st + o3)), .second, .val (.int (1 : Int32)), .val (.long arr), .second, .val (.long (arr + q)), .second] [(.long arr), (.long (arr + 0))])) _
        refine XS.lcmp X9.here hx rfl (hb hby at_216) rfl ?_
        show Steps p.tables e below (T9.setTop (mkF m 217 #[.val (.int xs), .val (.long st), .second, .val (.int stp), .val (.long exc), .second, .val (.int sel), .val (.long q), .second, .val (.ref a2), .val (.int (3 : Int32)), .val (.int (1 : Int32)), .val (.long o3), .second, .val (.long arr), .second, .val (.long (arr + 0)), .second, .val (.long (arr + q)), .second, .val (.long (st + o3)), .second, .val (.int (1 : Int32)), .val (.long arr), .second, .val (.long (arr + q)), .second] [(.int (lcmpW (arr + 0) arr))])) _
        refine XS.ifNo X9.here hx rfl (hb hby at_217) rfl ((Jvm.Own.holdsL _ _ _).trans (Jvm.Own.dF (by rw [sz]; exact fun q => q rfl))) ?_
        show Steps p.tables e below (T9.setTop (mkF m 220 #[.val (.int xs), .val (.long st), .second, .val (.int stp), .val (.long exc), .second, .val (.int sel), .val (.long q), .second, .val (.ref a2), .val (.int (3 : Int32)), .val (.int (1 : Int32)), .val (.long o3), .second, .val (.long arr), .second, .val (.long (arr + 0)), .second, .val (.long (arr + q)), .second, .val (.long (st + o3)), .second, .val (.int (1 : Int32)), .val (.long arr), .second, .val (.long (arr + q)), .second] [])) _
        refine XS.lload X9.here hx rfl (hb hby at_220) rfl ?_
        show Steps p.tables e below (T9.setTop (mkF m 222 #[.val (.int xs), .val (.long st), .second, .val (.int stp), .val (.long exc), .second, .val (.int sel), .val (.long q), .second, .val (.ref a2), .val (.int (3 : Int32)), .val (.int (1 : Int32)), .val (.long o3), .second, .val (.long arr), .second, .val (.long (arr + 0)), .second, .val (.long (arr + q)), .second, .val (.long (st + o3)), .second, .val (.int (1 : Int32)), .val (.long arr), .second, .val (.long (arr + q)), .second] [(.long (arr + q))])) _
        refine XS.lload X9.here hx rfl (hb hby at_222) rfl ?_
        show Steps p.tables e below (T9.setTop (mkF m 224 #[.val (.int xs), .val (.long st), .second, .val (.int stp), .val (.long exc), .second, .val (.int sel), .val (.long q), .second, .val (.ref a2), .val (.int (3 : Int32)), .val (.int (1 : Int32)), .val (.long o3), .second, .val (.long arr), .second, .val (.long (arr + 0)), .second, .val (.long (arr + q)), .second, .val (.long (st + o3)), .second, .val (.int (1 : Int32)), .val (.long arr), .second, .val (.long (arr + q)), .second] [(.long (arr + q)), (.long (arr + q))])) _
        refine XS.lcmp X9.here hx rfl (hb hby at_224) rfl ?_
        show Steps p.tables e below (T9.setTop (mkF m 225 #[.val (.int xs), .val (.long st), .second, .val (.int stp), .val (.long exc), .second, .val (.int sel), .val (.long q), .second, .val (.ref a2), .val (.int (3 : Int32)), .val (.int (1 : Int32)), .val (.long o3), .second, .val (.long arr), .second, .val (.long (arr + 0)), .second, .val (.long (arr + q)), .second, .val (.long (st + o3)), .second, .val (.int (1 : Int32)), .val (.long arr), .second, .val (.long (arr + q)), .second] [(.int (lcmpW (arr + q) (arr + q)))])) _
        refine XS.ifNo X9.here hx rfl (hb hby at_225) rfl ((Jvm.Own.holdsL _ _ _).trans (Jvm.Own.dF (fun q => q rfl))) ?_
        show Steps p.tables e below (T9.setTop (mkF m 228 #[.val (.int xs), .val (.long st), .second, .val (.int stp), .val (.long exc), .second, .val (.int sel), .val (.long q), .second, .val (.ref a2), .val (.int (3 : Int32)), .val (.int (1 : Int32)), .val (.long o3), .second, .val (.long arr), .second, .val (.long (arr + 0)), .second, .val (.long (arr + q)), .second, .val (.long (st + o3)), .second, .val (.int (1 : Int32)), .val (.long arr), .second, .val (.long (arr + q)), .second] [])) _
        refine XS.iconst X9.here hx rfl (hb hby at_228) ?_
        show Steps p.tables e below (T9.setTop (mkF m 229 #[.val (.int xs), .val (.long st), .second, .val (.int stp), .val (.long exc), .second, .val (.int sel), .val (.long q), .second, .val (.ref a2), .val (.int (3 : Int32)), .val (.int (1 : Int32)), .val (.long o3), .second, .val (.long arr), .second, .val (.long (arr + 0)), .second, .val (.long (arr + q)), .second, .val (.long (st + o3)), .second, .val (.int (1 : Int32)), .val (.long arr), .second, .val (.long (arr + q)), .second] [(.int (1 : Int32))])) _
        refine XS.goto X9.here hx rfl (pc0 := 229) (pc' := 233) rfl (hb hby at_229) (by decide) (by decide) ?_
        show Steps p.tables e below (T9.setTop (mkF m 233 #[.val (.int xs), .val (.long st), .second, .val (.int stp), .val (.long exc), .second, .val (.int sel), .val (.long q), .second, .val (.ref a2), .val (.int (3 : Int32)), .val (.int (1 : Int32)), .val (.long o3), .second, .val (.long arr), .second, .val (.long (arr + 0)), .second, .val (.long (arr + q)), .second, .val (.long (st + o3)), .second, .val (.int (1 : Int32)), .val (.long arr), .second, .val (.long (arr + q)), .second] [(.int (1 : Int32))])) _
        exact retN X9 hx (t := .boolean) Bd.returns (by simp) (hb hby at_233) hr
      · show QL n0 _ T9.heap _
        exact ⟨rfl, (Fr.app (Fr.app (Fr.app (Fr.app (Fr.app (Fr.app (Fr.app (Fr.app N0 N1) N3) N4) N5) N6) N7) N8) N9)⟩
    · obtain ⟨_, _, ⟨T1, L1, k1, n1⟩, -, X1, ⟨Lc1, hQ1, l1, y1, z1⟩, st1⟩ := Jvm.LawKit.callS X0 hx (y := (⟨"com/example/earnest_load/earnestload/run/ScheduleNextFromPinLaw", "period", "(I)J"⟩ : MethodName)) hown (mvT hZ (hw _ (List.mem_of_getElem? (i := 0) rfl))) (mvT hZ (hw _ (List.mem_of_getElem? (i := 1) rfl))) (mvT hZ (hw _ (List.mem_of_getElem? (i := 2) rfl))) (mvT hZ (hw _ (List.mem_of_getElem? (i := 3) rfl))) (by decide) (backOf (W := 0) (rmPer l Z a0 hw [] sel h0 n0 Z0 q rr htri) hZ (hw _ (List.mem_of_getElem? (i := 3) rfl)) (hw _ (List.mem_of_getElem? (i := 2) rfl)) (by decide) (by decide)) (g := (mkF m 8 #[.val (.int xs), .val (.long st), .second, .val (.int stp), .val (.long exc), .second, .val (.int sel), .unset, .unset, .unset, .unset, .unset, .unset, .unset, .unset, .unset, .unset, .unset, .unset, .unset, .unset, .unset, .unset, .unset, .unset, .unset, .unset] [(.int sel)])) rfl (by rw [hml]; rfl) (argsL := [(.int sel)]) (rest := []) (lenOf pd_2 rfl) rfl (by show 2 * 0 + _ ≤ _; exact Nat.le_of_eq rfl) (hb hby at_8) (fun _ _ => ⟨rfl, e0, (by decide : 0 + 0 ≤ _), (by decide : 0 + 0 ≤ _)⟩)
      dsimp only [Pt.U, Pt.locs, Pt.cells, Pt.slots] at X1 l1 y1 z1 st1 hQ1
      subst l1 y1 z1
      obtain ⟨rfl, N1, e1⟩ := hQ1
      obtain ⟨T2, h2, X2, e2, E2, A2, D2, -, st2⟩ := newO X1 hx hZ hown (hw _ (List.mem_of_getElem? (i := 5) rfl)) (hw _ (List.mem_of_getElem? (i := 6) rfl)) (hw _ (List.mem_of_getElem? (i := 7) rfl)) e1 (g := (mkF m 13 #[.val (.int xs), .val (.long st), .second, .val (.int stp), .val (.long exc), .second, .val (.int sel), .val (.long q), .second, .unset, .unset, .unset, .unset, .unset, .unset, .unset, .unset, .unset, .unset, .unset, .unset, .unset, .unset, .unset, .unset, .unset, .unset] [])) rfl (hb hby at_13) (by decide) (by decide)
      obtain ⟨a2, g2⟩ : ∃ z, z = h0.size := ⟨_, rfl⟩
      rw [← g2] at A2 D2 st2
      have D_start := D2 (Or.inl (hw _ (List.mem_of_getElem? (i := 20) rfl))) (ty := .long) (by decide)
      have D_count := D2 (Or.inl (hw _ (List.mem_of_getElem? (i := 27) rfl))) (ty := .long) (by decide)
      have D_rate := D2 (Or.inr (hw _ (List.mem_of_getElem? (i := 18) rfl))) (ty := .double) (by decide)
      have Z2 : n0 ≤ h2.size := Nat.le_trans Z0 E2.1
      have ga : n0 ≤ a2 := Nat.le_trans Z0 (Nat.le_of_eq g2.symm)
      obtain ⟨_, _, ⟨T3, L3, k3, n3⟩, -, X3, ⟨Lc3, hQ3, l3, y3, z3⟩, st3⟩ := Jvm.LawKit.callS X2 hx (y := (⟨"com/example/earnest_load/earnestload/run/ScheduleNextFromPinLaw", "rate", "(I)I"⟩ : MethodName)) hown (mvT hZ (hw _ (List.mem_of_getElem? (i := 8) rfl))) (mvT hZ (hw _ (List.mem_of_getElem? (i := 9) rfl))) (mvT hZ (hw _ (List.mem_of_getElem? (i := 2) rfl))) (mvT hZ (hw _ (List.mem_of_getElem? (i := 10) rfl))) (by decide) (backOf (W := 2) (rmRate l Z a0 hw [] sel h2 n0 Z2 q rr htri) hZ (hw _ (List.mem_of_getElem? (i := 10) rfl)) (hw _ (List.mem_of_getElem? (i := 2) rfl)) (by decide) (by decide)) (g := (mkF m 19 #[.val (.int xs), .val (.long st), .second, .val (.int stp), .val (.long exc), .second, .val (.int sel), .val (.long q), .second, .unset, .unset, .unset, .unset, .unset, .unset, .unset, .unset, .unset, .unset, .unset, .unset, .unset, .unset, .unset, .unset, .unset, .unset] [(.int sel), (.ref a2), (.ref a2)])) rfl (by rw [hml]; rfl) (argsL := [(.int sel)]) (rest := [(.ref a2), (.ref a2)]) (lenOf pd_3 rfl) rfl (by show 2 * 0 + _ ≤ _; exact Nat.le_of_eq rfl) (hb hby at_19) (fun _ _ => ⟨rfl, e2, (by decide : 1 + 0 ≤ _), (by decide : 3 + 0 ≤ _)⟩)
      dsimp only [Pt.U, Pt.locs, Pt.cells, Pt.slots] at X3 l3 y3 z3 st3 hQ3
      subst l3 y3 z3
      obtain ⟨rfl, N3, e3⟩ := hQ3
      obtain ⟨_, _, ⟨T4, L4, k4, n4⟩, -, X4, ⟨Lc4, hQ4, l4, y4, z4⟩, st4⟩ := X3.specialBack hx (y := (⟨"com/example/earnest_load/earnestload/run/Schedule", "<init>", "(DJ)V"⟩ : MethodName)) rfl hown (mvT hZ (hw _ (List.mem_of_getElem? (i := 11) rfl))) (mvT hZ (hw _ (List.mem_of_getElem? (i := 12) rfl))) (mvT hZ (hw _ (List.mem_of_getElem? (i := 13) rfl))) (by decide) (backOf (W := 1) (rmInit l Z a0 hw [] a2 (FP.i2d rr) st h2 n0 Z2 A2 ga D_start D_count D_rate) hZ (hw _ (List.mem_of_getElem? (i := 13) rfl)) (hw _ (List.mem_of_getElem? (i := 7) rfl)) (by decide) (by decide)) (g := (mkF m 24 #[.val (.int xs), .val (.long st), .second, .val (.int stp), .val (.long exc), .second, .val (.int sel), .val (.long q), .second, .unset, .unset, .unset, .unset, .unset, .unset, .unset, .unset, .unset, .unset, .unset, .unset, .unset, .unset, .unset, .unset, .unset, .unset] [(.long st), (.double (FP.i2d rr)), (.ref a2), (.ref a2)])) rfl (by rw [hml]; rfl) (Steps.refl _) (a := a2) (argsL := [(.double (FP.i2d rr)), (.long st)]) (rest := [(.ref a2)]) (lenOf pd_4 rfl) rfl (by show 2 * 0 + _ ≤ _; exact Nat.le_of_eq rfl) (hb hby at_24) (fun _ _ => ⟨rfl, e3, (by decide : 1 + 0 ≤ _), (by decide : 3 + 0 ≤ _)⟩)
      dsimp only [Pt.U, Pt.locs, Pt.cells, Pt.slots] at X4 l4 y4 z4 st4 hQ4
      subst l4 y4 z4
      obtain ⟨rfl, N4, K4, E4, Fs4, Fc4, Fr4⟩ := hQ4
      have Z4 : n0 ≤ T4.heap.size := Nat.le_trans Z2 K4.1
      obtain ⟨cq5, kq5, q5a, q5b, q5c⟩ := isOf hZ rfl E4
      obtain ⟨_, _, ⟨T5, L5, k5, n5⟩, -, X5, ⟨Lc5, hQ5, l5, y5, z5⟩, st5⟩ := X4.virtualBack hx (y := (⟨"com/example/earnest_load/earnestload/run/Schedule", "next", "()J"⟩ : MethodName)) (z := (⟨"com/example/earnest_load/earnestload/run/Schedule", "next", "()J"⟩ : MethodName)) hown (mvT hZ (hw _ (List.mem_of_getElem? (i := 21) rfl))) (mvT hZ (hw _ (List.mem_of_getElem? (i := 22) rfl))) (notFace_of_selects (args := #[]) (mvT hZ (hw _ (List.mem_of_getElem? (i := 24) rfl)))) (mvT hZ (hw _ (List.mem_of_getElem? (i := 24) rfl))) (mvT hZ (hw _ (List.mem_of_getElem? (i := 23) rfl))) (by decide) (backOf (W := 0) (rmNext l Z a0 hw [] a2 T4.heap n0 Z4 st (0 : Int64) (0 : Int64) (FP.i2d rr) Fs4 Fc4 Fr4 E4 ga p0.1 p0.2.1 p0.2.2) hZ (hw _ (List.mem_of_getElem? (i := 25) rfl)) (hw _ (List.mem_of_getElem? (i := 7) rfl)) (by decide) (by decide)) q5a q5c (g := (mkF m 49 #[.val (.int xs), .val (.long st), .second, .val (.int stp), .val (.long exc), .second, .val (.int sel), .val (.long q), .second, .val (.ref a2), .val (.int (3 : Int32)), .val (.int (1 : Int32)), .unset, .unset, .unset, .unset, .unset, .unset, .unset, .unset, .unset, .unset, .unset, .unset, .unset, .unset, .unset] [(.ref a2)])) rfl (by rw [hml]; rfl) (Steps.refl _) (argsL := []) (rest := []) (lenOf pd_1 rfl) rfl (by show 2 * 0 + _ ≤ _; exact Nat.le_of_eq rfl) (hb hby at_49) (fun _ _ => ⟨rfl, rfl, (by decide : 1 + 0 ≤ _), (by decide : 3 + 0 ≤ _)⟩)
      dsimp only [Pt.U, Pt.locs, Pt.cells, Pt.slots] at X5 l5 y5 z5 st5 hQ5
      subst l5 y5 z5
      obtain ⟨rfl, N5, K5, E5, Fs5, Fc5, Fr5⟩ := hQ5
      have Z5 : n0 ≤ T5.heap.size := Nat.le_trans Z4 K5.1
      obtain ⟨cq6, kq6, q6a, q6b, q6c⟩ := isOf hZ rfl E5
      obtain ⟨_, _, ⟨T6, L6, k6, n6⟩, -, X6, ⟨Lc6, hQ6, l6, y6, z6⟩, st6⟩ := X5.virtualBack hx (y := (⟨"com/example/earnest_load/earnestload/run/Schedule", "next", "()J"⟩ : MethodName)) (z := (⟨"com/example/earnest_load/earnestload/run/Schedule", "next", "()J"⟩ : MethodName)) hown (mvT hZ (hw _ (List.mem_of_getElem? (i := 21) rfl))) (mvT hZ (hw _ (List.mem_of_getElem? (i := 22) rfl))) (notFace_of_selects (args := #[]) (mvT hZ (hw _ (List.mem_of_getElem? (i := 24) rfl)))) (mvT hZ (hw _ (List.mem_of_getElem? (i := 24) rfl))) (mvT hZ (hw _ (List.mem_of_getElem? (i := 23) rfl))) (by decide) (backOf (W := 0) (rmNext l Z a0 hw [] a2 T5.heap n0 Z5 st (0 + (1 : Int64)) q (FP.i2d rr) Fs5 Fc5 Fr5 E5 ga p1.1 p1.2.1 p1.2.2) hZ (hw _ (List.mem_of_getElem? (i := 25) rfl)) (hw _ (List.mem_of_getElem? (i := 7) rfl)) (by decide) (by decide)) q6a q6c (g := (mkF m 77 #[.val (.int xs), .val (.long st), .second, .val (.int stp), .val (.long exc), .second, .val (.int sel), .val (.long q), .second, .val (.ref a2), .val (.int (3 : Int32)), .val (.int (1 : Int32)), .unset, .unset, .unset, .unset, .unset, .unset, .unset, .unset, .unset, .unset, .unset, .unset, .unset, .unset, .unset] [(.ref a2)])) rfl (by rw [hml]; rfl) (Steps.refl _) (argsL := []) (rest := []) (lenOf pd_1 rfl) rfl (by show 2 * 0 + _ ≤ _; exact Nat.le_of_eq rfl) (hb hby at_77) (fun _ _ => ⟨rfl, rfl, (by decide : 1 + 0 ≤ _), (by decide : 3 + 0 ≤ _)⟩)
      dsimp only [Pt.U, Pt.locs, Pt.cells, Pt.slots] at X6 l6 y6 z6 st6 hQ6
      subst l6 y6 z6
      obtain ⟨rfl, N6, K6, E6, Fs6, Fc6, Fr6⟩ := hQ6
      have Z6 : n0 ≤ T6.heap.size := Nat.le_trans Z5 K6.1
      obtain ⟨cq7, kq7, q7a, q7b, q7c⟩ := isOf hZ rfl E6
      obtain ⟨_, _, ⟨T7, L7, k7, n7⟩, -, X7, ⟨Lc7, hQ7, l7, y7, z7⟩, st7⟩ := X6.virtualBack hx (y := (⟨"com/example/earnest_load/earnestload/run/Schedule", "next", "()J"⟩ : MethodName)) (z := (⟨"com/example/earnest_load/earnestload/run/Schedule", "next", "()J"⟩ : MethodName)) hown (mvT hZ (hw _ (List.mem_of_getElem? (i := 21) rfl))) (mvT hZ (hw _ (List.mem_of_getElem? (i := 22) rfl))) (notFace_of_selects (args := #[]) (mvT hZ (hw _ (List.mem_of_getElem? (i := 24) rfl)))) (mvT hZ (hw _ (List.mem_of_getElem? (i := 24) rfl))) (mvT hZ (hw _ (List.mem_of_getElem? (i := 23) rfl))) (by decide) (backOf (W := 0) (rmNext l Z a0 hw [] a2 T6.heap n0 Z6 st (0 + (1 : Int64) + (1 : Int64)) o2 (FP.i2d rr) Fs6 Fc6 Fr6 E6 ga p2.1 p2.2.1 p2.2.2) hZ (hw _ (List.mem_of_getElem? (i := 25) rfl)) (hw _ (List.mem_of_getElem? (i := 7) rfl)) (by decide) (by decide)) q7a q7c (g := (mkF m 108 #[.val (.int xs), .val (.long st), .second, .val (.int stp), .val (.long exc), .second, .val (.int sel), .val (.long q), .second, .val (.ref a2), .val (.int (3 : Int32)), .val (.int (1 : Int32)), .unset, .unset, .unset, .unset, .unset, .unset, .unset, .unset, .unset, .unset, .unset, .unset, .unset, .unset, .unset] [(.ref a2)])) rfl (by rw [hml]; rfl) (Steps.refl _) (argsL := []) (rest := []) (lenOf pd_1 rfl) rfl (by show 2 * 0 + _ ≤ _; exact Nat.le_of_eq rfl) (hb hby at_108) (fun _ _ => ⟨rfl, rfl, (by decide : 1 + 0 ≤ _), (by decide : 3 + 0 ≤ _)⟩)
      dsimp only [Pt.U, Pt.locs, Pt.cells, Pt.slots] at X7 l7 y7 z7 st7 hQ7
      subst l7 y7 z7
      obtain ⟨rfl, N7, K7, E7, Fs7, Fc7, Fr7⟩ := hQ7
      have Z7 : n0 ≤ T7.heap.size := Nat.le_trans Z6 K7.1
      obtain ⟨cq8, kq8, q8a, q8b, q8c⟩ := isOf hZ rfl E7
      obtain ⟨_, _, ⟨T8, L8, k8, n8⟩, -, X8, ⟨Lc8, hQ8, l8, y8, z8⟩, st8⟩ := X7.virtualBack hx (y := (⟨"com/example/earnest_load/earnestload/run/Schedule", "nextFrom", "(J)J"⟩ : MethodName)) (z := (⟨"com/example/earnest_load/earnestload/run/Schedule", "nextFrom", "(J)J"⟩ : MethodName)) hown (mvT hZ (hw _ (List.mem_of_getElem? (i := 33) rfl))) (mvT hZ (hw _ (List.mem_of_getElem? (i := 34) rfl))) (notFace_of_selects (args := #[]) (mvT hZ (hw _ (List.mem_of_getElem? (i := 36) rfl)))) (mvT hZ (hw _ (List.mem_of_getElem? (i := 36) rfl))) (mvT hZ (hw _ (List.mem_of_getElem? (i := 35) rfl))) (by decide) (backOf (W := 0) (rmFromN l Z a0 hw [] a2 arr T7.heap n0 Z7 st (0 + (1 : Int64) + (1 : Int64) + (1 : Int64)) o3 (FP.i2d rr) Fs7 Fc7 Fr7 E7 ga p3.1 p3.2.1 p3.2.2 p0.1 p0.2.1 p0.2.2 hc) hZ (hw _ (List.mem_of_getElem? (i := 37) rfl)) (hw _ (List.mem_of_getElem? (i := 7) rfl)) (by decide) (by decide)) q8a q8c (g := (mkF m 151 #[.val (.int xs), .val (.long st), .second, .val (.int stp), .val (.long exc), .second, .val (.int sel), .val (.long q), .second, .val (.ref a2), .val (.int (3 : Int32)), .val (.int (1 : Int32)), .val (.long o3), .second, .val (.long arr), .second, .unset, .unset, .unset, .unset, .unset, .unset, .unset, .unset, .unset, .unset, .unset] [(.long arr), (.ref a2)])) rfl (by rw [hml]; rfl) (Steps.refl _) (argsL := [(.long arr)]) (rest := []) (lenOf pd_0 rfl) rfl (by show 2 * 0 + _ ≤ _; exact Nat.le_of_eq rfl) (hb hby at_151) (fun _ _ => ⟨rfl, rfl, (by decide : 1 + 0 ≤ _), (by decide : 3 + 0 ≤ _)⟩)
      dsimp only [Pt.U, Pt.locs, Pt.cells, Pt.slots] at X8 l8 y8 z8 st8 hQ8
      subst l8 y8 z8
      obtain ⟨rfl, N8, K8, E8, Fs8, Fc8, Fr8⟩ := hQ8
      have Z8 : n0 ≤ T8.heap.size := Nat.le_trans Z7 K8.1
      obtain ⟨cq9, kq9, q9a, q9b, q9c⟩ := isOf hZ rfl E8
      obtain ⟨_, _, ⟨T9, L9, k9, n9⟩, -, X9, ⟨Lc9, hQ9, l9, y9, z9⟩, st9⟩ := X8.virtualBack hx (y := (⟨"com/example/earnest_load/earnestload/run/Schedule", "next", "()J"⟩ : MethodName)) (z := (⟨"com/example/earnest_load/earnestload/run/Schedule", "next", "()J"⟩ : MethodName)) hown (mvT hZ (hw _ (List.mem_of_getElem? (i := 21) rfl))) (mvT hZ (hw _ (List.mem_of_getElem? (i := 22) rfl))) (notFace_of_selects (args := #[]) (mvT hZ (hw _ (List.mem_of_getElem? (i := 24) rfl)))) (mvT hZ (hw _ (List.mem_of_getElem? (i := 24) rfl))) (mvT hZ (hw _ (List.mem_of_getElem? (i := 23) rfl))) (by decide) (backOf (W := 0) (rmNext l Z a0 hw [] a2 T8.heap n0 Z8 st (0 + (1 : Int64) + (1 : Int64) + (1 : Int64) + (1 : Int64)) o4 (FP.i2d rr) Fs8 Fc8 Fr8 E8 ga p4.1 p4.2.1 p4.2.2) hZ (hw _ (List.mem_of_getElem? (i := 25) rfl)) (hw _ (List.mem_of_getElem? (i := 7) rfl)) (by decide) (by decide)) q9a q9c (g := (mkF m 158 #[.val (.int xs), .val (.long st), .second, .val (.int stp), .val (.long exc), .second, .val (.int sel), .val (.long q), .second, .val (.ref a2), .val (.int (3 : Int32)), .val (.int (1 : Int32)), .val (.long o3), .second, .val (.long arr), .second, .val (.long (st + o3)), .second, .unset, .unset, .unset, .unset, .unset, .unset, .unset, .unset, .unset] [(.ref a2)])) rfl (by rw [hml]; rfl) (Steps.refl _) (argsL := []) (rest := []) (lenOf pd_1 rfl) rfl (by show 2 * 0 + _ ≤ _; exact Nat.le_of_eq rfl) (hb hby at_158) (fun _ _ => ⟨rfl, rfl, (by decide : 1 + 0 ≤ _), (by decide : 3 + 0 ≤ _)⟩)
      dsimp only [Pt.U, Pt.locs, Pt.cells, Pt.slots] at X9 l9 y9 z9 st9 hQ9
      subst l9 y9 z9
      obtain ⟨rfl, N9, K9, E9, Fs9, Fc9, Fr9⟩ := hQ9
      obtain ⟨fs, hr, hrun, hended, hW, hsame⟩ := X9.leave (v := some (.int (1 : Int32))) (fun h => by rw [Bd.returns] at h; cases h)
      refine ⟨_, _, pre0 _ ?_, hrun, hended, _, _, rfl, ?_, ⟨_, rfl⟩, hW, hsame.mono (by decide) (by decide)⟩
      · show Steps p.tables e below (s₁.setTop (mkF m 0 #[.val (.int xs), .val (.long st), .second, .val (.int stp), .val (.long exc), .second, .unset, .unset, .unset, .unset, .unset, .unset, .unset, .unset, .unset, .unset, .unset, .unset, .unset, .unset, .unset, .unset, .unset, .unset, .unset, .unset, .unset] [])) _
        refine XS.iloadN X0.here hx rfl (hb hby at_0) rfl ?_
        show Steps p.tables e below (s₁.setTop (mkF m 1 #[.val (.int xs), .val (.long st), .second, .val (.int stp), .val (.long exc), .second, .unset, .unset, .unset, .unset, .unset, .unset, .unset, .unset, .unset, .unset, .unset, .unset, .unset, .unset, .unset, .unset, .unset, .unset, .unset, .unset, .unset] [(.int xs)])) _
        refine XS.bipush X0.here hx rfl (hb hby at_1) ?_
        show Steps p.tables e below (s₁.setTop (mkF m 3 #[.val (.int xs), .val (.long st), .second, .val (.int stp), .val (.long exc), .second, .unset, .unset, .unset, .unset, .unset, .unset, .unset, .unset, .unset, .unset, .unset, .unset, .unset, .unset, .unset, .unset, .unset, .unset, .unset, .unset, .unset] [(.int (7 : Int32)), (.int xs)])) _
        refine XS.iand X0.here hx rfl (hb hby at_3) rfl ?_
        rw [hsel]
        show Steps p.tables e below (s₁.setTop (mkF m 4 #[.val (.int xs), .val (.long st), .second, .val (.int stp), .val (.long exc), .second, .unset, .unset, .unset, .unset, .unset, .unset, .unset, .unset, .unset, .unset, .unset, .unset, .unset, .unset, .unset, .unset, .unset, .unset, .unset, .unset, .unset] [(.int sel)])) _
        refine XS.istore X0.here hx rfl (hb hby at_4) rfl (l' := #[.val (.int xs), .val (.long st), .second, .val (.int stp), .val (.long exc), .second, .val (.int sel), .unset, .unset, .unset, .unset, .unset, .unset, .unset, .unset, .unset, .unset, .unset, .unset, .unset, .unset, .unset, .unset, .unset, .unset, .unset, .unset]) rfl ?_
        show Steps p.tables e below (s₁.setTop (mkF m 6 #[.val (.int xs), .val (.long st), .second, .val (.int stp), .val (.long exc), .second, .val (.int sel), .unset, .unset, .unset, .unset, .unset, .unset, .unset, .unset, .unset, .unset, .unset, .unset, .unset, .unset, .unset, .unset, .unset, .unset, .unset, .unset] [])) _
        refine XS.iload X0.here hx rfl (hb hby at_6) rfl ?_
        show Steps p.tables e below (s₁.setTop (mkF m 8 #[.val (.int xs), .val (.long st), .second, .val (.int stp), .val (.long exc), .second, .val (.int sel), .unset, .unset, .unset, .unset, .unset, .unset, .unset, .unset, .unset, .unset, .unset, .unset, .unset, .unset, .unset, .unset, .unset, .unset, .unset, .unset] [(.int sel)])) _
        refine st1 _ ?_
        show Steps p.tables e below (T1.setTop (mkF m 11 #[.val (.int xs), .val (.long st), .second, .val (.int stp), .val (.long exc), .second, .val (.int sel), .unset, .unset, .unset, .unset, .unset, .unset, .unset, .unset, .unset, .unset, .unset, .unset, .unset, .unset, .unset, .unset, .unset, .unset, .unset, .unset] [(.long q)])) _
        refine XS.lstore X1.here hx rfl (hb hby at_11) rfl (l' := #[.val (.int xs), .val (.long st), .second, .val (.int stp), .val (.long exc), .second, .val (.int sel), .val (.long q), .second, .unset, .unset, .unset, .unset, .unset, .unset, .unset, .unset, .unset, .unset, .unset, .unset, .unset, .unset, .unset, .unset, .unset, .unset]) rfl ?_
        show Steps p.tables e below (T1.setTop (mkF m 13 #[.val (.int xs), .val (.long st), .second, .val (.int stp), .val (.long exc), .second, .val (.int sel), .val (.long q), .second, .unset, .unset, .unset, .unset, .unset, .unset, .unset, .unset, .unset, .unset, .unset, .unset, .unset, .unset, .unset, .unset, .unset, .unset] [])) _
        refine st2 _ ?_
        show Steps p.tables e below (T2.setTop (mkF m 16 #[.val (.int xs), .val (.long st), .second, .val (.int stp), .val (.long exc), .second, .val (.int sel), .val (.long q), .second, .unset, .unset, .unset, .unset, .unset, .unset, .unset, .unset, .unset, .unset, .unset, .unset, .unset, .unset, .unset, .unset, .unset, .unset] [(.ref a2)])) _
        refine XS.dup X2.here hx rfl (hb hby at_16) rfl rfl ?_
        show Steps p.tables e below (T2.setTop (mkF m 17 #[.val (.int xs), .val (.long st), .second, .val (.int stp), .val (.long exc), .second, .val (.int sel), .val (.long q), .second, .unset, .unset, .unset, .unset, .unset, .unset, .unset, .unset, .unset, .unset, .unset, .unset, .unset, .unset, .unset, .unset, .unset, .unset] [(.ref a2), (.ref a2)])) _
        refine XS.iload X2.here hx rfl (hb hby at_17) rfl ?_
        show Steps p.tables e below (T2.setTop (mkF m 19 #[.val (.int xs), .val (.long st), .second, .val (.int stp), .val (.long exc), .second, .val (.int sel), .val (.long q), .second, .unset, .unset, .unset, .unset, .unset, .unset, .unset, .unset, .unset, .unset, .unset, .unset, .unset, .unset, .unset, .unset, .unset, .unset] [(.int sel), (.ref a2), (.ref a2)])) _
        refine st3 _ ?_
        show Steps p.tables e below (T3.setTop (mkF m 22 #[.val (.int xs), .val (.long st), .second, .val (.int stp), .val (.long exc), .second, .val (.int sel), .val (.long q), .second, .unset, .unset, .unset, .unset, .unset, .unset, .unset, .unset, .unset, .unset, .unset, .unset, .unset, .unset, .unset, .unset, .unset, .unset] [(.int rr), (.ref a2), (.ref a2)])) _
        refine XS.i2dS X3.here hx rfl (hb hby at_22) rfl (v := FP.i2d rr) rfl ?_
        show Steps p.tables e below (T3.setTop (mkF m 23 #[.val (.int xs), .val (.long st), .second, .val (.int stp), .val (.long exc), .second, .val (.int sel), .val (.long q), .second, .unset, .unset, .unset, .unset, .unset, .unset, .unset, .unset, .unset, .unset, .unset, .unset, .unset, .unset, .unset, .unset, .unset, .unset] [(.double (FP.i2d rr)), (.ref a2), (.ref a2)])) _
        refine XS.lloadN X3.here hx rfl (hb hby at_23) rfl ?_
        show Steps p.tables e below (T3.setTop (mkF m 24 #[.val (.int xs), .val (.long st), .second, .val (.int stp), .val (.long exc), .second, .val (.int sel), .val (.long q), .second, .unset, .unset, .unset, .unset, .unset, .unset, .unset, .unset, .unset, .unset, .unset, .unset, .unset, .unset, .unset, .unset, .unset, .unset] [(.long st), (.double (FP.i2d rr)), (.ref a2), (.ref a2)])) _
        refine st4.trans ?_
        show Steps p.tables e below (T4.setTop (mkF m 27 #[.val (.int xs), .val (.long st), .second, .val (.int stp), .val (.long exc), .second, .val (.int sel), .val (.long q), .second, .unset, .unset, .unset, .unset, .unset, .unset, .unset, .unset, .unset, .unset, .unset, .unset, .unset, .unset, .unset, .unset, .unset, .unset] [(.ref a2)])) _
        refine XS.astore X4.here hx rfl (hb hby at_27) rfl rfl (l' := #[.val (.int xs), .val (.long st), .second, .val (.int stp), .val (.long exc), .second, .val (.int sel), .val (.long q), .second, .val (.ref a2), .unset, .unset, .unset, .unset, .unset, .unset, .unset, .unset, .unset, .unset, .unset, .unset, .unset, .unset, .unset, .unset, .unset]) rfl ?_
        show Steps p.tables e below (T4.setTop (mkF m 29 #[.val (.int xs), .val (.long st), .second, .val (.int stp), .val (.long exc), .second, .val (.int sel), .val (.long q), .second, .val (.ref a2), .unset, .unset, .unset, .unset, .unset, .unset, .unset, .unset, .unset, .unset, .unset, .unset, .unset, .unset, .unset, .unset, .unset] [])) _
        refine XS.iloadN X4.here hx rfl (hb hby at_29) rfl ?_
        show Steps p.tables e below (T4.setTop (mkF m 30 #[.val (.int xs), .val (.long st), .second, .val (.int stp), .val (.long exc), .second, .val (.int sel), .val (.long q), .second, .val (.ref a2), .unset, .unset, .unset, .unset, .unset, .unset, .unset, .unset, .unset, .unset, .unset, .unset, .unset, .unset, .unset, .unset, .unset] [(.int stp)])) _
        refine XS.iconst X4.here hx rfl (hb hby at_30) ?_
        show Steps p.tables e below (T4.setTop (mkF m 31 #[.val (.int xs), .val (.long st), .second, .val (.int stp), .val (.long exc), .second, .val (.int sel), .val (.long q), .second, .val (.ref a2), .unset, .unset, .unset, .unset, .unset, .unset, .unset, .unset, .unset, .unset, .unset, .unset, .unset, .unset, .unset, .unset, .unset] [(.int (3 : Int32)), (.int stp)])) _
        refine XS.iand X4.here hx rfl (hb hby at_31) rfl ?_
        rw [hkk]
        show Steps p.tables e below (T4.setTop (mkF m 32 #[.val (.int xs), .val (.long st), .second, .val (.int stp), .val (.long exc), .second, .val (.int sel), .val (.long q), .second, .val (.ref a2), .unset, .unset, .unset, .unset, .unset, .unset, .unset, .unset, .unset, .unset, .unset, .unset, .unset, .unset, .unset, .unset, .unset] [(.int (3 : Int32))])) _
        refine XS.istore X4.here hx rfl (hb hby at_32) rfl (l' := #[.val (.int xs), .val (.long st), .second, .val (.int stp), .val (.long exc), .second, .val (.int sel), .val (.long q), .second, .val (.ref a2), .val (.int (3 : Int32)), .unset, .unset, .unset, .unset, .unset, .unset, .unset, .unset, .unset, .unset, .unset, .unset, .unset, .unset, .unset, .unset]) rfl ?_
        show Steps p.tables e below (T4.setTop (mkF m 34 #[.val (.int xs), .val (.long st), .second, .val (.int stp), .val (.long exc), .second, .val (.int sel), .val (.long q), .second, .val (.ref a2), .val (.int (3 : Int32)), .unset, .unset, .unset, .unset, .unset, .unset, .unset, .unset, .unset, .unset, .unset, .unset, .unset, .unset, .unset, .unset] [])) _
        refine XS.iconst X4.here hx rfl (hb hby at_34) ?_
        show Steps p.tables e below (T4.setTop (mkF m 35 #[.val (.int xs), .val (.long st), .second, .val (.int stp), .val (.long exc), .second, .val (.int sel), .val (.long q), .second, .val (.ref a2), .val (.int (3 : Int32)), .unset, .unset, .unset, .unset, .unset, .unset, .unset, .unset, .unset, .unset, .unset, .unset, .unset, .unset, .unset, .unset] [(.int (1 : Int32))])) _
        refine XS.istore X4.here hx rfl (hb hby at_35) rfl (l' := #[.val (.int xs), .val (.long st), .second, .val (.int stp), .val (.long exc), .second, .val (.int sel), .val (.long q), .second, .val (.ref a2), .val (.int (3 : Int32)), .val (.int (1 : Int32)), .unset, .unset, .unset, .unset, .unset, .unset, .unset, .unset, .unset, .unset, .unset, .unset, .unset, .unset, .unset]) rfl ?_
        show Steps p.tables e below (T4.setTop (mkF m 37 #[.val (.int xs), .val (.long st), .second, .val (.int stp), .val (.long exc), .second, .val (.int sel), .val (.long q), .second, .val (.ref a2), .val (.int (3 : Int32)), .val (.int (1 : Int32)), .unset, .unset, .unset, .unset, .unset, .unset, .unset, .unset, .unset, .unset, .unset, .unset, .unset, .unset, .unset] [])) _
        refine XS.iload X4.here hx rfl (hb hby at_37) rfl ?_
        show Steps p.tables e below (T4.setTop (mkF m 39 #[.val (.int xs), .val (.long st), .second, .val (.int stp), .val (.long exc), .second, .val (.int sel), .val (.long q), .second, .val (.ref a2), .val (.int (3 : Int32)), .val (.int (1 : Int32)), .unset, .unset, .unset, .unset, .unset, .unset, .unset, .unset, .unset, .unset, .unset, .unset, .unset, .unset, .unset] [(.int (3 : Int32))])) _
        refine XS.ifNo X4.here hx rfl (hb hby at_39) rfl rfl ?_
        show Steps p.tables e below (T4.setTop (mkF m 42 #[.val (.int xs), .val (.long st), .second, .val (.int stp), .val (.long exc), .second, .val (.int sel), .val (.long q), .second, .val (.ref a2), .val (.int (3 : Int32)), .val (.int (1 : Int32)), .unset, .unset, .unset, .unset, .unset, .unset, .unset, .unset, .unset, .unset, .unset, .unset, .unset, .unset, .unset] [])) _
        refine XS.iload X4.here hx rfl (hb hby at_42) rfl ?_
        show Steps p.tables e below (T4.setTop (mkF m 44 #[.val (.int xs), .val (.long st), .second, .val (.int stp), .val (.long exc), .second, .val (.int sel), .val (.long q), .second, .val (.ref a2), .val (.int (3 : Int32)), .val (.int (1 : Int32)), .unset, .unset, .unset, .unset, .unset, .unset, .unset, .unset, .unset, .unset, .unset, .unset, .unset, .unset, .unset] [(.int (1 : Int32))])) _
        refine XS.ifNo X4.here hx rfl (hb hby at_44) rfl rfl ?_
        show Steps p.tables e below (T4.setTop (mkF m 47 #[.val (.int xs), .val (.long st), .second, .val (.int stp), .val (.long exc), .second, .val (.int sel), .val (.long q), .second, .val (.ref a2), .val (.int (3 : Int32)), .val (.int (1 : Int32)), .unset, .unset, .unset, .unset, .unset, .unset, .unset, .unset, .unset, .unset, .unset, .unset, .unset, .unset, .unset] [])) _
        refine XS.aload X4.here hx rfl (hb hby at_47) rfl rfl ?_
        show Steps p.tables e below (T4.setTop (mkF m 49 #[.val (.int xs), .val (.long st), .second, .val (.int stp), .val (.long exc), .second, .val (.int sel), .val (.long q), .second, .val (.ref a2), .val (.int (3 : Int32)), .val (.int (1 : Int32)), .unset, .unset, .unset, .unset, .unset, .unset, .unset, .unset, .unset, .unset, .unset, .unset, .unset, .unset, .unset] [(.ref a2)])) _
        refine st5.trans ?_
        show Steps p.tables e below (T5.setTop (mkF m 52 #[.val (.int xs), .val (.long st), .second, .val (.int stp), .val (.long exc), .second, .val (.int sel), .val (.long q), .second, .val (.ref a2), .val (.int (3 : Int32)), .val (.int (1 : Int32)), .unset, .unset, .unset, .unset, .unset, .unset, .unset, .unset, .unset, .unset, .unset, .unset, .unset, .unset, .unset] [(.long (st + (0 : Int64)))])) _
        refine XS.lloadN X5.here hx rfl (hb hby at_52) rfl ?_
        show Steps p.tables e below (T5.setTop (mkF m 53 #[.val (.int xs), .val (.long st), .second, .val (.int stp), .val (.long exc), .second, .val (.int sel), .val (.long q), .second, .val (.ref a2), .val (.int (3 : Int32)), .val (.int (1 : Int32)), .unset, .unset, .unset, .unset, .unset, .unset, .unset, .unset, .unset, .unset, .unset, .unset, .unset, .unset, .unset] [(.long st), (.long (st + (0 : Int64)))])) _
        refine XS.lcmp X5.here hx rfl (hb hby at_53) rfl ?_
        show Steps p.tables e below (T5.setTop (mkF m 54 #[.val (.int xs), .val (.long st), .second, .val (.int stp), .val (.long exc), .second, .val (.int sel), .val (.long q), .second, .val (.ref a2), .val (.int (3 : Int32)), .val (.int (1 : Int32)), .unset, .unset, .unset, .unset, .unset, .unset, .unset, .unset, .unset, .unset, .unset, .unset, .unset, .unset, .unset] [(.int (lcmpW (st + (0 : Int64)) st))])) _
        refine XS.ifNo X5.here hx rfl (hb hby at_54) rfl ((Jvm.Own.holdsL _ _ _).trans (Jvm.Own.dF (by rw [sz]; exact fun q => q rfl))) ?_
        show Steps p.tables e below (T5.setTop (mkF m 57 #[.val (.int xs), .val (.long st), .second, .val (.int stp), .val (.long exc), .second, .val (.int sel), .val (.long q), .second, .val (.ref a2), .val (.int (3 : Int32)), .val (.int (1 : Int32)), .unset, .unset, .unset, .unset, .unset, .unset, .unset, .unset, .unset, .unset, .unset, .unset, .unset, .unset, .unset] [])) _
        refine XS.iconst X5.here hx rfl (hb hby at_57) ?_
        show Steps p.tables e below (T5.setTop (mkF m 58 #[.val (.int xs), .val (.long st), .second, .val (.int stp), .val (.long exc), .second, .val (.int sel), .val (.long q), .second, .val (.ref a2), .val (.int (3 : Int32)), .val (.int (1 : Int32)), .unset, .unset, .unset, .unset, .unset, .unset, .unset, .unset, .unset, .unset, .unset, .unset, .unset, .unset, .unset] [(.int (1 : Int32))])) _
        refine XS.goto X5.here hx rfl (pc0 := 58) (pc' := 62) rfl (hb hby at_58) (by decide) (by decide) ?_
        show Steps p.tables e below (T5.setTop (mkF m 62 #[.val (.int xs), .val (.long st), .second, .val (.int stp), .val (.long exc), .second, .val (.int sel), .val (.long q), .second, .val (.ref a2), .val (.int (3 : Int32)), .val (.int (1 : Int32)), .unset, .unset, .unset, .unset, .unset, .unset, .unset, .unset, .unset, .unset, .unset, .unset, .unset, .unset, .unset] [(.int (1 : Int32))])) _
        refine XS.istore X5.here hx rfl (hb hby at_62) rfl (l' := #[.val (.int xs), .val (.long st), .second, .val (.int stp), .val (.long exc), .second, .val (.int sel), .val (.long q), .second, .val (.ref a2), .val (.int (3 : Int32)), .val (.int (1 : Int32)), .unset, .unset, .unset, .unset, .unset, .unset, .unset, .unset, .unset, .unset, .unset, .unset, .unset, .unset, .unset]) rfl ?_
        show Steps p.tables e below (T5.setTop (mkF m 64 #[.val (.int xs), .val (.long st), .second, .val (.int stp), .val (.long exc), .second, .val (.int sel), .val (.long q), .second, .val (.ref a2), .val (.int (3 : Int32)), .val (.int (1 : Int32)), .unset, .unset, .unset, .unset, .unset, .unset, .unset, .unset, .unset, .unset, .unset, .unset, .unset, .unset, .unset] [])) _
        refine XS.iload X5.here hx rfl (hb hby at_64) rfl ?_
        show Steps p.tables e below (T5.setTop (mkF m 66 #[.val (.int xs), .val (.long st), .second, .val (.int stp), .val (.long exc), .second, .val (.int sel), .val (.long q), .second, .val (.ref a2), .val (.int (3 : Int32)), .val (.int (1 : Int32)), .unset, .unset, .unset, .unset, .unset, .unset, .unset, .unset, .unset, .unset, .unset, .unset, .unset, .unset, .unset] [(.int (3 : Int32))])) _
        refine XS.iconst X5.here hx rfl (hb hby at_66) ?_
        show Steps p.tables e below (T5.setTop (mkF m 67 #[.val (.int xs), .val (.long st), .second, .val (.int stp), .val (.long exc), .second, .val (.int sel), .val (.long q), .second, .val (.ref a2), .val (.int (3 : Int32)), .val (.int (1 : Int32)), .unset, .unset, .unset, .unset, .unset, .unset, .unset, .unset, .unset, .unset, .unset, .unset, .unset, .unset, .unset] [(.int (1 : Int32)), (.int (3 : Int32))])) _
        refine XS.icmpNo X5.here hx rfl (hb hby at_67) rfl rfl ?_
        show Steps p.tables e below (T5.setTop (mkF m 70 #[.val (.int xs), .val (.long st), .second, .val (.int stp), .val (.long exc), .second, .val (.int sel), .val (.long q), .second, .val (.ref a2), .val (.int (3 : Int32)), .val (.int (1 : Int32)), .unset, .unset, .unset, .unset, .unset, .unset, .unset, .unset, .unset, .unset, .unset, .unset, .unset, .unset, .unset] [])) _
        refine XS.iload X5.here hx rfl (hb hby at_70) rfl ?_
        show Steps p.tables e below (T5.setTop (mkF m 72 #[.val (.int xs), .val (.long st), .second, .val (.int stp), .val (.long exc), .second, .val (.int sel), .val (.long q), .second, .val (.ref a2), .val (.int (3 : Int32)), .val (.int (1 : Int32)), .unset, .unset, .unset, .unset, .unset, .unset, .unset, .unset, .unset, .unset, .unset, .unset, .unset, .unset, .unset] [(.int (1 : Int32))])) _
        refine XS.ifNo X5.here hx rfl (hb hby at_72) rfl rfl ?_
        show Steps p.tables e below (T5.setTop (mkF m 75 #[.val (.int xs), .val (.long st), .second, .val (.int stp), .val (.long exc), .second, .val (.int sel), .val (.long q), .second, .val (.ref a2), .val (.int (3 : Int32)), .val (.int (1 : Int32)), .unset, .unset, .unset, .unset, .unset, .unset, .unset, .unset, .unset, .unset, .unset, .unset, .unset, .unset, .unset] [])) _
        refine XS.aload X5.here hx rfl (hb hby at_75) rfl rfl ?_
        show Steps p.tables e below (T5.setTop (mkF m 77 #[.val (.int xs), .val (.long st), .second, .val (.int stp), .val (.long exc), .second, .val (.int sel), .val (.long q), .second, .val (.ref a2), .val (.int (3 : Int32)), .val (.int (1 : Int32)), .unset, .unset, .unset, .unset, .unset, .unset, .unset, .unset, .unset, .unset, .unset, .unset, .unset, .unset, .unset] [(.ref a2)])) _
        refine st6.trans ?_
        show Steps p.tables e below (T6.setTop (mkF m 80 #[.val (.int xs), .val (.long st), .second, .val (.int stp), .val (.long exc), .second, .val (.int sel), .val (.long q), .second, .val (.ref a2), .val (.int (3 : Int32)), .val (.int (1 : Int32)), .unset, .unset, .unset, .unset, .unset, .unset, .unset, .unset, .unset, .unset, .unset, .unset, .unset, .unset, .unset] [(.long (st + q))])) _
        refine XS.lloadN X6.here hx rfl (hb hby at_80) rfl ?_
        show Steps p.tables e below (T6.setTop (mkF m 81 #[.val (.int xs), .val (.long st), .second, .val (.int stp), .val (.long exc), .second, .val (.int sel), .val (.long q), .second, .val (.ref a2), .val (.int (3 : Int32)), .val (.int (1 : Int32)), .unset, .unset, .unset, .unset, .unset, .unset, .unset, .unset, .unset, .unset, .unset, .unset, .unset, .unset, .unset] [(.long st), (.long (st + q))])) _
        refine XS.lload X6.here hx rfl (hb hby at_81) rfl ?_
        show Steps p.tables e below (T6.setTop (mkF m 83 #[.val (.int xs), .val (.long st), .second, .val (.int stp), .val (.long exc), .second, .val (.int sel), .val (.long q), .second, .val (.ref a2), .val (.int (3 : Int32)), .val (.int (1 : Int32)), .unset, .unset, .unset, .unset, .unset, .unset, .unset, .unset, .unset, .unset, .unset, .unset, .unset, .unset, .unset] [(.long q), (.long st), (.long (st + q))])) _
        refine XS.ladd X6.here hx rfl (hb hby at_83) rfl ?_
        show Steps p.tables e below (T6.setTop (mkF m 84 #[.val (.int xs), .val (.long st), .second, .val (.int stp), .val (.long exc), .second, .val (.int sel), .val (.long q), .second, .val (.ref a2), .val (.int (3 : Int32)), .val (.int (1 : Int32)), .unset, .unset, .unset, .unset, .unset, .unset, .unset, .unset, .unset, .unset, .unset, .unset, .unset, .unset, .unset] [(.long (st + q)), (.long (st + q))])) _
        refine XS.lcmp X6.here hx rfl (hb hby at_84) rfl ?_
        show Steps p.tables e below (T6.setTop (mkF m 85 #[.val (.int xs), .val (.long st), .second, .val (.int stp), .val (.long exc), .second, .val (.int sel), .val (.long q), .second, .val (.ref a2), .val (.int (3 : Int32)), .val (.int (1 : Int32)), .unset, .unset, .unset, .unset, .unset, .unset, .unset, .unset, .unset, .unset, .unset, .unset, .unset, .unset, .unset] [(.int (lcmpW (st + q) (st + q)))])) _
        refine XS.ifNo X6.here hx rfl (hb hby at_85) rfl ((Jvm.Own.holdsL _ _ _).trans (Jvm.Own.dF (fun q => q rfl))) ?_
        show Steps p.tables e below (T6.setTop (mkF m 88 #[.val (.int xs), .val (.long st), .second, .val (.int stp), .val (.long exc), .second, .val (.int sel), .val (.long q), .second, .val (.ref a2), .val (.int (3 : Int32)), .val (.int (1 : Int32)), .unset, .unset, .unset, .unset, .unset, .unset, .unset, .unset, .unset, .unset, .unset, .unset, .unset, .unset, .unset] [])) _
        refine XS.iconst X6.here hx rfl (hb hby at_88) ?_
        show Steps p.tables e below (T6.setTop (mkF m 89 #[.val (.int xs), .val (.long st), .second, .val (.int stp), .val (.long exc), .second, .val (.int sel), .val (.long q), .second, .val (.ref a2), .val (.int (3 : Int32)), .val (.int (1 : Int32)), .unset, .unset, .unset, .unset, .unset, .unset, .unset, .unset, .unset, .unset, .unset, .unset, .unset, .unset, .unset] [(.int (1 : Int32))])) _
        refine XS.goto X6.here hx rfl (pc0 := 89) (pc' := 93) rfl (hb hby at_89) (by decide) (by decide) ?_
        show Steps p.tables e below (T6.setTop (mkF m 93 #[.val (.int xs), .val (.long st), .second, .val (.int stp), .val (.long exc), .second, .val (.int sel), .val (.long q), .second, .val (.ref a2), .val (.int (3 : Int32)), .val (.int (1 : Int32)), .unset, .unset, .unset, .unset, .unset, .unset, .unset, .unset, .unset, .unset, .unset, .unset, .unset, .unset, .unset] [(.int (1 : Int32))])) _
        refine XS.istore X6.here hx rfl (hb hby at_93) rfl (l' := #[.val (.int xs), .val (.long st), .second, .val (.int stp), .val (.long exc), .second, .val (.int sel), .val (.long q), .second, .val (.ref a2), .val (.int (3 : Int32)), .val (.int (1 : Int32)), .unset, .unset, .unset, .unset, .unset, .unset, .unset, .unset, .unset, .unset, .unset, .unset, .unset, .unset, .unset]) rfl ?_
        show Steps p.tables e below (T6.setTop (mkF m 95 #[.val (.int xs), .val (.long st), .second, .val (.int stp), .val (.long exc), .second, .val (.int sel), .val (.long q), .second, .val (.ref a2), .val (.int (3 : Int32)), .val (.int (1 : Int32)), .unset, .unset, .unset, .unset, .unset, .unset, .unset, .unset, .unset, .unset, .unset, .unset, .unset, .unset, .unset] [])) _
        refine XS.iload X6.here hx rfl (hb hby at_95) rfl ?_
        show Steps p.tables e below (T6.setTop (mkF m 97 #[.val (.int xs), .val (.long st), .second, .val (.int stp), .val (.long exc), .second, .val (.int sel), .val (.long q), .second, .val (.ref a2), .val (.int (3 : Int32)), .val (.int (1 : Int32)), .unset, .unset, .unset, .unset, .unset, .unset, .unset, .unset, .unset, .unset, .unset, .unset, .unset, .unset, .unset] [(.int (3 : Int32))])) _
        refine XS.iconst X6.here hx rfl (hb hby at_97) ?_
        show Steps p.tables e below (T6.setTop (mkF m 98 #[.val (.int xs), .val (.long st), .second, .val (.int stp), .val (.long exc), .second, .val (.int sel), .val (.long q), .second, .val (.ref a2), .val (.int (3 : Int32)), .val (.int (1 : Int32)), .unset, .unset, .unset, .unset, .unset, .unset, .unset, .unset, .unset, .unset, .unset, .unset, .unset, .unset, .unset] [(.int (2 : Int32)), (.int (3 : Int32))])) _
        refine XS.icmpNo X6.here hx rfl (hb hby at_98) rfl rfl ?_
        show Steps p.tables e below (T6.setTop (mkF m 101 #[.val (.int xs), .val (.long st), .second, .val (.int stp), .val (.long exc), .second, .val (.int sel), .val (.long q), .second, .val (.ref a2), .val (.int (3 : Int32)), .val (.int (1 : Int32)), .unset, .unset, .unset, .unset, .unset, .unset, .unset, .unset, .unset, .unset, .unset, .unset, .unset, .unset, .unset] [])) _
        refine XS.iload X6.here hx rfl (hb hby at_101) rfl ?_
        show Steps p.tables e below (T6.setTop (mkF m 103 #[.val (.int xs), .val (.long st), .second, .val (.int stp), .val (.long exc), .second, .val (.int sel), .val (.long q), .second, .val (.ref a2), .val (.int (3 : Int32)), .val (.int (1 : Int32)), .unset, .unset, .unset, .unset, .unset, .unset, .unset, .unset, .unset, .unset, .unset, .unset, .unset, .unset, .unset] [(.int (1 : Int32))])) _
        refine XS.ifNo X6.here hx rfl (hb hby at_103) rfl rfl ?_
        show Steps p.tables e below (T6.setTop (mkF m 106 #[.val (.int xs), .val (.long st), .second, .val (.int stp), .val (.long exc), .second, .val (.int sel), .val (.long q), .second, .val (.ref a2), .val (.int (3 : Int32)), .val (.int (1 : Int32)), .unset, .unset, .unset, .unset, .unset, .unset, .unset, .unset, .unset, .unset, .unset, .unset, .unset, .unset, .unset] [])) _
        refine XS.aload X6.here hx rfl (hb hby at_106) rfl rfl ?_
        show Steps p.tables e below (T6.setTop (mkF m 108 #[.val (.int xs), .val (.long st), .second, .val (.int stp), .val (.long exc), .second, .val (.int sel), .val (.long q), .second, .val (.ref a2), .val (.int (3 : Int32)), .val (.int (1 : Int32)), .unset, .unset, .unset, .unset, .unset, .unset, .unset, .unset, .unset, .unset, .unset, .unset, .unset, .unset, .unset] [(.ref a2)])) _
        refine st7.trans ?_
        show Steps p.tables e below (T7.setTop (mkF m 111 #[.val (.int xs), .val (.long st), .second, .val (.int stp), .val (.long exc), .second, .val (.int sel), .val (.long q), .second, .val (.ref a2), .val (.int (3 : Int32)), .val (.int (1 : Int32)), .unset, .unset, .unset, .unset, .unset, .unset, .unset, .unset, .unset, .unset, .unset, .unset, .unset, .unset, .unset] [(.long (st + o2))])) _
        refine XS.lloadN X7.here hx rfl (hb hby at_111) rfl ?_
        show Steps p.tables e below (T7.setTop (mkF m 112 #[.val (.int xs), .val (.long st), .second, .val (.int stp), .val (.long exc), .second, .val (.int sel), .val (.long q), .second, .val (.ref a2), .val (.int (3 : Int32)), .val (.int (1 : Int32)), .unset, .unset, .unset, .unset, .unset, .unset, .unset, .unset, .unset, .unset, .unset, .unset, .unset, .unset, .unset] [(.long st), (.long (st + o2))])) _
        refine X7.ldc2Long hx hown (mvT hZ (hw _ (List.mem_of_getElem? (i := 43) rfl))) (g := (mkF m 112 #[.val (.int xs), .val (.long st), .second, .val (.int stp), .val (.long exc), .second, .val (.int sel), .val (.long q), .second, .val (.ref a2), .val (.int (3 : Int32)), .val (.int (1 : Int32)), .unset, .unset, .unset, .unset, .unset, .unset, .unset, .unset, .unset, .unset, .unset, .unset, .unset, .unset, .unset] [(.long st), (.long (st + o2))])) rfl (hb hby at_112) _ ?_
        show Steps p.tables e below (T7.setTop (mkF m 115 #[.val (.int xs), .val (.long st), .second, .val (.int stp), .val (.long exc), .second, .val (.int sel), .val (.long q), .second, .val (.ref a2), .val (.int (3 : Int32)), .val (.int (1 : Int32)), .unset, .unset, .unset, .unset, .unset, .unset, .unset, .unset, .unset, .unset, .unset, .unset, .unset, .unset, .unset] [(.long (2 : Int64)), (.long st), (.long (st + o2))])) _
        refine XS.lload X7.here hx rfl (hb hby at_115) rfl ?_
        show Steps p.tables e below (T7.setTop (mkF m 117 #[.val (.int xs), .val (.long st), .second, .val (.int stp), .val (.long exc), .second, .val (.int sel), .val (.long q), .second, .val (.ref a2), .val (.int (3 : Int32)), .val (.int (1 : Int32)), .unset, .unset, .unset, .unset, .unset, .unset, .unset, .unset, .unset, .unset, .unset, .unset, .unset, .unset, .unset] [(.long q), (.long (2 : Int64)), (.long st), (.long (st + o2))])) _
        refine XS.lmul X7.here hx rfl (hb hby at_117) rfl ?_
        rw [m2]
        show Steps p.tables e below (T7.setTop (mkF m 118 #[.val (.int xs), .val (.long st), .second, .val (.int stp), .val (.long exc), .second, .val (.int sel), .val (.long q), .second, .val (.ref a2), .val (.int (3 : Int32)), .val (.int (1 : Int32)), .unset, .unset, .unset, .unset, .unset, .unset, .unset, .unset, .unset, .unset, .unset, .unset, .unset, .unset, .unset] [(.long o2), (.long st), (.long (st + o2))])) _
        refine XS.ladd X7.here hx rfl (hb hby at_118) rfl ?_
        show Steps p.tables e below (T7.setTop (mkF m 119 #[.val (.int xs), .val (.long st), .second, .val (.int stp), .val (.long exc), .second, .val (.int sel), .val (.long q), .second, .val (.ref a2), .val (.int (3 : Int32)), .val (.int (1 : Int32)), .unset, .unset, .unset, .unset, .unset, .unset, .unset, .unset, .unset, .unset, .unset, .unset, .unset, .unset, .unset] [(.long (st + o2)), (.long (st + o2))])) _
        refine XS.lcmp X7.here hx rfl (hb hby at_119) rfl ?_
        show Steps p.tables e below (T7.setTop (mkF m 120 #[.val (.int xs), .val (.long st), .second, .val (.int stp), .val (.long exc), .second, .val (.int sel), .val (.long q), .second, .val (.ref a2), .val (.int (3 : Int32)), .val (.int (1 : Int32)), .unset, .unset, .unset, .unset, .unset, .unset, .unset, .unset, .unset, .unset, .unset, .unset, .unset, .unset, .unset] [(.int (lcmpW (st + o2) (st + o2)))])) _
        refine XS.ifNo X7.here hx rfl (hb hby at_120) rfl ((Jvm.Own.holdsL _ _ _).trans (Jvm.Own.dF (fun q => q rfl))) ?_
        show Steps p.tables e below (T7.setTop (mkF m 123 #[.val (.int xs), .val (.long st), .second, .val (.int stp), .val (.long exc), .second, .val (.int sel), .val (.long q), .second, .val (.ref a2), .val (.int (3 : Int32)), .val (.int (1 : Int32)), .unset, .unset, .unset, .unset, .unset, .unset, .unset, .unset, .unset, .unset, .unset, .unset, .unset, .unset, .unset] [])) _
        refine XS.iconst X7.here hx rfl (hb hby at_123) ?_
        show Steps p.tables e below (T7.setTop (mkF m 124 #[.val (.int xs), .val (.long st), .second, .val (.int stp), .val (.long exc), .second, .val (.int sel), .val (.long q), .second, .val (.ref a2), .val (.int (3 : Int32)), .val (.int (1 : Int32)), .unset, .unset, .unset, .unset, .unset, .unset, .unset, .unset, .unset, .unset, .unset, .unset, .unset, .unset, .unset] [(.int (1 : Int32))])) _
        refine XS.goto X7.here hx rfl (pc0 := 124) (pc' := 128) rfl (hb hby at_124) (by decide) (by decide) ?_
        show Steps p.tables e below (T7.setTop (mkF m 128 #[.val (.int xs), .val (.long st), .second, .val (.int stp), .val (.long exc), .second, .val (.int sel), .val (.long q), .second, .val (.ref a2), .val (.int (3 : Int32)), .val (.int (1 : Int32)), .unset, .unset, .unset, .unset, .unset, .unset, .unset, .unset, .unset, .unset, .unset, .unset, .unset, .unset, .unset] [(.int (1 : Int32))])) _
        refine XS.istore X7.here hx rfl (hb hby at_128) rfl (l' := #[.val (.int xs), .val (.long st), .second, .val (.int stp), .val (.long exc), .second, .val (.int sel), .val (.long q), .second, .val (.ref a2), .val (.int (3 : Int32)), .val (.int (1 : Int32)), .unset, .unset, .unset, .unset, .unset, .unset, .unset, .unset, .unset, .unset, .unset, .unset, .unset, .unset, .unset]) rfl ?_
        show Steps p.tables e below (T7.setTop (mkF m 130 #[.val (.int xs), .val (.long st), .second, .val (.int stp), .val (.long exc), .second, .val (.int sel), .val (.long q), .second, .val (.ref a2), .val (.int (3 : Int32)), .val (.int (1 : Int32)), .unset, .unset, .unset, .unset, .unset, .unset, .unset, .unset, .unset, .unset, .unset, .unset, .unset, .unset, .unset] [])) _
        refine XS.iload X7.here hx rfl (hb hby at_130) rfl ?_
        show Steps p.tables e below (T7.setTop (mkF m 132 #[.val (.int xs), .val (.long st), .second, .val (.int stp), .val (.long exc), .second, .val (.int sel), .val (.long q), .second, .val (.ref a2), .val (.int (3 : Int32)), .val (.int (1 : Int32)), .unset, .unset, .unset, .unset, .unset, .unset, .unset, .unset, .unset, .unset, .unset, .unset, .unset, .unset, .unset] [(.int (3 : Int32))])) _
        refine XS.i2l X7.here hx rfl (hb hby at_132) rfl ?_
        show Steps p.tables e below (T7.setTop (mkF m 133 #[.val (.int xs), .val (.long st), .second, .val (.int stp), .val (.long exc), .second, .val (.int sel), .val (.long q), .second, .val (.ref a2), .val (.int (3 : Int32)), .val (.int (1 : Int32)), .unset, .unset, .unset, .unset, .unset, .unset, .unset, .unset, .unset, .unset, .unset, .unset, .unset, .unset, .unset] [(.long ((3 : Int32).toInt64))])) _
        refine XS.lload X7.here hx rfl (hb hby at_133) rfl ?_
        show Steps p.tables e below (T7.setTop (mkF m 135 #[.val (.int xs), .val (.long st), .second, .val (.int stp), .val (.long exc), .second, .val (.int sel), .val (.long q), .second, .val (.ref a2), .val (.int (3 : Int32)), .val (.int (1 : Int32)), .unset, .unset, .unset, .unset, .unset, .unset, .unset, .unset, .unset, .unset, .unset, .unset, .unset, .unset, .unset] [(.long q), (.long ((3 : Int32).toInt64))])) _
        refine XS.lmul X7.here hx rfl (hb hby at_135) rfl ?_
        rw [k3]
        show Steps p.tables e below (T7.setTop (mkF m 136 #[.val (.int xs), .val (.long st), .second, .val (.int stp), .val (.long exc), .second, .val (.int sel), .val (.long q), .second, .val (.ref a2), .val (.int (3 : Int32)), .val (.int (1 : Int32)), .unset, .unset, .unset, .unset, .unset, .unset, .unset, .unset, .unset, .unset, .unset, .unset, .unset, .unset, .unset] [(.long o3)])) _
        refine XS.lstore X7.here hx rfl (hb hby at_136) rfl (l' := #[.val (.int xs), .val (.long st), .second, .val (.int stp), .val (.long exc), .second, .val (.int sel), .val (.long q), .second, .val (.ref a2), .val (.int (3 : Int32)), .val (.int (1 : Int32)), .val (.long o3), .second, .unset, .unset, .unset, .unset, .unset, .unset, .unset, .unset, .unset, .unset, .unset, .unset, .unset]) rfl ?_
        show Steps p.tables e below (T7.setTop (mkF m 138 #[.val (.int xs), .val (.long st), .second, .val (.int stp), .val (.long exc), .second, .val (.int sel), .val (.long q), .second, .val (.ref a2), .val (.int (3 : Int32)), .val (.int (1 : Int32)), .val (.long o3), .second, .unset, .unset, .unset, .unset, .unset, .unset, .unset, .unset, .unset, .unset, .unset, .unset, .unset] [])) _
        refine XS.lloadN X7.here hx rfl (hb hby at_138) rfl ?_
        show Steps p.tables e below (T7.setTop (mkF m 139 #[.val (.int xs), .val (.long st), .second, .val (.int stp), .val (.long exc), .second, .val (.int sel), .val (.long q), .second, .val (.ref a2), .val (.int (3 : Int32)), .val (.int (1 : Int32)), .val (.long o3), .second, .unset, .unset, .unset, .unset, .unset, .unset, .unset, .unset, .unset, .unset, .unset, .unset, .unset] [(.long st)])) _
        refine XS.lload X7.here hx rfl (hb hby at_139) rfl ?_
        show Steps p.tables e below (T7.setTop (mkF m 141 #[.val (.int xs), .val (.long st), .second, .val (.int stp), .val (.long exc), .second, .val (.int sel), .val (.long q), .second, .val (.ref a2), .val (.int (3 : Int32)), .val (.int (1 : Int32)), .val (.long o3), .second, .unset, .unset, .unset, .unset, .unset, .unset, .unset, .unset, .unset, .unset, .unset, .unset, .unset] [(.long o3), (.long st)])) _
        refine XS.ladd X7.here hx rfl (hb hby at_141) rfl ?_
        show Steps p.tables e below (T7.setTop (mkF m 142 #[.val (.int xs), .val (.long st), .second, .val (.int stp), .val (.long exc), .second, .val (.int sel), .val (.long q), .second, .val (.ref a2), .val (.int (3 : Int32)), .val (.int (1 : Int32)), .val (.long o3), .second, .unset, .unset, .unset, .unset, .unset, .unset, .unset, .unset, .unset, .unset, .unset, .unset, .unset] [(.long (st + o3))])) _
        refine XS.lload X7.here hx rfl (hb hby at_142) rfl ?_
        show Steps p.tables e below (T7.setTop (mkF m 144 #[.val (.int xs), .val (.long st), .second, .val (.int stp), .val (.long exc), .second, .val (.int sel), .val (.long q), .second, .val (.ref a2), .val (.int (3 : Int32)), .val (.int (1 : Int32)), .val (.long o3), .second, .unset, .unset, .unset, .unset, .unset, .unset, .unset, .unset, .unset, .unset, .unset, .unset, .unset] [(.long exc), (.long (st + o3))])) _
        refine XS.ladd X7.here hx rfl (hb hby at_144) rfl ?_
        rw [harr]
        show Steps p.tables e below (T7.setTop (mkF m 145 #[.val (.int xs), .val (.long st), .second, .val (.int stp), .val (.long exc), .second, .val (.int sel), .val (.long q), .second, .val (.ref a2), .val (.int (3 : Int32)), .val (.int (1 : Int32)), .val (.long o3), .second, .unset, .unset, .unset, .unset, .unset, .unset, .unset, .unset, .unset, .unset, .unset, .unset, .unset] [(.long arr)])) _
        refine XS.lstore X7.here hx rfl (hb hby at_145) rfl (l' := #[.val (.int xs), .val (.long st), .second, .val (.int stp), .val (.long exc), .second, .val (.int sel), .val (.long q), .second, .val (.ref a2), .val (.int (3 : Int32)), .val (.int (1 : Int32)), .val (.long o3), .second, .val (.long arr), .second, .unset, .unset, .unset, .unset, .unset, .unset, .unset, .unset, .unset, .unset, .unset]) rfl ?_
        show Steps p.tables e below (T7.setTop (mkF m 147 #[.val (.int xs), .val (.long st), .second, .val (.int stp), .val (.long exc), .second, .val (.int sel), .val (.long q), .second, .val (.ref a2), .val (.int (3 : Int32)), .val (.int (1 : Int32)), .val (.long o3), .second, .val (.long arr), .second, .unset, .unset, .unset, .unset, .unset, .unset, .unset, .unset, .unset, .unset, .unset] [])) _
        refine XS.aload X7.here hx rfl (hb hby at_147) rfl rfl ?_
        show Steps p.tables e below (T7.setTop (mkF m 149 #[.val (.int xs), .val (.long st), .second, .val (.int stp), .val (.long exc), .second, .val (.int sel), .val (.long q), .second, .val (.ref a2), .val (.int (3 : Int32)), .val (.int (1 : Int32)), .val (.long o3), .second, .val (.long arr), .second, .unset, .unset, .unset, .unset, .unset, .unset, .unset, .unset, .unset, .unset, .unset] [(.ref a2)])) _
        refine XS.lload X7.here hx rfl (hb hby at_149) rfl ?_
        show Steps p.tables e below (T7.setTop (mkF m 151 #[.val (.int xs), .val (.long st), .second, .val (.int stp), .val (.long exc), .second, .val (.int sel), .val (.long q), .second, .val (.ref a2), .val (.int (3 : Int32)), .val (.int (1 : Int32)), .val (.long o3), .second, .val (.long arr), .second, .unset, .unset, .unset, .unset, .unset, .unset, .unset, .unset, .unset, .unset, .unset] [(.long arr), (.ref a2)])) _
        refine st8.trans ?_
        show Steps p.tables e below (T8.setTop (mkF m 154 #[.val (.int xs), .val (.long st), .second, .val (.int stp), .val (.long exc), .second, .val (.int sel), .val (.long q), .second, .val (.ref a2), .val (.int (3 : Int32)), .val (.int (1 : Int32)), .val (.long o3), .second, .val (.long arr), .second, .unset, .unset, .unset, .unset, .unset, .unset, .unset, .unset, .unset, .unset, .unset] [(.long (st + o3))])) _
        refine XS.lstore X8.here hx rfl (hb hby at_154) rfl (l' := #[.val (.int xs), .val (.long st), .second, .val (.int stp), .val (.long exc), .second, .val (.int sel), .val (.long q), .second, .val (.ref a2), .val (.int (3 : Int32)), .val (.int (1 : Int32)), .val (.long o3), .second, .val (.long arr), .second, .val (.long (st + o3)), .second, .unset, .unset, .unset, .unset, .unset, .unset, .unset, .unset, .unset]) rfl ?_
        show Steps p.tables e below (T8.setTop (mkF m 156 #[.val (.int xs), .val (.long st), .second, .val (.int stp), .val (.long exc), .second, .val (.int sel), .val (.long q), .second, .val (.ref a2), .val (.int (3 : Int32)), .val (.int (1 : Int32)), .val (.long o3), .second, .val (.long arr), .second, .val (.long (st + o3)), .second, .unset, .unset, .unset, .unset, .unset, .unset, .unset, .unset, .unset] [])) _
        refine XS.aload X8.here hx rfl (hb hby at_156) rfl rfl ?_
        show Steps p.tables e below (T8.setTop (mkF m 158 #[.val (.int xs), .val (.long st), .second, .val (.int stp), .val (.long exc), .second, .val (.int sel), .val (.long q), .second, .val (.ref a2), .val (.int (3 : Int32)), .val (.int (1 : Int32)), .val (.long o3), .second, .val (.long arr), .second, .val (.long (st + o3)), .second, .unset, .unset, .unset, .unset, .unset, .unset, .unset, .unset, .unset] [(.ref a2)])) _
        refine st9.trans ?_
        show Steps p.tables e below (T9.setTop (mkF m 161 #[.val (.int xs), .val (.long st), .second, .val (.int stp), .val (.long exc), .second, .val (.int sel), .val (.long q), .second, .val (.ref a2), .val (.int (3 : Int32)), .val (.int (1 : Int32)), .val (.long o3), .second, .val (.long arr), .second, .val (.long (st + o3)), .second, .unset, .unset, .unset, .unset, .unset, .unset, .unset, .unset, .unset] [(.long (st + o4))])) _
        refine XS.lstore X9.here hx rfl (hb hby at_161) rfl (l' := #[.val (.int xs), .val (.long st), .second, .val (.int stp), .val (.long exc), .second, .val (.int sel), .val (.long q), .second, .val (.ref a2), .val (.int (3 : Int32)), .val (.int (1 : Int32)), .val (.long o3), .second, .val (.long arr), .second, .val (.long (st + o3)), .second, .val (.long (st + o4)), .second, .unset, .unset, .unset, .unset, .unset, .unset, .unset]) rfl ?_
        show Steps p.tables e below (T9.setTop (mkF m 163 #[.val (.int xs), .val (.long st), .second, .val (.int stp), .val (.long exc), .second, .val (.int sel), .val (.long q), .second, .val (.ref a2), .val (.int (3 : Int32)), .val (.int (1 : Int32)), .val (.long o3), .second, .val (.long arr), .second, .val (.long (st + o3)), .second, .val (.long (st + o4)), .second, .unset, .unset, .unset, .unset, .unset, .unset, .unset] [])) _
        refine XS.lloadN X9.here hx rfl (hb hby at_163) rfl ?_
        show Steps p.tables e below (T9.setTop (mkF m 164 #[.val (.int xs), .val (.long st), .second, .val (.int stp), .val (.long exc), .second, .val (.int sel), .val (.long q), .second, .val (.ref a2), .val (.int (3 : Int32)), .val (.int (1 : Int32)), .val (.long o3), .second, .val (.long arr), .second, .val (.long (st + o3)), .second, .val (.long (st + o4)), .second, .unset, .unset, .unset, .unset, .unset, .unset, .unset] [(.long st)])) _
        refine XS.lload X9.here hx rfl (hb hby at_164) rfl ?_
        show Steps p.tables e below (T9.setTop (mkF m 166 #[.val (.int xs), .val (.long st), .second, .val (.int stp), .val (.long exc), .second, .val (.int sel), .val (.long q), .second, .val (.ref a2), .val (.int (3 : Int32)), .val (.int (1 : Int32)), .val (.long o3), .second, .val (.long arr), .second, .val (.long (st + o3)), .second, .val (.long (st + o4)), .second, .unset, .unset, .unset, .unset, .unset, .unset, .unset] [(.long o3), (.long st)])) _
        refine XS.ladd X9.here hx rfl (hb hby at_166) rfl ?_
        show Steps p.tables e below (T9.setTop (mkF m 167 #[.val (.int xs), .val (.long st), .second, .val (.int stp), .val (.long exc), .second, .val (.int sel), .val (.long q), .second, .val (.ref a2), .val (.int (3 : Int32)), .val (.int (1 : Int32)), .val (.long o3), .second, .val (.long arr), .second, .val (.long (st + o3)), .second, .val (.long (st + o4)), .second, .unset, .unset, .unset, .unset, .unset, .unset, .unset] [(.long (st + o3))])) _
        refine XS.lstore X9.here hx rfl (hb hby at_167) rfl (l' := #[.val (.int xs), .val (.long st), .second, .val (.int stp), .val (.long exc), .second, .val (.int sel), .val (.long q), .second, .val (.ref a2), .val (.int (3 : Int32)), .val (.int (1 : Int32)), .val (.long o3), .second, .val (.long arr), .second, .val (.long (st + o3)), .second, .val (.long (st + o4)), .second, .val (.long (st + o3)), .second, .unset, .unset, .unset, .unset, .unset]) rfl ?_
        show Steps p.tables e below (T9.setTop (mkF m 169 #[.val (.int xs), .val (.long st), .second, .val (.int stp), .val (.long exc), .second, .val (.int sel), .val (.long q), .second, .val (.ref a2), .val (.int (3 : Int32)), .val (.int (1 : Int32)), .val (.long o3), .second, .val (.long arr), .second, .val (.long (st + o3)), .second, .val (.long (st + o4)), .second, .val (.long (st + o3)), .second, .unset, .unset, .unset, .unset, .unset] [])) _
        refine XS.lload X9.here hx rfl (hb hby at_169) rfl ?_
        show Steps p.tables e below (T9.setTop (mkF m 171 #[.val (.int xs), .val (.long st), .second, .val (.int stp), .val (.long exc), .second, .val (.int sel), .val (.long q), .second, .val (.ref a2), .val (.int (3 : Int32)), .val (.int (1 : Int32)), .val (.long o3), .second, .val (.long arr), .second, .val (.long (st + o3)), .second, .val (.long (st + o4)), .second, .val (.long (st + o3)), .second, .unset, .unset, .unset, .unset, .unset] [(.long arr)])) _
        refine XS.lloadN X9.here hx rfl (hb hby at_171) rfl ?_
        show Steps p.tables e below (T9.setTop (mkF m 172 #[.val (.int xs), .val (.long st), .second, .val (.int stp), .val (.long exc), .second, .val (.int sel), .val (.long q), .second, .val (.ref a2), .val (.int (3 : Int32)), .val (.int (1 : Int32)), .val (.long o3), .second, .val (.long arr), .second, .val (.long (st + o3)), .second, .val (.long (st + o4)), .second, .val (.long (st + o3)), .second, .unset, .unset, .unset, .unset, .unset] [(.long st), (.long arr)])) _
        refine XS.lsub X9.here hx rfl (hb hby at_172) rfl ?_
        show Steps p.tables e below (T9.setTop (mkF m 173 #[.val (.int xs), .val (.long st), .second, .val (.int stp), .val (.long exc), .second, .val (.int sel), .val (.long q), .second, .val (.ref a2), .val (.int (3 : Int32)), .val (.int (1 : Int32)), .val (.long o3), .second, .val (.long arr), .second, .val (.long (st + o3)), .second, .val (.long (st + o4)), .second, .val (.long (st + o3)), .second, .unset, .unset, .unset, .unset, .unset] [(.long (arr - st))])) _
        refine XS.lload X9.here hx rfl (hb hby at_173) rfl ?_
        show Steps p.tables e below (T9.setTop (mkF m 175 #[.val (.int xs), .val (.long st), .second, .val (.int stp), .val (.long exc), .second, .val (.int sel), .val (.long q), .second, .val (.ref a2), .val (.int (3 : Int32)), .val (.int (1 : Int32)), .val (.long o3), .second, .val (.long arr), .second, .val (.long (st + o3)), .second, .val (.long (st + o4)), .second, .val (.long (st + o3)), .second, .unset, .unset, .unset, .unset, .unset] [(.long o3), (.long (arr - st))])) _
        refine XS.lcmp X9.here hx rfl (hb hby at_175) rfl ?_
        show Steps p.tables e below (T9.setTop (mkF m 176 #[.val (.int xs), .val (.long st), .second, .val (.int stp), .val (.long exc), .second, .val (.int sel), .val (.long q), .second, .val (.ref a2), .val (.int (3 : Int32)), .val (.int (1 : Int32)), .val (.long o3), .second, .val (.long arr), .second, .val (.long (st + o3)), .second, .val (.long (st + o4)), .second, .val (.long (st + o3)), .second, .unset, .unset, .unset, .unset, .unset] [(.int (lcmpW (arr - st) o3))])) _
        refine XS.ifYes X9.here hx rfl (pc0 := 176) (pc' := 183) rfl (hb hby at_176) rfl ((Jvm.Own.holdsL _ _ _).trans (Jvm.Own.dT (by omega))) (by decide) (by decide) ?_
        show Steps p.tables e below (T9.setTop (mkF m 183 #[.val (.int xs), .val (.long st), .second, .val (.int stp), .val (.long exc), .second, .val (.int sel), .val (.long q), .second, .val (.ref a2), .val (.int (3 : Int32)), .val (.int (1 : Int32)), .val (.long o3), .second, .val (.long arr), .second, .val (.long (st + o3)), .second, .val (.long (st + o4)), .second, .val (.long (st + o3)), .second, .unset, .unset, .unset, .unset, .unset] [])) _
        refine XS.iconst X9.here hx rfl (hb hby at_183) ?_
        show Steps p.tables e below (T9.setTop (mkF m 184 #[.val (.int xs), .val (.long st), .second, .val (.int stp), .val (.long exc), .second, .val (.int sel), .val (.long q), .second, .val (.ref a2), .val (.int (3 : Int32)), .val (.int (1 : Int32)), .val (.long o3), .second, .val (.long arr), .second, .val (.long (st + o3)), .second, .val (.long (st + o4)), .second, .val (.long (st + o3)), .second, .unset, .unset, .unset, .unset, .unset] [(.int (0 : Int32))])) _
        refine XS.istore X9.here hx rfl (hb hby at_184) rfl (l' := #[.val (.int xs), .val (.long st), .second, .val (.int stp), .val (.long exc), .second, .val (.int sel), .val (.long q), .second, .val (.ref a2), .val (.int (3 : Int32)), .val (.int (1 : Int32)), .val (.long o3), .second, .val (.long arr), .second, .val (.long (st + o3)), .second, .val (.long (st + o4)), .second, .val (.long (st + o3)), .second, .val (.int (0 : Int32)), .unset, .unset, .unset, .unset]) rfl ?_
        show Steps p.tables e below (T9.setTop (mkF m 186 #[.val (.int xs), .val (.long st), .second, .val (.int stp), .val (.long exc), .second, .val (.int sel), .val (.long q), .second, .val (.ref a2), .val (.int (3 : Int32)), .val (.int (1 : Int32)), .val (.long o3), .second, .val (.long arr), .second, .val (.long (st + o3)), .second, .val (.long (st + o4)), .second, .val (.long (st + o3)), .second, .val (.int (0 : Int32)), .unset, .unset, .unset, .unset] [])) _
        refine XS.iload X9.here hx rfl (hb hby at_186) rfl ?_
        show Steps p.tables e below (T9.setTop (mkF m 188 #[.val (.int xs), .val (.long st), .second, .val (.int stp), .val (.long exc), .second, .val (.int sel), .val (.long q), .second, .val (.ref a2), .val (.int (3 : Int32)), .val (.int (1 : Int32)), .val (.long o3), .second, .val (.long arr), .second, .val (.long (st + o3)), .second, .val (.long (st + o4)), .second, .val (.long (st + o3)), .second, .val (.int (0 : Int32)), .unset, .unset, .unset, .unset] [(.int (0 : Int32))])) _
        refine XS.ifYes X9.here hx rfl (pc0 := 188) (pc' := 196) rfl (hb hby at_188) rfl rfl (by decide) (by decide) ?_
        show Steps p.tables e below (T9.setTop (mkF m 196 #[.val (.int xs), .val (.long st), .second, .val (.int stp), .val (.long exc), .second, .val (.int sel), .val (.long q), .second, .val (.ref a2), .val (.int (3 : Int32)), .val (.int (1 : Int32)), .val (.long o3), .second, .val (.long arr), .second, .val (.long (st + o3)), .second, .val (.long (st + o4)), .second, .val (.long (st + o3)), .second, .val (.int (0 : Int32)), .unset, .unset, .unset, .unset] [])) _
        refine XS.lload X9.here hx rfl (hb hby at_196) rfl ?_
        show Steps p.tables e below (T9.setTop (mkF m 198 #[.val (.int xs), .val (.long st), .second, .val (.int stp), .val (.long exc), .second, .val (.int sel), .val (.long q), .second, .val (.ref a2), .val (.int (3 : Int32)), .val (.int (1 : Int32)), .val (.long o3), .second, .val (.long arr), .second, .val (.long (st + o3)), .second, .val (.long (st + o4)), .second, .val (.long (st + o3)), .second, .val (.int (0 : Int32)), .unset, .unset, .unset, .unset] [(.long (st + o3))])) _
        refine XS.lstore X9.here hx rfl (hb hby at_198) rfl (l' := #[.val (.int xs), .val (.long st), .second, .val (.int stp), .val (.long exc), .second, .val (.int sel), .val (.long q), .second, .val (.ref a2), .val (.int (3 : Int32)), .val (.int (1 : Int32)), .val (.long o3), .second, .val (.long arr), .second, .val (.long (st + o3)), .second, .val (.long (st + o4)), .second, .val (.long (st + o3)), .second, .val (.int (0 : Int32)), .val (.long (st + o3)), .second, .unset, .unset]) rfl ?_
        show Steps p.tables e below (T9.setTop (mkF m 200 #[.val (.int xs), .val (.long st), .second, .val (.int stp), .val (.long exc), .second, .val (.int sel), .val (.long q), .second, .val (.ref a2), .val (.int (3 : Int32)), .val (.int (1 : Int32)), .val (.long o3), .second, .val (.long arr), .second, .val (.long (st + o3)), .second, .val (.long (st + o4)), .second, .val (.long (st + o3)), .second, .val (.int (0 : Int32)), .val (.long (st + o3)), .second, .unset, .unset] [])) _
        refine XS.lload X9.here hx rfl (hb hby at_200) rfl ?_
        show Steps p.tables e below (T9.setTop (mkF m 202 #[.val (.int xs), .val (.long st), .second, .val (.int stp), .val (.long exc), .second, .val (.int sel), .val (.long q), .second, .val (.ref a2), .val (.int (3 : Int32)), .val (.int (1 : Int32)), .val (.long o3), .second, .val (.long arr), .second, .val (.long (st + o3)), .second, .val (.long (st + o4)), .second, .val (.long (st + o3)), .second, .val (.int (0 : Int32)), .val (.long (st + o3)), .second, .unset, .unset] [(.long (st + o3))])) _
        refine XS.lload X9.here hx rfl (hb hby at_202) rfl ?_
        show Steps p.tables e below (T9.setTop (mkF m 204 #[.val (.int xs), .val (.long st), .second, .val (.int stp), .val (.long exc), .second, .val (.int sel), .val (.long q), .second, .val (.ref a2), .val (.int (3 : Int32)), .val (.int (1 : Int32)), .val (.long o3), .second, .val (.long arr), .second, .val (.long (st + o3)), .second, .val (.long (st + o4)), .second, .val (.long (st + o3)), .second, .val (.int (0 : Int32)), .val (.long (st + o3)), .second, .unset, .unset] [(.long q), (.long (st + o3))])) _
        refine XS.ladd X9.here hx rfl (hb hby at_204) rfl ?_
        show Steps p.tables e below (T9.setTop (mkF m 205 #[.val (.int xs), .val (.long st), .second, .val (.int stp), .val (.long exc), .second, .val (.int sel), .val (.long q), .second, .val (.ref a2), .val (.int (3 : Int32)), .val (.int (1 : Int32)), .val (.long o3), .second, .val (.long arr), .second, .val (.long (st + o3)), .second, .val (.long (st + o4)), .second, .val (.long (st + o3)), .second, .val (.int (0 : Int32)), .val (.long (st + o3)), .second, .unset, .unset] [(.long ((st + o3) + q))])) _
        refine XS.lstore X9.here hx rfl (hb hby at_205) rfl (l' := #[.val (.int xs), .val (.long st), .second, .val (.int stp), .val (.long exc), .second, .val (.int sel), .val (.long q), .second, .val (.ref a2), .val (.int (3 : Int32)), .val (.int (1 : Int32)), .val (.long o3), .second, .val (.long arr), .second, .val (.long (st + o3)), .second, .val (.long (st + o4)), .second, .val (.long (st + o3)), .second, .val (.int (0 : Int32)), .val (.long (st + o3)), .second, .val (.long ((st + o3) + q)), .second]) rfl ?_
        show Steps p.tables e below (T9.setTop (mkF m 207 #[.val (.int xs), .val (.long st), .second, .val (.int stp), .val (.long exc), .second, .val (.int sel), .val (.long q), .second, .val (.ref a2), .val (.int (3 : Int32)), .val (.int (1 : Int32)), .val (.long o3), .second, .val (.long arr), .second, .val (.long (st + o3)), .second, .val (.long (st + o4)), .second, .val (.long (st + o3)), .second, .val (.int (0 : Int32)), .val (.long (st + o3)), .second, .val (.long ((st + o3) + q)), .second] [])) _
        refine XS.iload X9.here hx rfl (hb hby at_207) rfl ?_
        show Steps p.tables e below (T9.setTop (mkF m 209 #[.val (.int xs), .val (.long st), .second, .val (.int stp), .val (.long exc), .second, .val (.int sel), .val (.long q), .second, .val (.ref a2), .val (.int (3 : Int32)), .val (.int (1 : Int32)), .val (.long o3), .second, .val (.long arr), .second, .val (.long (st + o3)), .second, .val (.long (st + o4)), .second, .val (.long (st + o3)), .second, .val (.int (0 : Int32)), .val (.long (st + o3)), .second, .val (.long ((st + o3) + q)), .second] [(.int (1 : Int32))])) _
        refine XS.ifNo X9.here hx rfl (hb hby at_209) rfl rfl ?_
        show Steps p.tables e below (T9.setTop (mkF m 212 #[.val (.int xs), .val (.long st), .second, .val (.int stp), .val (.long exc), .second, .val (.int sel), .val (.long q), .second, .val (.ref a2), .val (.int (3 : Int32)), .val (.int (1 : Int32)), .val (.long o3), .second, .val (.long arr), .second, .val (.long (st + o3)), .second, .val (.long (st + o4)), .second, .val (.long (st + o3)), .second, .val (.int (0 : Int32)), .val (.long (st + o3)), .second, .val (.long ((st + o3) + q)), .second] [])) _
        refine XS.lload X9.here hx rfl (hb hby at_212) rfl ?_
        show Steps p.tables e below (T9.setTop (mkF m 214 #[.val (.int xs), .val (.long st), .second, .val (.int stp), .val (.long exc), .second, .val (.int sel), .val (.long q), .second, .val (.ref a2), .val (.int (3 : Int32)), .val (.int (1 : Int32)), .val (.long o3), .second, .val (.long arr), .second, .val (.long (st + o3)), .second, .val (.long (st + o4)), .second, .val (.long (st + o3)), .second, .val (.int (0 : Int32)), .val (.long (st + o3)), .second, .val (.long ((st + o3) + q)), .second] [(.long (st + o3))])) _
        refine XS.lload X9.here hx rfl (hb hby at_214) rfl ?_
        show Steps p.tables e below (T9.setTop (mkF m 216 #[.val (.int xs), .val (.long st), .second, .val (.int stp), .val (.long exc), .second, .val (.int sel), .val (.long q), .second, .val (.ref a2), .val (.int (3 : Int32)), .val (.int (1 : Int32)), .val (.long o3), .second, .val (.long arr), .second, .val (.long (st + o3)), .second, .val (.long (st + o4)), .second, .val (.long (st + o3)), .second, .val (.int (0 : Int32)), .val (.long (st + o3)), .second, .val (.long ((st + o3) + q)), .second] [(.long (st + o3)), (.long (st + o3))])) _
        refine XS.lcmp X9.here hx rfl (hb hby at_216) rfl ?_
        show Steps p.tables e below (T9.setTop (mkF m 217 #[.val (.int xs), .val (.long st), .second, .val (.int stp), .val (.long exc), .second, .val (.int sel), .val (.long q), .second, .val (.ref a2), .val (.int (3 : Int32)), .val (.int (1 : Int32)), .val (.long o3), .second, .val (.long arr), .second, .val (.long (st + o3)), .second, .val (.long (st + o4)), .second, .val (.long (st + o3)), .second, .val (.int (0 : Int32)), .val (.long (st + o3)), .second, .val (.long ((st + o3) + q)), .second] [(.int (lcmpW (st + o3) (st + o3)))])) _
        refine XS.ifNo X9.here hx rfl (hb hby at_217) rfl ((Jvm.Own.holdsL _ _ _).trans (Jvm.Own.dF (fun q => q rfl))) ?_
        show Steps p.tables e below (T9.setTop (mkF m 220 #[.val (.int xs), .val (.long st), .second, .val (.int stp), .val (.long exc), .second, .val (.int sel), .val (.long q), .second, .val (.ref a2), .val (.int (3 : Int32)), .val (.int (1 : Int32)), .val (.long o3), .second, .val (.long arr), .second, .val (.long (st + o3)), .second, .val (.long (st + o4)), .second, .val (.long (st + o3)), .second, .val (.int (0 : Int32)), .val (.long (st + o3)), .second, .val (.long ((st + o3) + q)), .second] [])) _
        refine XS.lload X9.here hx rfl (hb hby at_220) rfl ?_
        show Steps p.tables e below (T9.setTop (mkF m 222 #[.val (.int xs), .val (.long st), .second, .val (.int stp), .val (.long exc), .second, .val (.int sel), .val (.long q), .second, .val (.ref a2), .val (.int (3 : Int32)), .val (.int (1 : Int32)), .val (.long o3), .second, .val (.long arr), .second, .val (.long (st + o3)), .second, .val (.long (st + o4)), .second, .val (.long (st + o3)), .second, .val (.int (0 : Int32)), .val (.long (st + o3)), .second, .val (.long ((st + o3) + q)), .second] [(.long (st + o4))])) _
        refine XS.lload X9.here hx rfl (hb hby at_222) rfl ?_
        show Steps p.tables e below (T9.setTop (mkF m 224 #[.val (.int xs), .val (.long st), .second, .val (.int stp), .val (.long exc), .second, .val (.int sel), .val (.long q), .second, .val (.ref a2), .val (.int (3 : Int32)), .val (.int (1 : Int32)), .val (.long o3), .second, .val (.long arr), .second, .val (.long (st + o3)), .second, .val (.long (st + o4)), .second, .val (.long (st + o3)), .second, .val (.int (0 : Int32)), .val (.long (st + o3)), .second, .val (.long ((st + o3) + q)), .second] [(.long ((st + o3) + q)), (.long (st + o4))])) _
        refine XS.lcmp X9.here hx rfl (hb hby at_224) rfl ?_
        show Steps p.tables e below (T9.setTop (mkF m 225 #[.val (.int xs), .val (.long st), .second, .val (.int stp), .val (.long exc), .second, .val (.int sel), .val (.long q), .second, .val (.ref a2), .val (.int (3 : Int32)), .val (.int (1 : Int32)), .val (.long o3), .second, .val (.long arr), .second, .val (.long (st + o3)), .second, .val (.long (st + o4)), .second, .val (.long (st + o3)), .second, .val (.int (0 : Int32)), .val (.long (st + o3)), .second, .val (.long ((st + o3) + q)), .second] [(.int (lcmpW (st + o4) ((st + o3) + q)))])) _
        refine XS.ifNo X9.here hx rfl (hb hby at_225) rfl ((Jvm.Own.holdsL _ _ _).trans (Jvm.Own.dF (fun z => z (by rw [Int64.add_assoc, pa4])))) ?_
        show Steps p.tables e below (T9.setTop (mkF m 228 #[.val (.int xs), .val (.long st), .second, .val (.int stp), .val (.long exc), .second, .val (.int sel), .val (.long q), .second, .val (.ref a2), .val (.int (3 : Int32)), .val (.int (1 : Int32)), .val (.long o3), .second, .val (.long arr), .second, .val (.long (st + o3)), .second, .val (.long (st + o4)), .second, .val (.long (st + o3)), .second, .val (.int (0 : Int32)), .val (.long (st + o3)), .second, .val (.long ((st + o3) + q)), .second] [])) _
        refine XS.iconst X9.here hx rfl (hb hby at_228) ?_
        show Steps p.tables e below (T9.setTop (mkF m 229 #[.val (.int xs), .val (.long st), .second, .val (.int stp), .val (.long exc), .second, .val (.int sel), .val (.long q), .second, .val (.ref a2), .val (.int (3 : Int32)), .val (.int (1 : Int32)), .val (.long o3), .second, .val (.long arr), .second, .val (.long (st + o3)), .second, .val (.long (st + o4)), .second, .val (.long (st + o3)), .second, .val (.int (0 : Int32)), .val (.long (st + o3)), .second, .val (.long ((st + o3) + q)), .second] [(.int (1 : Int32))])) _
        refine XS.goto X9.here hx rfl (pc0 := 229) (pc' := 233) rfl (hb hby at_229) (by decide) (by decide) ?_
        show Steps p.tables e below (T9.setTop (mkF m 233 #[.val (.int xs), .val (.long st), .second, .val (.int stp), .val (.long exc), .second, .val (.int sel), .val (.long q), .second, .val (.ref a2), .val (.int (3 : Int32)), .val (.int (1 : Int32)), .val (.long o3), .second, .val (.long arr), .second, .val (.long (st + o3)), .second, .val (.long (st + o4)), .second, .val (.long (st + o3)), .second, .val (.int (0 : Int32)), .val (.long (st + o3)), .second, .val (.long ((st + o3) + q)), .second] [(.int (1 : Int32))])) _
        exact retN X9 hx (t := .boolean) Bd.returns (by simp) (hb hby at_233) hr
      · show QL n0 _ T9.heap _
        exact ⟨rfl, (Fr.app (Fr.app (Fr.app (Fr.app (Fr.app (Fr.app (Fr.app (Fr.app N0 N1) N3) N4) N5) N6) N7) N8) N9)⟩
set_option maxRecDepth 65536 in
set_option maxHeartbeats 40000000 in
theorem comes_1 {Post : Tables → Env → Array Value → State → Outcome → State → Prop} (hpost : ∀ tb e args s v u, (limb_1_1.after args s (.returned v) u = true ∧ limb_1_2.after args s (.returned v) u = true ∧ True) → FrameEnd s (.returned v) u (Jvm.fieldLocs frame_1_writes args s ++ Jvm.arrayLocs frame_1_arrays args s ++ Jvm.staticLocs frame_1_statics s) 16 128 → Post tb e args s (.returned v) u) :
    ArmFor flags0 classFile x code maxLocals ret World_1 tables_1 room_1 Calls_1 rest_1 Pre_1 Post := by
  intro l hfl _ _ p e ha hc hk s m args below hf hA hF happ hP
  obtain ⟨hcalls, hrest, hpre⟩ := hP
  obtain ⟨-, -, -, hnamed, -, -, -, hat⟩ := (Spec.applies_iff hf).mp happ
  obtain ⟨hg, hn⟩ := and_e (Cond.before_iff.mp (show (Jvm.Cond.and given_1 narrow_1).before args s = true from hpre))
  obtain ⟨hcnt, g0⟩ := and_e hg
  obtain ⟨a0, g1⟩ := and_e g0
  obtain ⟨a1, g2⟩ := and_e g1
  obtain ⟨a2, g3⟩ := and_e g2
  obtain ⟨w0, w1, w2, w3, rfl⟩ : ∃ w0 w1 w2 w3 : Value, args = #[w0, w1, w2, w3] := by
    have hs : args.size = 4 := by simpa [Cond.value, given_1] using hcnt
    obtain ⟨L⟩ := args
    match L, hs with
    | [w0, w1, w2, w3], _ => exact ⟨w0, w1, w2, w3, rfl⟩
  have hw := fun d (hd : d ∈ tables_1) => atoms_spec (ws := Jvm.Cond.code x code maxLocals ret :: tables_1) hat d (List.mem_cons_of_mem _ hd)
  have hfit : Fit s := fun {y c} hc i hi => by
    obtain ⟨ha, rfl⟩ := Array.getElem?_eq_some_iff.mp hc
    have q := List.all_eq_true.mp ((Array.all_eq_true_iff_forall_mem.mp hF) _ (Array.getElem_mem ha)) i (List.mem_range.mpr hi)
    simpa [Array.getElem?_eq_getElem hi] using q
  obtain ⟨v0, e0⟩ := is_v a0
  obtain rfl : w0 = (.int v0) := Option.some.inj e0
  obtain ⟨v1, e1⟩ := isL_v a1
  obtain rfl : w1 = (.long v1) := Option.some.inj e1
  obtain ⟨v2, e2⟩ := is_v a2
  obtain rfl : w2 = (.int v2) := Option.some.inj e2
  obtain ⟨v3, e3⟩ := isL_v g3
  obtain rfl : w3 = (.long v3) := Option.some.inj e3
  obtain ⟨n, o, h1, h2, h3, _, L, rfl, ⟨rfl, N⟩, hq⟩ := rm0 l s _ hw tables_1 v0 v1 v2 v3 s.heap s.heap.size (Nat.le_refl _)  p e ha hc hk s m _ below hf ((Spec.applies_iff_loose hf).mp happ).1 ⟨rfl, State.Warmed39.refl s, rfl⟩ trivial
  refine ⟨n, _, h1, h2, h3, hpost _ _ _ _ _ _ ⟨Cond.after_iff.mpr rfl, Cond.after_iff.mpr (eq_i res_at (Term.int_eval (1)) rfl), trivial⟩ ⟨hq.1, hq.2.1, (hq.2.2.sift fun y hy => Or.inr (N y hy)).mono (by decide) (by decide)⟩⟩
theorem main_1_1 : Claimed_1_1 := comes_1 fun _ _ _ _ _ _ h hF => ⟨h.1, hF⟩
theorem main_1_2 : Claimed_1_2 := comes_1 fun _ _ _ _ _ _ h hF => ⟨h.2.1, hF⟩
end Jvm.Pilot.@@N@@
namespace Jvm.Pilot.@@N@@
open Jvm Jvm.ClassFile Sem Op Lib Jvm.Free Jvm.Stand Jvm.Pilot.@@N@@.Jvm.D
/-! MADE BY PROGRAM (witnessworld.py) out of the Statement's table words and the real class files: 9 classes; the members and pool entries that the words name. The judged class is class 1, her method 3. -/
namespace start1
open Jvm.ClassFile
def u (s : String) : CpInfo := .utf8 (stringToUtf16 s)
/-- a pool by its gaps: so many unusable entries, then the entry; so many at the end -/
def gap : Nat → List CpInfo → List CpInfo
  | 0, r => r
  | n + 1, r => .unusable :: gap n r
def poolList (es : List (Nat × CpInfo)) (last : Nat) : List CpInfo := es.foldr (fun e r => gap e.1 (e.2 :: r)) (gap last [])
def pool (es : List (Nat × CpInfo)) (last : Nat) : Array CpInfo := ⟨poolList es last⟩
def fileOf (pool : Array CpInfo) (this : Nat) (attrs : Array Attribute := #[]) (ms : Array MethodInfo := #[]) (fl : Nat := 33) (sup : Nat := 0) (ifs : Array Nat := #[]) (fds : Array FieldInfo := #[]) : ClassFile where
  minorVersion := 0
  majorVersion := 65
  constantPool := pool
  accessFlags := fl
  thisClass := this
  superClass := sup
  interfaces := ifs
  fields := fds
  methods := ms
  attributes := attrs
def plain (name : String) (sup : Option ClassId) : Class where
  name := name
  kind := .ordinary
  loader := none
  accessFlags := 33
  super := sup
  interfaces := #[]
  cf := none
  fields := #[]
  methods := #[]
  instanceTypes := #[]
  staticTypes := #[]
  resolved := #[]
  callSites := []
  init := .initialized
  statics := none
  mirror := none

def pool0 : Array CpInfo := pool [(5, u "<init>"), (0, u "()V"), (1, .class_ 10), (1, u "java/lang/Object")] 113

def k0c0 : Code := { maxStack := 0, maxLocals := 1, code := object_method_1_code, exceptionTable := #[], attributes := #[] }
def k0m0 : Method := { name := "<init>", desc := "()V", sig := { parameters := [], returnType := none }, accessFlags := 1, code := some k0c0 }
/-- java/lang/Object -/
def k0 : Class := { plain "java/lang/Object" none with
  accessFlags := 33
  interfaces := #[]
  cf := some (fileOf pool0 8 #[] #[{ accessFlags := 1, nameIndex := 5, descriptorIndex := 6, attributes := #[] }] 33 0 #[] #[])
  fields := #[]
  methods := #[k0m0]
  instanceTypes := #[]
  staticTypes := #[]
  resolved := Array.replicate 124 none
  statics := none }

def pool1 : Array CpInfo := pool [(2, .class_ 4), (1, u "java/lang/Object"), (0, u "<init>"), (0, u "()V"), (0, .integer 1000000000), (0, .long 1000000000), (1, .long 500000000), (1, .long 250000000), (1, .long 200000000), (1, .long 125000000), (1, .long 100000000), (1, .long 1000000), (1, .methodref 23 24), (0, .class_ 25), (0, .nameAndType 26 27), (0, u "com/example/earnest_load/earnestload/run/ScheduleNextFromPinLaw"), (0, u "period"), (0, u "(I)J"), (0, .class_ 29), (0, u "com/example/earnest_load/earnestload/run/Schedule"), (0, .methodref 23 31), (0, .nameAndType 32 33), (0, u "rate"), (0, u "(I)I"), (0, .methodref 28 35), (0, .nameAndType 5 36), (0, u "(DJ)V"), (0, .methodref 28 38), (0, .nameAndType 39 40), (0, u "next"), (0, u "()J"), (0, .long 2), (1, .methodref 28 44), (0, .nameAndType 45 46), (0, u "nextFrom"), (0, u "(J)J"), (3, u "law"), (0, u "(IJIJ)Z")] 2

def k1m0 : Method := { name := "<init>", desc := "()V", sig := { parameters := [], returnType := none }, accessFlags := 1, code := none }
def k1c1 : Code := { maxStack := 2, maxLocals := 1, code := method_2_code, exceptionTable := #[], attributes := #[] }
def k1m1 : Method := { name := "rate", desc := "(I)I", sig := { parameters := [.int], returnType := some .int }, accessFlags := 10, code := some k1c1 }
def k1c2 : Code := { maxStack := 2, maxLocals := 1, code := method_3_code, exceptionTable := #[], attributes := #[] }
def k1m2 : Method := { name := "period", desc := "(I)J", sig := { parameters := [.int], returnType := some .long }, accessFlags := 10, code := some k1c2 }
def k1c3 : Code := { maxStack := 8, maxLocals := 27, code := code, exceptionTable := #[], attributes := #[] }
def k1m3 : Method := { name := "law", desc := "(IJIJ)Z", sig := { parameters := [.int, .long, .int, .long], returnType := some .boolean }, accessFlags := 9, code := some k1c3 }
/-- com/example/earnest_load/earnestload/run/ScheduleNextFromPinLaw -/
def k1 : Class := { plain "com/example/earnest_load/earnestload/run/ScheduleNextFromPinLaw" (some 0) with
  accessFlags := 49
  interfaces := #[]
  cf := some (fileOf pool1 23 #[] #[{ accessFlags := 1, nameIndex := 5, descriptorIndex := 6, attributes := #[] }, { accessFlags := 10, nameIndex := 32, descriptorIndex := 33, attributes := #[] }, { accessFlags := 10, nameIndex := 26, descriptorIndex := 27, attributes := #[] }, { accessFlags := 9, nameIndex := 50, descriptorIndex := 51, attributes := #[] }] 49 2 #[] #[])
  fields := #[]
  methods := #[k1m0, k1m1, k1m2, k1m3]
  instanceTypes := #[]
  staticTypes := #[]
  resolved := Array.replicate 54 none
  statics := none }

def pool2 : Array CpInfo := pool [(1, .methodref 2 3), (0, .class_ 4), (0, .nameAndType 5 6), (0, u "java/lang/Object"), (0, u "<init>"), (0, u "()V"), (0, .fieldref 8 9), (0, .class_ 10), (0, .nameAndType 11 12), (0, u "com/example/earnest_load/earnestload/run/Schedule"), (0, u "rate"), (0, u "D"), (0, .fieldref 8 14), (0, .nameAndType 15 16), (0, u "start"), (0, u "J"), (0, .fieldref 8 18), (0, .nameAndType 19 16), (0, u "count"), (0, .methodref 8 21), (0, .nameAndType 22 23), (0, u "offset"), (0, u "(J)J"), (0, .methodref 8 25), (0, .nameAndType 26 27), (0, u "next"), (0, u "()J"), (0, .double 4741671816366391296), (1, u "NANOS_PER_S"), (1, u "(DJ)V"), (2, u "nextFrom")] 3

def k2c0 : Code := { maxStack := 3, maxLocals := 5, code := prog_10_method_1_code, exceptionTable := #[], attributes := #[] }
def k2m0 : Method := { name := "<init>", desc := "(DJ)V", sig := { parameters := [.double, .long], returnType := none }, accessFlags := 0, code := some k2c0 }
def k2c1 : Code := { maxStack := 10, maxLocals := 1, code := prog_10_method_2_code, exceptionTable := #[], attributes := #[] }
def k2m1 : Method := { name := "next", desc := "()J", sig := { parameters := [], returnType := some .long }, accessFlags := 0, code := some k2c1 }
def k2c2 : Code := { maxStack := 5, maxLocals := 3, code := prog_10_method_3_code, exceptionTable := #[], attributes := #[] }
def k2m2 : Method := { name := "nextFrom", desc := "(J)J", sig := { parameters := [.long], returnType := some .long }, accessFlags := 0, code := some k2c2 }
def k2c3 : Code := { maxStack := 4, maxLocals := 3, code := prog_10_method_4_code, exceptionTable := #[], attributes := #[] }
def k2m3 : Method := { name := "offset", desc := "(J)J", sig := { parameters := [.long], returnType := some .long }, accessFlags := 2, code := some k2c3 }
/-- com/example/earnest_load/earnestload/run/Schedule -/
def k2 : Class := { plain "com/example/earnest_load/earnestload/run/Schedule" (some 0) with
  accessFlags := 48
  interfaces := #[]
  cf := some (fileOf pool2 8 #[] #[{ accessFlags := 0, nameIndex := 5, descriptorIndex := 32, attributes := #[] }, { accessFlags := 0, nameIndex := 26, descriptorIndex := 27, attributes := #[] }, { accessFlags := 0, nameIndex := 35, descriptorIndex := 23, attributes := #[] }, { accessFlags := 2, nameIndex := 22, descriptorIndex := 23, attributes := #[] }] 48 2 #[] #[{ accessFlags := 26, nameIndex := 30, descriptorIndex := 12, attributes := #[] }, { accessFlags := 18, nameIndex := 11, descriptorIndex := 12, attributes := #[] }, { accessFlags := 2, nameIndex := 15, descriptorIndex := 16, attributes := #[] }, { accessFlags := 2, nameIndex := 19, descriptorIndex := 16, attributes := #[] }])
  fields := #[{ name := "NANOS_PER_S", type := .double, accessFlags := 26, slot := 0, constantValue := 0 }, { name := "rate", type := .double, accessFlags := 18, slot := 0, constantValue := 0 }, { name := "start", type := .long, accessFlags := 2, slot := 1, constantValue := 0 }, { name := "count", type := .long, accessFlags := 2, slot := 2, constantValue := 0 }]
  methods := #[k2m0, k2m1, k2m2, k2m3]
  instanceTypes := #[.double, .long, .long]
  staticTypes := #[.double]
  resolved := Array.replicate 39 none
  statics := none }

def pool3 : Array CpInfo := pool [(1, u "java/lang/Cloneable"), (0, .class_ 1), (0, u "java/lang/Object"), (0, .class_ 3)] 3

/-- java/lang/Cloneable -/
def k3 : Class := { plain "java/lang/Cloneable" (some 0) with
  accessFlags := 1537
  interfaces := #[]
  cf := some (fileOf pool3 2 #[] #[] 1537 4 #[] #[])
  fields := #[]
  methods := #[]
  instanceTypes := #[]
  staticTypes := #[]
  resolved := Array.replicate 8 none
  statics := none }

def pool4 : Array CpInfo := pool [(1, u "java/io/Serializable"), (0, .class_ 1), (0, u "java/lang/Object"), (0, .class_ 3)] 3

/-- java/io/Serializable -/
def k4 : Class := { plain "java/io/Serializable" (some 0) with
  accessFlags := 1537
  interfaces := #[]
  cf := some (fileOf pool4 2 #[] #[] 1537 4 #[] #[])
  fields := #[]
  methods := #[]
  instanceTypes := #[]
  staticTypes := #[]
  resolved := Array.replicate 8 none
  statics := none }

/-- the primitive byte -/
def k5 : Class := { plain "byte" none with kind := .primitive 'B', accessFlags := 0x411 }
/-- [B -/
def k6 : Class := { plain "[B" (some 0) with kind := .array 5 .byte, interfaces := #[3, 4], accessFlags := 1041 }

/-- the primitive int -/
def k7 : Class := { plain "int" none with kind := .primitive 'I', accessFlags := 0x411 }
/-- [I -/
def k8 : Class := { plain "[I" (some 0) with kind := .array 7 .int, interfaces := #[3, 4], accessFlags := 1041 }

def heap : Heap := #[]
def classes : Array Class := #[k0, k1, k2, k3, k4, k5, k6, k7, k8]
def interned : List (Array UInt16 × Addr) := []
def slotsUsed : Nat := 0
def theMethod : MethodId := ⟨1, 3⟩
def args0 : Array Value := #[.int 5, .long 3, .int 0, .long 1]
def aboutOver (below : List Frame) : State where
  vm := { classes := classes, interned := interned.toArray }
  heap := heap
  slotsUsed := slotsUsed
  threads := #[{ frames := .invoking theMethod args0 :: below }]
def below0 : List Frame := [.native { method := ⟨0, 0⟩, args := #[] }]
def about1 : State := aboutOver below0
def p0 : Program := .bare "" "" ""
def e0 : Env := launch0.env 0 0 0
theorem w_frames : about1.frames = Frame.invoking theMethod args0 :: below0 := rfl
set_option maxRecDepth 65536 in
theorem w_args : argsFit about1.vm theMethod args0 = true := by decide +kernel
set_option maxRecDepth 65536 in
theorem w_heap : heapFits about1 = true := by decide +kernel
set_option maxRecDepth 65536 in
theorem w_runnable : about1.curStatus? = some .runnable := by decide +kernel
set_option maxRecDepth 65536 in
theorem w_alone : about1.alone = true := by decide +kernel
set_option maxRecDepth 65536 in
theorem w_named : about1.methodNamed? x = some theMethod := by decide +kernel
set_option maxRecDepth 65536 in
theorem w_hears : about1.hears theMethod below0 = true := by decide +kernel
set_option maxRecDepth 65536 in
theorem w_ripe : about1.ripe theMethod args0 below0 = true := by decide +kernel
theorem w_running : about1.status = .running := rfl
set_option maxRecDepth 65536 in
theorem w_room : about1.hasRoom e0.platform room_1 = true :=
  launch0.hasRoom_least _ room_1 (by decide +kernel) (by decide +kernel) (by decide +kernel) (by decide +kernel) (by decide +kernel) (by decide +kernel)
theorem allAtoms_all (ts : List Jvm.Cond) (a : Array Jvm.Value) (st : Jvm.State) : (allAtoms ts).before a st = ts.all (fun c => c.before a st) := by
  induction ts with
  | nil => rfl
  | cons c t ih =>
    show (Jvm.Cond.and c (allAtoms t)).before a st = _
    rw [Jvm.Cond.before_and, ih, List.all_cons]
def words1 : List Jvm.Cond := Jvm.Cond.code x code maxLocals ret :: tables_1
/-- a 'code' word, met by the world's own term for the bytes: nothing is compared byte by byte -/
theorem code_word {y : MethodName} {bytes : ByteArray} {mx : Nat} {rt : Option FieldType} {a : Array Value} {s : State} {m : MethodId} {meth : Method} {c : Code} (h1 : s.methodNamed? y = some m) (h2 : s.vm.method? m = some meth) (h3 : meth.code = some c) (h4 : c.code = bytes)
    (h5 : (c.maxLocals == mx && c.exceptionTable.isEmpty && decide (c.maxStack ≤ mostOperands) && decide (meth.sig.returnType = rt) && !meth.locks && decide (parseMethodDescriptor y.desc = some meth.sig)) = true) : (Jvm.Cond.code y bytes mx rt).before a s = true := by
  simp only [Bool.and_eq_true, beq_iff_eq, Bool.not_eq_true', decide_eq_true_eq] at h5
  obtain ⟨⟨⟨⟨⟨g1, g2⟩, g3⟩, g4⟩, g5⟩, g6⟩ := h5
  simp [Cond.before, Cond.holds, Cond.value, h1, h2, h3, h4, g1, g2, g3, g4, g5, g6]
def isCode : Jvm.Cond → Bool
  | .code _ _ _ _ => true
  | _ => false
theorem all_split {L : List Jvm.Cond} {P : Jvm.Cond → Bool} (h1 : L.all (fun c => isCode c || P c) = true) (h2 : ∀ c ∈ L.filter isCode, P c = true) : L.all P = true := by
  refine List.all_eq_true.mpr fun c hc => ?_
  have h := List.all_eq_true.mp h1 c hc
  rcases Bool.eq_false_or_eq_true (isCode c) with hi | hi
  · exact h2 c (List.mem_filter.mpr ⟨hc, hi⟩)
  · simpa [hi] using h
set_option maxRecDepth 65536 in
theorem w_c0 : (Jvm.Cond.code x code maxLocals ret).before args0 about1 = true := code_word (m := ⟨1, 3⟩) (meth := k1m3) (c := k1c3) (by decide +kernel) rfl rfl rfl (by decide +kernel)
set_option maxRecDepth 65536 in
theorem w_c1 : (Jvm.Cond.code ({ cls := "com/example/earnest_load/earnestload/run/ScheduleNextFromPinLaw", name := "period", desc := "(I)J" } : Jvm.MethodName) method_3_code (1 : Nat) (Option.some Jvm.ClassFile.FieldType.long)).before args0 about1 = true := code_word (m := ⟨1, 2⟩) (meth := k1m2) (c := k1c2) (by decide +kernel) rfl rfl rfl (by decide +kernel)
set_option maxRecDepth 65536 in
theorem w_c2 : (Jvm.Cond.code ({ cls := "com/example/earnest_load/earnestload/run/ScheduleNextFromPinLaw", name := "rate", desc := "(I)I" } : Jvm.MethodName) method_2_code (1 : Nat) (Option.some Jvm.ClassFile.FieldType.int)).before args0 about1 = true := code_word (m := ⟨1, 1⟩) (meth := k1m1) (c := k1c1) (by decide +kernel) rfl rfl rfl (by decide +kernel)
set_option maxRecDepth 65536 in
theorem w_c3 : (Jvm.Cond.code ({ cls := "com/example/earnest_load/earnestload/run/Schedule", name := "<init>", desc := "(DJ)V" } : Jvm.MethodName) prog_10_method_1_code (5 : Nat) (Option.none : Option Jvm.ClassFile.FieldType)).before args0 about1 = true := code_word (m := ⟨2, 0⟩) (meth := k2m0) (c := k2c0) (by decide +kernel) rfl rfl rfl (by decide +kernel)
set_option maxRecDepth 65536 in
theorem w_c4 : (Jvm.Cond.code ({ cls := "java/lang/Object", name := "<init>", desc := "()V" } : Jvm.MethodName) object_method_1_code (1 : Nat) (Option.none : Option Jvm.ClassFile.FieldType)).before args0 about1 = true := code_word (m := ⟨0, 0⟩) (meth := k0m0) (c := k0c0) (by decide +kernel) rfl rfl rfl (by decide +kernel)
set_option maxRecDepth 65536 in
theorem w_c5 : (Jvm.Cond.code ({ cls := "com/example/earnest_load/earnestload/run/Schedule", name := "next", desc := "()J" } : Jvm.MethodName) prog_10_method_2_code (1 : Nat) (Option.some Jvm.ClassFile.FieldType.long)).before args0 about1 = true := code_word (m := ⟨2, 1⟩) (meth := k2m1) (c := k2c1) (by decide +kernel) rfl rfl rfl (by decide +kernel)
set_option maxRecDepth 65536 in
theorem w_c6 : (Jvm.Cond.code ({ cls := "com/example/earnest_load/earnestload/run/Schedule", name := "offset", desc := "(J)J" } : Jvm.MethodName) prog_10_method_4_code (3 : Nat) (Option.some Jvm.ClassFile.FieldType.long)).before args0 about1 = true := code_word (m := ⟨2, 3⟩) (meth := k2m3) (c := k2c3) (by decide +kernel) rfl rfl rfl (by decide +kernel)
set_option maxRecDepth 65536 in
theorem w_c7 : (Jvm.Cond.code ({ cls := "com/example/earnest_load/earnestload/run/Schedule", name := "nextFrom", desc := "(J)J" } : Jvm.MethodName) prog_10_method_3_code (3 : Nat) (Option.some Jvm.ClassFile.FieldType.long)).before args0 about1 = true := code_word (m := ⟨2, 2⟩) (meth := k2m2) (c := k2c2) (by decide +kernel) rfl rfl rfl (by decide +kernel)
def codes1 : List Jvm.Cond := [Jvm.Cond.code x code maxLocals ret, Jvm.Cond.code ({ cls := "com/example/earnest_load/earnestload/run/ScheduleNextFromPinLaw", name := "period", desc := "(I)J" } : Jvm.MethodName) method_3_code (1 : Nat) (Option.some Jvm.ClassFile.FieldType.long), Jvm.Cond.code ({ cls := "com/example/earnest_load/earnestload/run/ScheduleNextFromPinLaw", name := "rate", desc := "(I)I" } : Jvm.MethodName) method_2_code (1 : Nat) (Option.some Jvm.ClassFile.FieldType.int), Jvm.Cond.code ({ cls := "com/example/earnest_load/earnestload/run/Schedule", name := "<init>", desc := "(DJ)V" } : Jvm.MethodName) prog_10_method_1_code (5 : Nat) (Option.none : Option Jvm.ClassFile.FieldType), Jvm.Cond.code ({ cls := "java/lang/Object", name := "<init>", desc := "()V" } : Jvm.MethodName) object_method_1_code (1 : Nat) (Option.none : Option Jvm.ClassFile.FieldType), Jvm.Cond.code ({ cls := "com/example/earnest_load/earnestload/run/Schedule", name := "next", desc := "()J" } : Jvm.MethodName) prog_10_method_2_code (1 : Nat) (Option.some Jvm.ClassFile.FieldType.long), Jvm.Cond.code ({ cls := "com/example/earnest_load/earnestload/run/Schedule", name := "offset", desc := "(J)J" } : Jvm.MethodName) prog_10_method_4_code (3 : Nat) (Option.some Jvm.ClassFile.FieldType.long), Jvm.Cond.code ({ cls := "com/example/earnest_load/earnestload/run/Schedule", name := "nextFrom", desc := "(J)J" } : Jvm.MethodName) prog_10_method_3_code (3 : Nat) (Option.some Jvm.ClassFile.FieldType.long)]
set_option maxRecDepth 65536 in
theorem codes_eq : words1.filter isCode = codes1 := rfl
theorem w_codes : ∀ c ∈ words1.filter isCode, c.before args0 about1 = true := by
  rw [codes_eq]
  intro c hc
  simp only [codes1, List.mem_cons, List.not_mem_nil, or_false] at hc
  rcases hc with rfl | rfl | rfl | rfl | rfl | rfl | rfl | rfl
  · exact w_c0
  · exact w_c1
  · exact w_c2
  · exact w_c3
  · exact w_c4
  · exact w_c5
  · exact w_c6
  · exact w_c7
set_option maxRecDepth 65536 in
theorem w_t1 : (words1.take 24).all (fun c => isCode c || c.before args0 about1) = true := by decide +kernel
set_option maxRecDepth 65536 in
theorem w_t2 : (words1.drop 24).all (fun c => isCode c || c.before args0 about1) = true := by decide +kernel
theorem w_tables : (allAtoms (Jvm.Cond.code x code maxLocals ret :: tables_1)).before args0 about1 = true := by
  rw [allAtoms_all]
  show words1.all (fun c => c.before args0 about1) = true
  refine all_split ?_ w_codes
  rw [← List.take_append_drop 24 words1, List.all_append, w_t1, w_t2]
  rfl
set_option maxRecDepth 65536 in
theorem w_case : (Jvm.Cond.and given_1 narrow_1).before args0 about1 = true := by decide +kernel
theorem w_applies : (headSpec (Jvm.Cond.code x code maxLocals ret :: tables_1) room_1).applies x e0.platform about1 = true :=
  (Spec.applies_iff w_frames).mpr ⟨w_running, w_runnable, w_alone, w_named, w_hears, w_ripe, w_room, w_tables⟩
theorem atStart : AtStart classFile x code maxLocals ret World_1 tables_1 room_1 Calls_1 rest_1 Pre_1 launch0 p0 e0 about1 theMethod args0 below0 :=
  ⟨lists_1, trivial, launch0.admits_env _ _ _, launch0.least_env, fairChoices_fair.cas, fairChoices_fair.clock, w_frames, w_args, w_heap, w_applies, trivial, trivial, w_case⟩
end start1
theorem witness_1 : WitnessClaimed_1 := ⟨start1.p0, start1.e0, start1.about1, start1.theMethod, start1.args0, start1.below0, start1.atStart⟩
end Jvm.Pilot.@@N@@
