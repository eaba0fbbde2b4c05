import JvmDerived
import JvmDerived.Pilot.@@N@@Statement
import JvmDerived.Pilot.@@N@@Code
set_option linter.unusedVariables false
set_option linter.unusedSimpArgs false
namespace Jvm.RoadKit
open Sem ClassFile Op Lib Jvm.Stand Jvm.Free Jvm.LawKit
section New
variable {p : Program} {l : Launch} {e : Env} {R : Room} {s : State} {m : MethodId} {args : Array Value} {below : List Frame} {meth : Method} {c : Code} {T : State} {locs : List Loc} {cells slots : Nat}
theorem retI (X : Stand p l e R s m args below meth c T locs cells slots) (hx : p.tables.exec = Jvm.exec) {pc : Nat} {Ls : Array Slot} {z : Int32} {rest : List Value} (hret : meth.sig.returnType = some .int) (hd : decode c.code pc = .ok (.ireturn, 1)) {fs : List Frame}
    (hl : ∀ (f : JFrame) (acts : List Action), f.method = m → f.locked = none → f.entered = [] → (doReturn e (T.setTop f) acts (some (.int z))).1 = T.setFrames fs) : Steps p.tables e below (T.setTop (mkF m pc Ls (.int z :: rest))) (T.setFrames fs) := by
  have hm' : T.vm.method? m = some meth := X.method'
  have hn : narrow .int (.int z) = .int z := rfl
  show Steps p.tables e below (T.setTop { method := m, pc := pc, locals := Ls, stack := _ :: rest, locked := none }) _
  jvm_step X.here [X.here.top, hx, hd, hm', hret, hn]
  first | (intro acts; rw [hl _ acts rfl rfl rfl]) | rw [hl _ _ rfl rfl rfl]
  exact Steps.refl _
theorem retD (X : Stand p l e R s m args below meth c T locs cells slots) (hx : p.tables.exec = Jvm.exec) {pc : Nat} {Ls : Array Slot} {z : UInt64} {rest : List Value} (hret : meth.sig.returnType = some .double) (hd : decode c.code pc = .ok (.dreturn, 1)) {fs : List Frame}
    (hl : ∀ (f : JFrame) (acts : List Action), f.method = m → f.locked = none → f.entered = [] → (doReturn e (T.setTop f) acts (some (.double z))).1 = T.setFrames fs) : Steps p.tables e below (T.setTop (mkF m pc Ls (.double z :: rest))) (T.setFrames fs) := by
  have hm' : T.vm.method? m = some meth := X.method'
  show Steps p.tables e below (T.setTop { method := m, pc := pc, locals := Ls, stack := _ :: rest, locked := none }) _
  jvm_step X.here [X.here.top, hx, hd, hm', hret]
  first | (intro acts; rw [hl _ acts rfl rfl rfl]) | rw [hl _ _ rfl rfl rfl]
  exact Steps.refl _
end New
/-- a body that leaves the heap as it was -/
def QP (w : Value) (h0 : Heap) (n0 : Nat) (v : Option Value) (h : Heap) (L : List Loc) : Prop := v = some w ∧ Fr n0 L ∧ h = h0
/-- the law says true, and writes into nothing that stood at the start -/
def QL (n0 : Nat) (v : Option Value) (h : Heap) (L : List Loc) : Prop := v = some (.int 1) ∧ Fr n0 L
end Jvm.RoadKit

/-! OwnFP: rounding, in units of the least double. My own text, pasted into each proof. -/
namespace Jvm.Own
open Jvm.FP.Core Jvm.Free.Fl
/-- a power of two that nothing reckons out -/
def PN (j : Nat) : Nat := 2 ^ j
theorem PN_pos (j : Nat) : 0 < PN j := Nat.two_pow_pos _
theorem PN_posI (j : Nat) : (0 : Int) < (PN j : Int) := Int.ofNat_lt.mpr (PN_pos j)
theorem PN_add (i j : Nat) : PN (i + j) = PN i * PN j := Nat.pow_add ..
theorem PN_addI (i j : Nat) : (PN (i + j) : Int) = (PN i : Int) * (PN j : Int) := by rw [PN_add, Int.natCast_mul]
/-- a double as a whole number of 2^-1074 -/
def z (a : UInt64) : Int := zval b64 (val64 a)
theorem z_fin {a : UInt64} {s : Bool} {c : Nat} {q : Int} (h : val64 a = .fin s c q) : z a = signed s (inUnits c q b64.qmin) := by
  unfold z; rw [h]; rfl
/-- r is the rounding of N / D, in these units -/
def Rnd (N : Int) (D : Nat) (r : UInt64) : Prop := 0 < D ∧ ∃ s, signed s N.natAbs = N ∧ val64 r = roundRatio b64 s N.natAbs D b64.qmin
theorem DFin.fits {a : UInt64} {s : Bool} {c : Nat} {q : Int} (h : val64 a = .fin s c q) : Jvm.FP.Core.fits b64 (.fin s c q) := h ▸ val64_fits a
theorem rnd_dadd {a b : UInt64} (ha : DFin a) (hb : DFin b) : Rnd (z a + z b) 1 (dadd a b) := by
  obtain ⟨s, c, q, h1⟩ := ha
  obtain ⟨t, d, r, h2⟩ := hb
  obtain ⟨sg, n, e, hs, he, hu⟩ := sum_units (DFin.fits h1) (DFin.fits h2)
  have hz : z a + z b = signed sg (inUnits n e b64.qmin) := by unfold z; rw [h1, h2, hu]
  have hn : (z a + z b).natAbs = inUnits n e b64.qmin := by rw [hz, natAbs_signed]
  refine ⟨by decide, sg, by rw [hn, hz], ?_⟩
  rw [val64_dadd, h1, h2, hs, hn]
  show roundRatio b64 sg n 1 e = _
  refine roundRatio_congr (by decide) (by decide) ?_
  rw [show (b64.qmin - e).toNat = 0 by omega]
  simp [inUnits]
theorem z_neg {b : UInt64} : z (Jvm.FP.Core.dneg b) = - z b := by unfold z; rw [val64_dneg, zval_negate]
theorem fin_neg {b : UInt64} (hb : DFin b) : DFin (Jvm.FP.Core.dneg b) := by
  obtain ⟨t, d, r, h2⟩ := hb
  exact ⟨!t, d, r, by rw [val64_dneg, h2]; rfl⟩
theorem z_dneg {b : UInt64} : z (Jvm.FP.dneg b) = - z b := by unfold z; rw [Jvm.FP.val64_dneg, zval_negate]
theorem fin_dneg {b : UInt64} (hb : DFin b) : DFin (Jvm.FP.dneg b) := by
  obtain ⟨t, d, r, h2⟩ := hb
  exact ⟨!t, d, r, by rw [Jvm.FP.val64_dneg, h2]; rfl⟩
theorem rnd_dsub {a b : UInt64} (ha : DFin a) (hb : DFin b) : Rnd (z a - z b) 1 (dsub a b) := by
  have h := rnd_dadd ha (fin_neg hb)
  rw [z_neg] at h
  rw [dsub_eq, Int.sub_eq_add_neg]
  exact h
theorem qm : b64.qmin = -1074 := qmin_b64
theorem rnd_dmul {a b : UInt64} (ha : DFin a) (hb : DFin b) : Rnd (z a * z b) (PN 1074) (dmul a b) := by
  obtain ⟨s, c, q, h1⟩ := ha
  obtain ⟨t, d, r, h2⟩ := hb
  obtain ⟨hp, hq, hu⟩ := product_units (DFin.fits h1) (DFin.fits h2)
  have hz : z a * z b = signed (s != t) (inUnits (c * d) (q + r) (2 * b64.qmin)) := by
    rw [hu, signed_xor]; unfold z; rw [h1, h2]; rfl
  have hn : (z a * z b).natAbs = inUnits (c * d) (q + r) (2 * b64.qmin) := by rw [hz, natAbs_signed]
  refine ⟨PN_pos _, s != t, by rw [hn, hz], ?_⟩
  rw [val64_dmul, h1, h2, hp, hn]
  show roundRatio b64 (s != t) (c * d) 1 (q + r) = _
  refine roundRatio_congr (by decide) (PN_pos _) ?_
  unfold inUnits PN
  have := qm
  generalize hk : (1074 : Nat) = K at *
  calc c * d * 2 ^ K * 2 ^ (q + r - b64.qmin).toNat = c * d * 2 ^ (K + (q + r - b64.qmin).toNat) := by rw [Nat.pow_add]; ac_rfl
    _ = c * d * 2 ^ ((q + r - 2 * b64.qmin).toNat + (b64.qmin - (q + r)).toNat) := by congr 2; omega
    _ = _ := by rw [Nat.pow_add]; ac_rfl
theorem pos_sign {b : UInt64} {t : Bool} {d : Nat} {r : Int} (h2 : val64 b = .fin t d r) (hb : 0 < z b) : t = false ∧ d ≠ 0 ∧ (z b).natAbs = d * 2 ^ (r - b64.qmin).toNat := by
  have h := z_fin h2
  have hn : (z b).natAbs = d * 2 ^ (r - b64.qmin).toNat := by rw [h, natAbs_signed]; rfl
  refine ⟨?_, ?_, hn⟩
  · cases t
    · rfl
    · simp only [signed, if_true] at h; omega
  · rintro rfl
    rw [Nat.zero_mul] at hn; omega
theorem rnd_ddiv {a b : UInt64} (ha : DFin a) (hb : DFin b) (hp : 0 < z b) : Rnd (z a * (PN 1074 : Int)) (z b).natAbs (ddiv a b) := by
  obtain ⟨s, c, q, h1⟩ := ha
  obtain ⟨t, d, r, h2⟩ := hb
  obtain ⟨rfl, hd0, hD⟩ := pos_sign h2 hp
  have hza : z a * (PN 1074 : Int) = signed s (inUnits c q b64.qmin * PN 1074) := by rw [z_fin h1, signed_mul]
  have hn : (z a * (PN 1074 : Int)).natAbs = inUnits c q b64.qmin * PN 1074 := by rw [hza, natAbs_signed]
  refine ⟨by omega, s, by rw [hn, hza], ?_⟩
  rw [val64_ddiv, h1, h2, hn, hD]
  simp only [quotient, if_neg hd0]
  rw [show (s != false) = s by cases s <;> rfl]
  refine roundRatio_congr (by omega) (Nat.mul_pos (by omega) (Nat.two_pow_pos _)) ?_
  have f1 := (DFin.fits h1).2.1
  have f2 := (DFin.fits h2).2.1
  unfold inUnits PN
  have := qm
  generalize hk : (1074 : Nat) = K at *
  calc c * (d * 2 ^ (r - b64.qmin).toNat) * 2 ^ (q - r - b64.qmin).toNat = c * d * 2 ^ ((r - b64.qmin).toNat + (q - r - b64.qmin).toNat) := by rw [Nat.pow_add]; ac_rfl
    _ = c * d * 2 ^ ((q - b64.qmin).toNat + K + (b64.qmin - (q - r)).toNat) := by congr 2; omega
    _ = _ := by rw [Nat.pow_add, Nat.pow_add]; ac_rfl
theorem rnd_l2d (v : Int64) : Rnd (v.toInt * (PN 1074 : Int)) 1 (l2d v) := by
  have hP := PN_posI 1074
  have hn : (v.toInt * (PN 1074 : Int)).natAbs = v.toInt.natAbs * PN 1074 := by rw [Int.natAbs_mul, Int.natAbs_natCast]
  refine ⟨by decide, decide (v.toInt < 0), ?_, ?_⟩
  · rw [hn, signed_mul]
    congr 1
    by_cases h : v.toInt < 0
    · simp only [signed, h, decide_true, if_true]; omega
    · simp only [signed, h, decide_false, Bool.false_eq_true, if_false]; omega
  · rw [val64_l2d, hn]
    show roundRatio b64 (decide (v.toInt < 0)) v.toInt.natAbs 1 0 = _
    refine roundRatio_congr (by decide) (by decide) ?_
    have := qm
    rw [show (0 - b64.qmin).toNat = 1074 by omega, show (b64.qmin - 0).toNat = 0 by omega]
    show v.toInt.natAbs * 1 * PN 1074 = v.toInt.natAbs * PN 1074 * 1 * 2 ^ 0
    rw [Nat.pow_zero, Nat.mul_one, Nat.mul_one, Nat.mul_one]
theorem i2d_l2d' (v : Int32) : i2d v = l2d v.toInt64 := i2d_l2d v
theorem rnd_i2d (v : Int32) : Rnd (v.toInt * (PN 1074 : Int)) 1 (i2d v) := by
  have h := rnd_l2d v.toInt64
  rw [Int32.toInt_toInt64] at h
  rw [i2d_l2d]; exact h
theorem Rnd.ne_nan {N : Int} {D : Nat} {r : UInt64} (h : Rnd N D r) : val64 r ≠ .nan := by
  obtain ⟨-, s, -, h⟩ := h
  rw [h]; exact roundRatio_ne_nan _ _ _ _ _
/-- the quotient alone counts -/
theorem Rnd.scale {N : Int} {D : Nat} {r : UInt64} (k : Nat) (hk : 0 < k) (h : Rnd (N * (k : Int)) (D * k) r) : Rnd N D r := by
  obtain ⟨hD, s, hs, hv⟩ := h
  have hD' : 0 < D := Nat.pos_of_mul_pos_right hD
  have hn : (N * (k : Int)).natAbs = N.natAbs * k := by rw [Int.natAbs_mul, Int.natAbs_natCast]
  refine ⟨hD', s, ?_, ?_⟩
  · rw [hn, signed_mul] at hs
    exact Int.eq_of_mul_eq_mul_right (by omega) hs
  · rw [hv, hn]
    refine roundRatio_congr hD hD' ?_
    simp only [Int.sub_self, Int.toNat_zero, Nat.pow_zero, Nat.mul_one]
    ac_rfl
theorem Rnd.up {N : Int} {D : Nat} {r : UInt64} (k : Nat) (hk : 0 < k) (h : Rnd N D r) : Rnd (N * (k : Int)) (D * k) r := by
  obtain ⟨hD, s, hs, hv⟩ := h
  have hn : (N * (k : Int)).natAbs = N.natAbs * k := by rw [Int.natAbs_mul, Int.natAbs_natCast]
  refine ⟨Nat.mul_pos hD hk, s, ?_, ?_⟩
  · rw [hn, signed_mul, hs]
  · rw [hv, hn]
    refine roundRatio_congr hD (Nat.mul_pos hD hk) ?_
    simp only [Int.sub_self, Int.toNat_zero, Nat.pow_zero, Nat.mul_one]
    ac_rfl
theorem Rnd.z_eq {N : Int} {D : Nat} {r : UInt64} {s : Bool} (h : val64 r = roundRatio b64 s N.natAbs D b64.qmin) : z r = signed s (zmag b64 (val64 r)) := by
  unfold z zval
  rw [show sgn (val64 r) = s by rw [h, sgn_roundRatio]]
theorem DFin.ne {a : UInt64} (h : DFin a) : val64 a ≠ .nan := h.ne_nan
theorem Rnd.le {N : Int} {D : Nat} {r V : UInt64} (h : Rnd N D r) (hV : DFin V) (hle : N ≤ z V * (D : Int)) : z r ≤ z V := by
  obtain ⟨hD, s, hs, hv⟩ := h
  have h1 := zmag_roundRatio_le good_b64 (s := s) (A := N.natAbs) (e := b64.qmin) (e0 := b64.qmin) hD (val64_fits V) hV.ne_nan (Int.le_refl _) (Int.le_refl _)
  have h2 := zmag_roundRatio_ge good_b64 (s := s) (A := N.natAbs) (e := b64.qmin) (e0 := b64.qmin) hD (val64_fits V) (Int.le_refl _) (Int.le_refl _)
  rw [← hv] at h1 h2
  have e1 : inUnits N.natAbs b64.qmin b64.qmin = N.natAbs := by simp [inUnits]
  rw [e1, Int.sub_self, Int.toNat_zero, Nat.pow_zero, Nat.mul_one] at h1 h2
  rw [Rnd.z_eq hv]
  have hzV : z V = signed (sgn (val64 V)) (zmag b64 (val64 V)) := rfl
  rw [hzV, ← signed_mul] at hle
  rw [hzV]
  have hz : zmag b64 (val64 V) * D = 0 → zmag b64 (val64 V) = 0 := by
    intro h
    rcases Nat.mul_eq_zero.mp h with h | h <;> omega
  generalize zmag b64 (val64 V) * D = vP at *
  generalize zmag b64 (val64 V) = v at *
  generalize zmag b64 (val64 r) = x at *
  generalize sgn (val64 V) = t at *
  cases s <;> cases t <;> simp only [signed, if_true, Bool.false_eq_true, if_false] at hle hs ⊢
  · have := h1 (by omega); omega
  · have := h1 (by omega); have := hz (by omega); omega
  · omega
  · have := h2 (by omega); omega
theorem Rnd.ge {N : Int} {D : Nat} {r V : UInt64} (h : Rnd N D r) (hV : DFin V) (hle : z V * (D : Int) ≤ N) : z V ≤ z r := by
  obtain ⟨hD, s, hs, hv⟩ := h
  have h1 := zmag_roundRatio_le good_b64 (s := s) (A := N.natAbs) (e := b64.qmin) (e0 := b64.qmin) hD (val64_fits V) hV.ne_nan (Int.le_refl _) (Int.le_refl _)
  have h2 := zmag_roundRatio_ge good_b64 (s := s) (A := N.natAbs) (e := b64.qmin) (e0 := b64.qmin) hD (val64_fits V) (Int.le_refl _) (Int.le_refl _)
  rw [← hv] at h1 h2
  have e1 : inUnits N.natAbs b64.qmin b64.qmin = N.natAbs := by simp [inUnits]
  rw [e1, Int.sub_self, Int.toNat_zero, Nat.pow_zero, Nat.mul_one] at h1 h2
  rw [Rnd.z_eq hv]
  have hzV : z V = signed (sgn (val64 V)) (zmag b64 (val64 V)) := rfl
  rw [hzV, ← signed_mul] at hle
  rw [hzV]
  have hz : zmag b64 (val64 V) * D = 0 → zmag b64 (val64 V) = 0 := by
    intro h
    rcases Nat.mul_eq_zero.mp h with h | h <;> omega
  generalize zmag b64 (val64 V) * D = vP at *
  generalize zmag b64 (val64 V) = v at *
  generalize zmag b64 (val64 r) = x at *
  generalize sgn (val64 V) = t at *
  cases s <;> cases t <;> simp only [signed, if_true, Bool.false_eq_true, if_false] at hle hs ⊢
  · have := h2 (by omega); omega
  · omega
  · have := h1 (by omega); have := hz (by omega); omega
  · have := h1 (by omega); omega
/-- a double between two finite ones is finite -/
theorem fin_between {r L H : UInt64} (hn : val64 r ≠ .nan) (hL : DFin L) (hH : DFin H) (h1 : z L ≤ z r) (h2 : z r ≤ z H) : DFin r := by
  obtain ⟨s, c, q, a1⟩ := hL
  obtain ⟨t, d, k, b1⟩ := hH
  have l1 := zmag_lt_top good_b64 (DFin.fits a1)
  have l2 := zmag_lt_top good_b64 (DFin.fits b1)
  rw [z_fin a1] at h1
  rw [z_fin b1] at h2
  cases hr : val64 r with
  | nan => exact absurd hr hn
  | fin s' c' q' => exact ⟨s', c', q', hr⟩
  | inf s' =>
    exfalso
    have hzr : z r = signed s' (b64.tails * 2 ^ (b64.exps - 2)) := by unfold z; rw [hr]; rfl
    rw [hzr] at h1 h2
    generalize b64.tails * 2 ^ (b64.exps - 2) = top at *
    generalize inUnits c q b64.qmin = u at *
    generalize inUnits d k b64.qmin = w at *
    cases s' <;> cases s <;> cases t <;> simp only [signed, if_true, Bool.false_eq_true, if_false] at h1 h2 <;> omega
/-- numbers of at most 53 digits are doubles -/
theorem rep (m : Int) (j : Nat) (hm : m.natAbs ≤ 2 ^ 53) (hj : j ≤ 2000) : ∃ V : UInt64, DFin V ∧ z V = m * (PN j : Int) := by
  have key : ∀ (m : Int) (j : Nat), m.natAbs < 2 ^ 53 → j ≤ 2001 → ∃ V : UInt64, DFin V ∧ z V = m * (PN j : Int) := by
    intro m j hm hj
    have hq : b64.qmin = -1074 := qm
    have hx : b64.qmax = 971 := by decide
    obtain ⟨c', q', h1, h2⟩ := round_exact good_b64 (decide (m < 0)) (c := m.natAbs) (q := (j : Int) - 1074) hm (by omega) (by omega)
    have hf := round_fits good_b64 (.fin (decide (m < 0)) m.natAbs ((j : Int) - 1074))
    refine ⟨of64 (round b64 (.fin (decide (m < 0)) m.natAbs ((j : Int) - 1074))), ⟨_, _, _, by rw [val64_of64 hf, h1]⟩, ?_⟩
    rw [z_fin (by rw [val64_of64 hf, h1]), h2]
    unfold inUnits
    rw [show ((j : Int) - 1074 - b64.qmin).toNat = j by omega, signed_mul]
    show signed (decide (m < 0)) m.natAbs * (PN j : Int) = m * (PN j : Int)
    congr 1
    by_cases h : m < 0
    · simp only [signed, h, decide_true, if_true]; omega
    · simp only [signed, h, decide_false, Bool.false_eq_true, if_false]; omega
  by_cases h : m.natAbs < 2 ^ 53
  · exact key m j h (by omega)
  · obtain ⟨V, hV, hz⟩ := key (m / 2) (j + 1) (by omega) (by omega)
    refine ⟨V, hV, ?_⟩
    have h2 : m = 2 * (m / 2) := by omega
    rw [hz, PN_addI, show (PN 1 : Int) = 2 from rfl]
    conv => rhs; rw [h2]
    generalize (PN j : Int) = P
    rw [Int.mul_comm P, ← Int.mul_assoc]
    congr 1
    exact Int.mul_comm _ _
theorem Rnd.fin_of {N : Int} {D : Nat} {r L H : UInt64} (h : Rnd N D r) (hL : DFin L) (hH : DFin H) (h1 : z L * (D : Int) ≤ N) (h2 : N ≤ z H * (D : Int)) : DFin r :=
  fin_between h.ne_nan hL hH (h.ge hL h1) (h.le hH h2)
/-- an exact quotient isn't rounded -/
theorem Rnd.exact {N : Int} {D : Nat} {r : UInt64} (h : Rnd N D r) (m : Int) (j : Nat) (hm : m.natAbs ≤ 2 ^ 53) (hj : j ≤ 2000) (hN : N = m * (PN j : Int) * (D : Int)) : DFin r ∧ z r = m * (PN j : Int) := by
  obtain ⟨V, hV, hz⟩ := rep m j hm hj
  have e : N = z V * (D : Int) := by rw [hz]; exact hN
  exact ⟨h.fin_of hV hV (by omega) (by omega), by have := h.le hV (by omega); have := h.ge hV (by omega); omega⟩
/-- off by less than g = 2^j, where the quotient is at most 2^53 g -/
theorem Rnd.near {N : Int} {D : Nat} {r : UInt64} (h : Rnd N D r) (j : Nat) (hj : j ≤ 2000) (h1 : -(2 ^ 53 * (PN j : Int) * (D : Int)) ≤ N) (h2 : N ≤ (2 ^ 53 - 1) * (PN j : Int) * (D : Int)) :
    DFin r ∧ N - (PN j : Int) * (D : Int) < z r * (D : Int) ∧ z r * (D : Int) < N + (PN j : Int) * (D : Int) := by
  have hD : 0 < D := h.1
  have hg : (0 : Int) < (PN j : Int) * (D : Int) := Int.mul_pos (PN_posI j) (by omega)
  have e1 := Int.mul_ediv_add_emod N ((PN j : Int) * (D : Int))
  have e2 := Int.emod_nonneg N (b := (PN j : Int) * (D : Int)) (by omega)
  have e3 := Int.emod_lt_of_pos N hg
  rw [Int.mul_assoc] at h1 h2
  have l1 : -(2 ^ 53) ≤ N / ((PN j : Int) * (D : Int)) := by
    refine (Int.le_ediv_iff_mul_le hg).mpr ?_
    rw [Int.neg_mul]; exact h1
  have l2 : N / ((PN j : Int) * (D : Int)) ≤ 2 ^ 53 - 1 := by
    refine Int.le_trans (Int.ediv_le_ediv hg h2) ?_
    rw [Int.mul_ediv_cancel _ (by omega)]; exact Int.le_refl _
  obtain ⟨L, hL, zL⟩ := rep (N / ((PN j : Int) * (D : Int))) j (by omega) hj
  obtain ⟨H, hH, zH⟩ := rep (N / ((PN j : Int) * (D : Int)) + 1) j (by omega) hj
  generalize N / ((PN j : Int) * (D : Int)) = m at *
  generalize N % ((PN j : Int) * (D : Int)) = t at *
  have c1 : z L * (D : Int) ≤ N := by
    rw [zL, Int.mul_assoc, Int.mul_comm m]; omega
  have c2 : N ≤ z H * (D : Int) := by
    rw [zH, Int.mul_assoc, Int.add_mul, Int.one_mul, Int.mul_comm m]; omega
  have c3 := Int.mul_le_mul_of_nonneg_right (h.ge hL c1) (c := (D : Int)) (by omega)
  have c4 := Int.mul_le_mul_of_nonneg_right (h.le hH c2) (c := (D : Int)) (by omega)
  refine ⟨h.fin_of hL hH c1 c2, ?_, ?_⟩
  · rw [zL, Int.mul_assoc, Int.mul_comm m] at c3; omega
  · rw [zH, Int.mul_assoc, Int.add_mul, Int.one_mul, Int.mul_comm m] at c4
    by_cases t0 : t = 0
    · have c5 := Int.mul_le_mul_of_nonneg_right (h.le hL (by rw [zL, Int.mul_assoc, Int.mul_comm m]; omega)) (c := (D : Int)) (by omega)
      rw [zL, Int.mul_assoc, Int.mul_comm m] at c5; omega
    · omega
theorem z_inj_zero {a : UInt64} (h : DFin a) : z a = 0 ↔ DZero a := by
  obtain ⟨s, c, q, h1⟩ := h
  rw [z_fin h1, signed_eq_zero]
  constructor
  · intro h
    have : c = 0 := by
      rcases Nat.mul_eq_zero.mp (show c * _ = 0 from h) with h | h
      · exact h
      · have := Nat.two_pow_pos (q - b64.qmin).toNat; omega
    exact ⟨s, q, this ▸ h1⟩
  · rintro ⟨s', q', h2⟩
    rw [h1] at h2
    cases h2
    exact Nat.zero_mul _
/-- nothing is nearer -/
theorem Rnd.nearest {N : Int} {D : Nat} {r V : UInt64} (h : Rnd N D r) (f : DFin r) (hV : DFin V) : (N - z r * (D : Int)).natAbs ≤ (N - z V * (D : Int)).natAbs := by
  obtain ⟨hD, s, hs, hv⟩ := h
  obtain ⟨s1, c, q, h1⟩ := f
  obtain ⟨t, c', q', h2⟩ := hV
  have f2 := DFin.fits h2
  rw [h1] at hv
  have hsg : s1 = s := by
    have := sgn_roundRatio b64 s N.natAbs D b64.qmin
    rw [← hv] at this; exact this
  subst hsg
  have d1 := roundRatio_nearest good_b64 hD hv.symm f2.1 f2.2.1 (Int.le_refl b64.qmin) (Int.le_refl b64.qmin)
  have d0 := roundRatio_nearest good_b64 (c' := 0) (q' := b64.qmin) hD hv.symm (Nat.two_pow_pos _) (Int.le_refl _) (Int.le_refl b64.qmin) (Int.le_refl b64.qmin)
  unfold distance at d1 d0
  have e1 : inUnits N.natAbs b64.qmin b64.qmin = N.natAbs := by simp [inUnits]
  have e0 : inUnits 0 b64.qmin b64.qmin = 0 := by simp [inUnits]
  rw [e1] at d1 d0
  rw [e0] at d0
  rw [z_fin h1, z_fin h2]
  generalize inUnits c q b64.qmin = u at *
  generalize inUnits c' q' b64.qmin = w at *
  generalize N.natAbs = A at *
  subst hs
  rw [← signed_mul, ← signed_mul]
  rw [← Int.natCast_mul] at d1 d0
  rw [← Int.natCast_mul] at d1 d0
  generalize u * D = X at *
  generalize w * D = Y at *
  cases s1 <;> cases t <;> simp only [signed, if_true, Bool.false_eq_true, if_false] <;> omega
theorem Rnd.same' {X : Int} {P : Nat} {r r' : UInt64} (h : Rnd X P r) (h' : Rnd X P r') : z r = z r' := by
  obtain ⟨hD, s, hs, hv⟩ := h
  obtain ⟨-, s', hs', hv'⟩ := h'
  by_cases e : s = s'
  · subst e
    unfold z; rw [hv, hv']
  · have h0 : X.natAbs = 0 := by
      clear hv hv'
      generalize X.natAbs = A at *
      cases s <;> cases s' <;> simp only [signed, if_true, Bool.false_eq_true, if_false] at hs hs' <;> first | omega | exact absurd rfl e
    have k : ∀ (s : Bool) (r : UInt64), val64 r = roundRatio b64 s X.natAbs P b64.qmin → z r = 0 := by
      intro s r hr
      rw [h0] at hr
      unfold roundRatio at hr
      rw [if_pos rfl] at hr
      rw [z_fin hr, signed_eq_zero]
      exact Nat.zero_mul _
    rw [k s r hv, k s' r' hv']
theorem Rnd.same {N N' : Int} {D D' : Nat} {r r' : UInt64} (h : Rnd N D r) (h' : Rnd N' D' r') (e : N * (D' : Int) = N' * (D : Int)) : z r = z r' := by
  have a := h.up D' h'.1
  have b := h'.up D h.1
  rw [← e, Nat.mul_comm] at b
  exact Rnd.same' a b
/-- rounding keeps the order -/
theorem Rnd.mono {N N' : Int} {D D' : Nat} {r r' : UInt64} (h : Rnd N D r) (h' : Rnd N' D' r') (f : DFin r) (f' : DFin r') (hle : N * (D' : Int) ≤ N' * (D : Int)) : z r ≤ z r' := by
  refine Int.le_of_not_gt fun hlt => ?_
  have hD := h.1
  have hD' := h'.1
  have n1 := h.nearest f f'
  have n2 := h'.nearest f' f
  have a1 : z r' * (D : Int) < N := Int.lt_of_not_ge fun q => by have := h.le f' q; omega
  have a2 : N' < z r * (D' : Int) := Int.lt_of_not_ge fun q => by have := h'.ge f q; omega
  have b1 : N < z r * (D : Int) := by
    have c1 := Int.mul_lt_mul_of_pos_right a2 (c := (D : Int)) (by omega)
    have c2 : N * (D' : Int) < z r * (D : Int) * (D' : Int) := by rw [Int.mul_right_comm]; omega
    exact Int.lt_of_mul_lt_mul_right c2 (by omega)
  have b2 : z r' * (D' : Int) < N' := by
    have c1 := Int.mul_lt_mul_of_pos_right a1 (c := (D' : Int)) (by omega)
    have c2 : z r' * (D' : Int) * (D : Int) < N' * (D : Int) := by rw [Int.mul_right_comm]; omega
    exact Int.lt_of_mul_lt_mul_right c2 (by omega)
  have m1 : z r * (D : Int) + z r' * (D : Int) ≤ 2 * N := by omega
  have m2 : 2 * N' ≤ z r * (D' : Int) + z r' * (D' : Int) := by omega
  have k1 := Int.mul_le_mul_of_nonneg_right m1 (c := (D' : Int)) (by omega)
  have k2 := Int.mul_le_mul_of_nonneg_right m2 (c := (D : Int)) (by omega)
  rw [Int.add_mul, Int.mul_assoc] at k1
  rw [Int.add_mul, Int.mul_assoc] at k2
  rw [Int.mul_right_comm (z r), Int.mul_right_comm (z r')] at k2
  rw [← Int.mul_assoc] at k1 k2
  have e : N * (D' : Int) = N' * (D : Int) := by
    rw [Int.mul_assoc 2] at k1
    have k2' : 2 * (N' * (D : Int)) ≤ z r * (D : Int) * (D' : Int) + z r' * (D : Int) * (D' : Int) := by
      rw [← Int.mul_assoc]; omega
    have k1' : z r * (D : Int) * (D' : Int) + z r' * (D : Int) * (D' : Int) ≤ 2 * (N * (D' : Int)) := by
      omega
    omega
  have := h.same h' e
  omega
/-! comparisons -/
theorem nn {a : UInt64} (h : DFin a) : NoNaN64 a := (fin64_core.mpr h).noNaN
theorem cmp_z {a b : UInt64} (ha : DFin a) (hb : DFin b) : Jvm.FP.dcmp a b = some (compare (z a) (z b)) := dcmp_zval ha.ne_nan hb.ne_nan
theorem cmp_lt {a b : UInt64} (ha : DFin a) (hb : DFin b) (h : z a < z b) (o : Jvm.ClassFile.CmpOp) : Jvm.Op.cmpValue (Jvm.FP.dcmp a b) o = -1 := by
  rw [cmp_z ha hb, (compare_lt_iff _ _).mpr h]; rfl
theorem cmp_eq {a b : UInt64} (ha : DFin a) (hb : DFin b) (h : z a = z b) (o : Jvm.ClassFile.CmpOp) : Jvm.Op.cmpValue (Jvm.FP.dcmp a b) o = 0 := by
  rw [cmp_z ha hb, (compare_eq_iff _ _).mpr h]; rfl
theorem cmp_gt {a b : UInt64} (ha : DFin a) (hb : DFin b) (h : z b < z a) (o : Jvm.ClassFile.CmpOp) : Jvm.Op.cmpValue (Jvm.FP.dcmp a b) o = 1 := by
  rw [cmp_z ha hb, (compare_gt_iff _ _).mpr h]; rfl
/-! whole numbers -/
theorem z_i2d (v : Int32) : DFin (i2d v) ∧ z (i2d v) = v.toInt * (PN 1074 : Int) := by
  have h1 := Int32.toInt_lt v
  have h2 := Int32.le_toInt v
  exact (rnd_i2d v).exact v.toInt 1074 (by omega) (by omega) (by simp)
theorem z_l2d {v : Int64} (h : v.toInt.natAbs ≤ 2 ^ 53) : DFin (l2d v) ∧ z (l2d v) = v.toInt * (PN 1074 : Int) :=
  (rnd_l2d v).exact v.toInt 1074 h (by omega) (by simp)
theorem fin_zero : DFin (0 : UInt64) := (fin_bits 0).mpr (by decide)
theorem z_zero : z (0 : UInt64) = 0 := by decide +kernel
theorem fin_one : DFin (4607182418800017408 : UInt64) := (fin_bits _).mpr (by decide)
theorem z_one : z (4607182418800017408 : UInt64) = (PN 1074 : Int) := by decide +kernel
end Jvm.Own

/-! OwnRel: what a branch asks, in whole numbers. -/
namespace Jvm.Own
open Jvm.ClassFile Jvm.Op
def rel : Jvm.ClassFile.Cond → Int → Int → Bool
  | .eq, a, b => decide (a = b)
  | .ne, a, b => decide (¬ a = b)
  | .lt, a, b => decide (a < b)
  | .ge, a, b => decide (b ≤ a)
  | .gt, a, b => decide (b < a)
  | .le, a, b => decide (a ≤ b)
theorem holdsII (cd : Jvm.ClassFile.Cond) (x y : Int32) : if_icmp.holds cd x y = rel cd x.toInt y.toInt := by
  have e : (x = y) ↔ (x.toInt = y.toInt) := Int32.toInt_inj.symm
  cases cd
  · show (x == y) = decide (x.toInt = y.toInt)
    rw [Bool.eq_iff_iff, beq_iff_eq, decide_eq_true_iff]; exact e
  · show (x != y) = decide (¬ x.toInt = y.toInt)
    rw [Bool.eq_iff_iff, bne_iff_ne, decide_eq_true_iff]; exact not_congr e
  all_goals
    simp only [if_icmp.holds, rel, GE.ge, GT.gt]
    rw [Bool.eq_iff_iff, decide_eq_true_iff, decide_eq_true_iff]
    first | exact Int32.lt_iff_toInt_lt | exact Int32.le_iff_toInt_le
theorem holdsI (cd : Jvm.ClassFile.Cond) (x : Int32) : ifCond.holds cd x = rel cd x.toInt 0 := by
  rw [Jvm.RoadKit.if0, holdsII]; rfl
theorem holdsL (cd : Jvm.ClassFile.Cond) (x y : Int64) : ifCond.holds cd (Jvm.RoadKit.lcmpW x y) = rel cd x.toInt y.toInt := by
  have h := Jvm.RoadKit.c_lcmp x y
  rw [holdsI]
  rcases Int.lt_trichotomy x.toInt y.toInt with q | q | q
  · rw [h.1 q]; cases cd <;> simp [rel] <;> omega
  · rw [h.2.1 q]; cases cd <;> simp [rel] <;> omega
  · rw [h.2.2 q]; cases cd <;> simp [rel] <;> omega
theorem holdsD {a b : UInt64} (ha : Jvm.FP.Core.DFin a) (hb : Jvm.FP.Core.DFin b) (cd : Jvm.ClassFile.Cond) (o : CmpOp) : ifCond.holds cd (Jvm.Op.cmpValue (Jvm.FP.dcmp a b) o) = rel cd (z a) (z b) := by
  rw [holdsI]
  rcases Int.lt_trichotomy (z a) (z b) with q | q | q
  · rw [cmp_lt ha hb q]; cases cd <;> simp [rel] <;> omega
  · rw [cmp_eq ha hb q]; cases cd <;> simp [rel] <;> omega
  · rw [cmp_gt ha hb q]; cases cd <;> simp [rel] <;> omega
theorem dT {p : Prop} [Decidable p] (h : p) : decide p = true := decide_eq_true h
theorem dF {p : Prop} [Decidable p] (h : ¬ p) : decide p = false := decide_eq_false h
theorem dup2X1 {tb : Tables} [Ours tb] {e : Env} {below : List Frame} {T target : State} {m : MethodId} {c : Code} {g : JFrame} (h : At T m c below) (hx : tb.exec = Jvm.exec) (hg : g.method = m) {x : Int64} {y : Value} {rest : List Value} (hd : decode c.code g.pc = .ok (.dup2_x1, 1)) (hs : g.stack = .long x :: y :: rest) (hc : y.category = 1)
    (hr : Steps tb e below (T.setTop { g with pc := g.pc + 1, stack := .long x :: y :: .long x :: rest }) target) : Steps tb e below (T.setTop g) target := by
  subst hg
  jvm_step h [h.top, hx, hd, hs, hc]
  exact hr
theorem irem_mod (x y : Int32) : x - (x / y) * y = x % y := by
  apply Int32.toInt_inj.mp
  have h1 := Int32.le_toInt (x % y)
  have h2 := Int32.toInt_lt (x % y)
  rw [Int32.toInt_sub, Int32.toInt_mul, Int32.toInt_div, Int.bmod_mul_bmod, Int.sub_bmod_bmod, Int.mul_comm (x.toInt.tdiv y.toInt), ← Int.tmod_def, ← Int32.toInt_mod]
  exact Int.bmod_eq_of_le_mul_two (by omega) (by omega)
end Jvm.Own

namespace Jvm.Pilot.@@N@@
open Jvm Jvm.ClassFile Sem Op Lib Jvm.Free Jvm.Stand Jvm.LawKit Jvm.RoadKit Bundle Jvm.Pilot.@@N@@.Jvm.D

theorem d1_0 : decode prog_50_method_2_code 0 = .ok (.dload_n 0, 1) := by decide +kernel
theorem d1_1 : decode prog_50_method_2_code 1 = .ok (.dconst 0, 1) := by decide +kernel
theorem d1_2 : decode prog_50_method_2_code 2 = .ok (.dcmp .l, 1) := by decide +kernel
theorem d1_3 : decode prog_50_method_2_code 3 = .ok (.ifCond .lt 13, 3) := by decide +kernel
theorem d1_6 : decode prog_50_method_2_code 6 = .ok (.dload_n 0, 1) := by decide +kernel
theorem d1_7 : decode prog_50_method_2_code 7 = .ok (.dconst 1, 1) := by decide +kernel
theorem d1_8 : decode prog_50_method_2_code 8 = .ok (.dcmp .g, 1) := by decide +kernel
theorem d1_9 : decode prog_50_method_2_code 9 = .ok (.ifCond .ge 7, 3) := by decide +kernel
theorem d1_12 : decode prog_50_method_2_code 12 = .ok (.iconst 1, 1) := by decide +kernel
theorem d1_13 : decode prog_50_method_2_code 13 = .ok (.goto 4, 3) := by decide +kernel
theorem d1_16 : decode prog_50_method_2_code 16 = .ok (.iconst 0, 1) := by decide +kernel
theorem d1_17 : decode prog_50_method_2_code 17 = .ok (.ireturn, 1) := by decide +kernel
theorem pd_0 : parseMethodDescriptor "(D)Z" = some ⟨[.double], some .boolean⟩ := by decide +kernel
theorem pn_0 : plainName "com/example/gaithersburg/gaithersburg/graph/PageRank" = true := by first | (simp [plainName, overriddenIn]; done) | decide +kernel
theorem pn_1 : plainName "com/example/gaithersburg/gaithersburg/graph/PageRankIsValidDampingPinLaw" = true := by first | (simp [plainName, overriddenIn]; done) | decide +kernel
theorem ef_rm1 (m : MethodId) (d : UInt64) : entryFrame m #[(.double d)] 2 = mkF m 0 #[.val (.double d), .second] [] := by first | (simp [entryFrame, mkF, argsToLocals, Value.category]; done) | rfl
set_option maxRecDepth 65536 in
set_option maxHeartbeats 40000000 in
theorem rm1 (l : Launch) (Z : State) (a0 : Array Value) (hw : ∀ d ∈ tables_1, d.before a0 Z = true) (ws : List Jvm.Cond) (d : UInt64) (h0 : Heap) (n0 : Nat) (Z0 : n0 ≤ h0.size) (r : Int32) (hd : Jvm.FP.Core.DFin d) (hr : (Jvm.Own.z d < 0 ∧ r = 0) ∨ (0 ≤ Jvm.Own.z d ∧ Jvm.Own.z (4607182418800017408 : UInt64) ≤ Jvm.Own.z d ∧ r = 0) ∨ (0 ≤ Jvm.Own.z d ∧ Jvm.Own.z d < Jvm.Own.z (4607182418800017408 : UInt64) ∧ r = 1)) :
    MetFree l (⟨"com/example/gaithersburg/gaithersburg/graph/PageRank", "isValidDamping", "(D)Z"⟩ : MethodName) (head1 (Jvm.Cond.code (⟨"com/example/gaithersburg/gaithersburg/graph/PageRank", "isValidDamping", "(D)Z"⟩ : MethodName) prog_50_method_2_code 2 (some .boolean) :: ws) ({ frames := 0, cells := 0, slots := 0, locals := 0 } : Room)) (fun a U => a = #[(.double d)] ∧ Z.Warmed39 U.vm ∧ U.heap = h0) (fun _ _ _ _ _ => True) (fun _ U o U' => ∃ v L, o = .returned v ∧ QP (.int r) h0 n0 v U'.heap L ∧ FrameEnd U o U' L ({ frames := 0, cells := 0, slots := 0, locals := 0 } : Room).cells ({ frames := 0, cells := 0, slots := 0, locals := 0 } : Room).slots) := by
  refine MetFree.of_bodySF (plainFor_of_name pn_0) hisR ?_
  intro p e s m args below meth c s₁ Bd hml0 hP hK
  obtain ⟨rfl, hZ, hh⟩ := hP
  have hx := Bd.exec
  have hby := Bd.bytes
  have hml : c.maxLocals = 2 := hml0
  have hown : s.vm.findClass "com/example/gaithersburg/gaithersburg/graph/PageRank" = some m.cls := findClass_of_methodNamed Bd.named
  have hnm := (name_of_methodNamed Bd.named Bd.method).1
  have X0 : Stand p l e ({ frames := 0, cells := 0, slots := 0, locals := 0 } : Room) s m #[(.double d)] below meth c s₁ [] 0 0 := Stand.of_body Bd
  have e0 : s₁.heap = h0 := by rw [← hh, Bd.state]; rfl
  have N0 := Fr.nil n0
  have pre0 : ∀ t, Steps p.tables e below (s₁.setTop (mkF m 0 #[.val (.double d), .second] [])) t → Steps p.tables e below (s₁.setTop (entryFrame m #[(.double d)] 2)) t := fun t_ k_ => castTop (ef_rm1 m d) k_
  have hz0 : Jvm.Own.z 0 = 0 := Jvm.Own.z_zero
  rcases hr with ⟨q1, rfl⟩ | ⟨q1, q2, rfl⟩ | ⟨q1, q2, rfl⟩
  · obtain ⟨fs, hr, hrun, hended, hW, hsame⟩ := X0.leave (v := some (.int (0 : Int32))) (fun h => by rw [Bd.returns] at h; cases h)
    refine ⟨_, _, pre0 _ ?_, hrun, hended, _, _, rfl, ?_, ⟨_, rfl⟩, hW, hsame.mono (by decide) (by decide)⟩
    · show Steps p.tables e below (s₁.setTop (mkF m 0 #[.val (.double d), .second] [])) _
      refine XS.dloadN X0.here hx rfl (hb hby d1_0) rfl ?_
      show Steps p.tables e below (s₁.setTop (mkF m 1 #[.val (.double d), .second] [(.double d)])) _
      refine XS.dconst0 X0.here hx rfl (hb hby d1_1) (v := (0 : UInt64)) rfl ?_
      show Steps p.tables e below (s₁.setTop (mkF m 2 #[.val (.double d), .second] [(.double (0 : UInt64)), (.double d)])) _
      refine XS.dcmpS X0.here hx rfl (hb hby d1_2) rfl (v := Jvm.Op.cmpValue (FP.dcmp d (0 : UInt64)) .l) rfl ?_
      show Steps p.tables e below (s₁.setTop (mkF m 3 #[.val (.double d), .second] [(.int (Jvm.Op.cmpValue (FP.dcmp d (0 : UInt64)) .l))])) _
      refine XS.ifYes X0.here hx rfl (pc0 := 3) (pc' := 16) rfl (hb hby d1_3) rfl ((Jvm.Own.holdsD hd Jvm.Own.fin_zero _ _).trans (Jvm.Own.dT (by omega))) (by decide) (by decide) ?_
      show Steps p.tables e below (s₁.setTop (mkF m 16 #[.val (.double d), .second] [])) _
      refine XS.iconst X0.here hx rfl (hb hby d1_16) ?_
      show Steps p.tables e below (s₁.setTop (mkF m 17 #[.val (.double d), .second] [(.int (0 : Int32))])) _
      exact retN X0 hx (t := .boolean) Bd.returns (by simp) (hb hby d1_17) hr
    · show QP (.int (0 : Int32)) h0 n0 _ s₁.heap _
      rw [e0]
      exact ⟨rfl, N0, rfl⟩
  · obtain ⟨fs, hr, hrun, hended, hW, hsame⟩ := X0.leave (v := some (.int (0 : Int32))) (fun h => by rw [Bd.returns] at h; cases h)
    refine ⟨_, _, pre0 _ ?_, hrun, hended, _, _, rfl, ?_, ⟨_, rfl⟩, hW, hsame.mono (by decide) (by decide)⟩
    · show Steps p.tables e below (s₁.setTop (mkF m 0 #[.val (.double d), .second] [])) _
      refine XS.dloadN X0.here hx rfl (hb hby d1_0) rfl ?_
      show Steps p.tables e below (s₁.setTop (mkF m 1 #[.val (.double d), .second] [(.double d)])) _
      refine XS.dconst0 X0.here hx rfl (hb hby d1_1) (v := (0 : UInt64)) rfl ?_
      show Steps p.tables e below (s₁.setTop (mkF m 2 #[.val (.double d), .second] [(.double (0 : UInt64)), (.double d)])) _
      refine XS.dcmpS X0.here hx rfl (hb hby d1_2) rfl (v := Jvm.Op.cmpValue (FP.dcmp d (0 : UInt64)) .l) rfl ?_
      show Steps p.tables e below (s₁.setTop (mkF m 3 #[.val (.double d), .second] [(.int (Jvm.Op.cmpValue (FP.dcmp d (0 : UInt64)) .l))])) _
      refine XS.ifNo X0.here hx rfl (hb hby d1_3) rfl ((Jvm.Own.holdsD hd Jvm.Own.fin_zero _ _).trans (Jvm.Own.dF (by omega))) ?_
      show Steps p.tables e below (s₁.setTop (mkF m 6 #[.val (.double d), .second] [])) _
      refine XS.dloadN X0.here hx rfl (hb hby d1_6) rfl ?_
      show Steps p.tables e below (s₁.setTop (mkF m 7 #[.val (.double d), .second] [(.double d)])) _
      refine XS.dconst1 X0.here hx rfl (hb hby d1_7) (v := (4607182418800017408 : UInt64)) rfl ?_
      show Steps p.tables e below (s₁.setTop (mkF m 8 #[.val (.double d), .second] [(.double (4607182418800017408 : UInt64)), (.double d)])) _
      refine XS.dcmpS X0.here hx rfl (hb hby d1_8) rfl (v := Jvm.Op.cmpValue (FP.dcmp d (4607182418800017408 : UInt64)) .g) rfl ?_
      show Steps p.tables e below (s₁.setTop (mkF m 9 #[.val (.double d), .second] [(.int (Jvm.Op.cmpValue (FP.dcmp d (4607182418800017408 : UInt64)) .g))])) _
      refine XS.ifYes X0.here hx rfl (pc0 := 9) (pc' := 16) rfl (hb hby d1_9) rfl ((Jvm.Own.holdsD hd Jvm.Own.fin_one _ _).trans (Jvm.Own.dT (by omega))) (by decide) (by decide) ?_
      show Steps p.tables e below (s₁.setTop (mkF m 16 #[.val (.double d), .second] [])) _
      refine XS.iconst X0.here hx rfl (hb hby d1_16) ?_
      show Steps p.tables e below (s₁.setTop (mkF m 17 #[.val (.double d), .second] [(.int (0 : Int32))])) _
      exact retN X0 hx (t := .boolean) Bd.returns (by simp) (hb hby d1_17) hr
    · show QP (.int (0 : Int32)) h0 n0 _ s₁.heap _
      rw [e0]
      exact ⟨rfl, N0, rfl⟩
  · obtain ⟨fs, hr, hrun, hended, hW, hsame⟩ := X0.leave (v := some (.int (1 : Int32))) (fun h => by rw [Bd.returns] at h; cases h)
    refine ⟨_, _, pre0 _ ?_, hrun, hended, _, _, rfl, ?_, ⟨_, rfl⟩, hW, hsame.mono (by decide) (by decide)⟩
    · show Steps p.tables e below (s₁.setTop (mkF m 0 #[.val (.double d), .second] [])) _
      refine XS.dloadN X0.here hx rfl (hb hby d1_0) rfl ?_
      show Steps p.tables e below (s₁.setTop (mkF m 1 #[.val (.double d), .second] [(.double d)])) _
      refine XS.dconst0 X0.here hx rfl (hb hby d1_1) (v := (0 : UInt64)) rfl ?_
      show Steps p.tables e below (s₁.setTop (mkF m 2 #[.val (.double d), .second] [(.double (0 : UInt64)), (.double d)])) _
      refine XS.dcmpS X0.here hx rfl (hb hby d1_2) rfl (v := Jvm.Op.cmpValue (FP.dcmp d (0 : UInt64)) .l) rfl ?_
      show Steps p.tables e below (s₁.setTop (mkF m 3 #[.val (.double d), .second] [(.int (Jvm.Op.cmpValue (FP.dcmp d (0 : UInt64)) .l))])) _
      refine XS.ifNo X0.here hx rfl (hb hby d1_3) rfl ((Jvm.Own.holdsD hd Jvm.Own.fin_zero _ _).trans (Jvm.Own.dF (by omega))) ?_
      show Steps p.tables e below (s₁.setTop (mkF m 6 #[.val (.double d), .second] [])) _
      refine XS.dloadN X0.here hx rfl (hb hby d1_6) rfl ?_
      show Steps p.tables e below (s₁.setTop (mkF m 7 #[.val (.double d), .second] [(.double d)])) _
      refine XS.dconst1 X0.here hx rfl (hb hby d1_7) (v := (4607182418800017408 : UInt64)) rfl ?_
      show Steps p.tables e below (s₁.setTop (mkF m 8 #[.val (.double d), .second] [(.double (4607182418800017408 : UInt64)), (.double d)])) _
      refine XS.dcmpS X0.here hx rfl (hb hby d1_8) rfl (v := Jvm.Op.cmpValue (FP.dcmp d (4607182418800017408 : UInt64)) .g) rfl ?_
      show Steps p.tables e below (s₁.setTop (mkF m 9 #[.val (.double d), .second] [(.int (Jvm.Op.cmpValue (FP.dcmp d (4607182418800017408 : UInt64)) .g))])) _
      refine XS.ifNo X0.here hx rfl (hb hby d1_9) rfl ((Jvm.Own.holdsD hd Jvm.Own.fin_one _ _).trans (Jvm.Own.dF (by omega))) ?_
      show Steps p.tables e below (s₁.setTop (mkF m 12 #[.val (.double d), .second] [])) _
      refine XS.iconst X0.here hx rfl (hb hby d1_12) ?_
      show Steps p.tables e below (s₁.setTop (mkF m 13 #[.val (.double d), .second] [(.int (1 : Int32))])) _
      refine XS.goto X0.here hx rfl (pc0 := 13) (pc' := 17) rfl (hb hby d1_13) (by decide) (by decide) ?_
      show Steps p.tables e below (s₁.setTop (mkF m 17 #[.val (.double d), .second] [(.int (1 : Int32))])) _
      exact retN X0 hx (t := .boolean) Bd.returns (by simp) (hb hby d1_17) hr
    · show QP (.int (1 : Int32)) h0 n0 _ s₁.heap _
      rw [e0]
      exact ⟨rfl, N0, rfl⟩

theorem own_sh (k : Int32) : ∃ j : Nat, j ≤ 62 ∧ ((k &&& (63 : Int32)) - ((k &&& (63 : Int32)) / (63 : Int32)) * (63 : Int32)).toInt = (j : Int) := by
  have h1 := c_mask k 63 6 (by decide) (by decide)
  have h2 := (c_irem (k &&& (63 : Int32)) 63 63 (by decide)).1
  rw [Jvm.Own.irem_mod]
  have h3 : (0 : Int) ≤ (k &&& (63 : Int32)).toInt := by rw [h1]; omega
  have h4 := h2 h3
  rw [h4]
  exact ⟨((k &&& (63 : Int32)).toInt % 63).toNat, by omega, by omega⟩
theorem own_sc (sh : Int32) (j : Nat) (hj : j ≤ 62) (h : sh.toInt = (j : Int)) : ((1 : Int64) <<< (sh &&& 0x3f).toInt64).toInt = (Jvm.Own.PN j : Int) := by
  have hb : sh.toBitVec.toNat % 64 = j := by
    have e : sh.toInt = sh.toBitVec.toInt := rfl
    rw [e, BitVec.toInt_eq_toNat_cond] at h
    have := sh.toBitVec.isLt
    split at h <;> omega
  have h1 := c_lshl 1 sh j hb
  have h2 := rng64 ((1 : Int64) <<< (sh &&& 0x3f).toInt64)
  have h3 : (1 : Int64).toInt = 1 := by decide
  have h4 : (2 : Nat) ^ j ≤ 2 ^ 62 := Nat.pow_le_pow_right (by decide) hj
  have h5 := Nat.two_pow_pos j
  rw [h3] at h1
  show _ = ((2 ^ j : Nat) : Int)
  generalize (2 : Nat) ^ j = P at *
  omega
theorem own_d (n : Int32) (sc : Int64) (j : Nat) (hj : j ≤ 62) (hsc : sc.toInt = (Jvm.Own.PN j : Int)) : Jvm.FP.Core.DFin (FP.l2d sc) ∧ 0 < Jvm.Own.z (FP.l2d sc) ∧ Jvm.FP.Core.DFin (FP.ddiv (FP.i2d n) (FP.l2d sc)) ∧ Jvm.Own.z (FP.ddiv (FP.i2d n) (FP.l2d sc)) = n.toInt * (Jvm.Own.PN (1074 - j) : Int) := by
  have hn := Int32.toInt_lt n
  have hn' := Int32.le_toInt n
  obtain ⟨f1, z1⟩ := Jvm.Own.z_i2d n
  obtain ⟨f2, z2⟩ := (Jvm.Own.rnd_l2d sc).exact 1 (1074 + j) (by decide) (by omega) (by rw [hsc, Jvm.Own.PN_addI, Int.one_mul]; simp [Int.mul_comm])
  have p2 := Jvm.Own.PN_posI (1074 + j)
  have hp : 0 < Jvm.Own.z (FP.Core.l2d sc) := by rw [z2]; omega
  have hr := Jvm.Own.rnd_ddiv f1 f2 hp
  have hD : ((Jvm.Own.z (FP.Core.l2d sc)).natAbs : Int) = (Jvm.Own.PN (1074 + j) : Int) := by rw [z2]; omega
  obtain ⟨f3, z3⟩ := hr.exact n.toInt (1074 - j) (by omega) (by omega) (by
    rw [hD, z1, Int.mul_assoc, Int.mul_assoc, ← Jvm.Own.PN_addI, ← Jvm.Own.PN_addI]
    congr 3; omega)
  exact ⟨f2, hp, f3, z3⟩

theorem ef_rm0 (m : MethodId) (n : Int32) (k : Int32) (fl : Int32) : entryFrame m #[(.int n), (.int k), (.int fl)] maxLocals = mkF m 0 #[.val (.int n), .val (.int k), .val (.int fl), .unset, .unset, .unset, .unset, .unset, .unset, .unset, .unset, .unset] [] := by first | (simp [entryFrame, mkF, argsToLocals, Value.category, maxLocals]; done) | rfl
set_option maxRecDepth 65536 in
set_option maxHeartbeats 40000000 in
theorem rm0 (l : Launch) (Z : State) (a0 : Array Value) (hw : ∀ d ∈ tables_1, d.before a0 Z = true) (ws : List Jvm.Cond) (n : Int32) (k : Int32) (fl : Int32) (h0 : Heap) (n0 : Nat) (Z0 : n0 ≤ h0.size)  :
    MetFree l x (head1 (Jvm.Cond.code x code maxLocals ret :: ws) room_1) (fun a U => a = #[(.int n), (.int k), (.int fl)] ∧ Z.Warmed39 U.vm ∧ U.heap = h0) (fun _ _ _ _ _ => True) (fun _ U o U' => ∃ v L, o = .returned v ∧ QL n0 v U'.heap L ∧ FrameEnd U o U' L room_1.cells room_1.slots) := by
  refine MetFree.of_bodySF (plainFor_of_name pn_1) hisR ?_
  intro p e s m args below meth c s₁ Bd hml0 hP hK
  obtain ⟨rfl, hZ, hh⟩ := hP
  have hx := Bd.exec
  have hby := Bd.bytes
  have hml : c.maxLocals = 12 := hml0
  have hown : s.vm.findClass "com/example/gaithersburg/gaithersburg/graph/PageRankIsValidDampingPinLaw" = some m.cls := findClass_of_methodNamed Bd.named
  have hnm := (name_of_methodNamed Bd.named Bd.method).1
  have X0 : Stand p l e room_1 s m #[(.int n), (.int k), (.int fl)] below meth c s₁ [] 0 0 := Stand.of_body Bd
  have e0 : s₁.heap = h0 := by rw [← hh, Bd.state]; rfl
  have N0 := Fr.nil n0
  have pre0 : ∀ t, Steps p.tables e below (s₁.setTop (mkF m 0 #[.val (.int n), .val (.int k), .val (.int fl), .unset, .unset, .unset, .unset, .unset, .unset, .unset, .unset, .unset] [])) t → Steps p.tables e below (s₁.setTop (entryFrame m #[(.int n), (.int k), (.int fl)] maxLocals)) t := fun t_ k_ => castTop (ef_rm0 m n k fl) k_
  obtain ⟨sh, hsh⟩ : ∃ v, (k &&& (63 : Int32)) - ((k &&& (63 : Int32)) / (63 : Int32)) * (63 : Int32) = v := ⟨_, rfl⟩
  obtain ⟨j, hj, hj2⟩ := own_sh k
  rw [hsh] at hj2
  have hsc0 := own_sc sh j hj hj2
  obtain ⟨sc, hsc⟩ : ∃ v, (1 : Int64) <<< (sh &&& 0x3f).toInt64 = v := ⟨_, rfl⟩
  rw [hsc] at hsc0
  obtain ⟨f1, p1, f2, z2⟩ := own_d n sc j hj hsc0
  obtain ⟨d, hd⟩ : ∃ v, FP.ddiv (FP.i2d n) (FP.l2d sc) = v := ⟨_, rfl⟩
  rw [hd] at f2 z2
  have hn := Int32.toInt_lt n
  have hn' := Int32.le_toInt n
  have zo := Jvm.Own.z_one
  have hP : (Jvm.Own.PN 1074 : Int) = (Jvm.Own.PN j : Int) * (Jvm.Own.PN (1074 - j) : Int) := by rw [← Jvm.Own.PN_addI]; congr 2; omega
  have hQ := Jvm.Own.PN_posI (1074 - j)
  have hnn : Jvm.Free.Fl.NoNaN64 (FP.ddiv (FP.i2d n) (FP.l2d sc)) := by rw [hd]; exact Jvm.Own.nn f2
  have key : ∀ (w : Int) (x : UInt64), Jvm.Own.z x = w * (Jvm.Own.PN (1074 - j) : Int) → (w < 0 → Jvm.Own.z x < 0) ∧ (0 ≤ w → 0 ≤ Jvm.Own.z x) ∧ ((Jvm.Own.PN j : Int) ≤ w → Jvm.Own.z (4607182418800017408 : UInt64) ≤ Jvm.Own.z x) ∧ (w < (Jvm.Own.PN j : Int) → Jvm.Own.z x < Jvm.Own.z (4607182418800017408 : UInt64)) := by
    intro w x hw
    rw [hw, zo, hP]
    exact ⟨fun h => Int.mul_neg_of_neg_of_pos h hQ, fun h => Int.mul_nonneg h (Int.le_of_lt hQ), fun h => Int.mul_le_mul_of_nonneg_right h (Int.le_of_lt hQ), fun h => Int.mul_lt_mul_of_pos_right h hQ⟩
  by_cases hf : (fl &&& (1 : Int32)).toInt = 0
  · obtain ⟨k1, k2, k3, k4⟩ := key n.toInt d z2
    have hm : n.toInt64.toInt = n.toInt := c_i2l n
    by_cases c1 : n.toInt < 0
    · obtain ⟨_, _, ⟨T1, L1, k1, n1⟩, -, X1, ⟨Lc1, hQ1, l1, y1, z1⟩, st1⟩ := Jvm.LawKit.callS X0 hx (y := (⟨"com/example/gaithersburg/gaithersburg/graph/PageRank", "isValidDamping", "(D)Z"⟩ : MethodName)) hown (mvT hZ (hw _ (List.mem_of_getElem? (i := 0) rfl))) (mvT hZ (hw _ (List.mem_of_getElem? (i := 1) rfl))) (mvT hZ (hw _ (List.mem_of_getElem? (i := 2) rfl))) (mvT hZ (hw _ (List.mem_of_getElem? (i := 3) rfl))) (by decide) (backOf (W := 0) (rm1 l Z a0 hw [] d h0 n0 Z0 (0 : Int32) f2 (Or.inl ⟨k1 c1, rfl⟩)) hZ (hw _ (List.mem_of_getElem? (i := 3) rfl)) (hw _ (List.mem_of_getElem? (i := 2) rfl)) (by decide) (by decide)) (g := (mkF m 83 #[.val (.int n), .val (.int k), .val (.int fl), .val (.int sh), .val (.long sc), .second, .val (.int (0 : Int32)), .val (.long n.toInt64), .second, .val (.double d), .second, .val (.int (0 : Int32))] [(.double d)])) rfl (by rw [hml]; rfl) (argsL := [(.double d)]) (rest := []) (lenOf pd_0 rfl) rfl (by show 2 * 0 + _ ≤ _; exact Nat.le_of_eq rfl) (hb hby at_83) (fun _ _ => ⟨rfl, e0, (by decide : 0 + 0 ≤ _), (by decide : 0 + 0 ≤ _)⟩)
      dsimp only [Pt.U, Pt.locs, Pt.cells, Pt.slots] at X1 l1 y1 z1 st1 hQ1
      subst l1 y1 z1
      obtain ⟨rfl, N1, e1⟩ := hQ1
      obtain ⟨fs, hr, hrun, hended, hW, hsame⟩ := X1.leave (v := some (.int (1 : Int32))) (fun h => by rw [Bd.returns] at h; cases h)
      refine ⟨_, _, pre0 _ ?_, hrun, hended, _, _, rfl, ?_, ⟨_, rfl⟩, hW, hsame.mono (by decide) (by decide)⟩
      · show Steps p.tables e below (s₁.setTop (mkF m 0 #[.val (.int n), .val (.int k), .val (.int fl), .unset, .unset, .unset, .unset, .unset, .unset, .unset, .unset, .unset] [])) _
        refine XS.iloadN X0.here hx rfl (hb hby at_0) rfl ?_
        show Steps p.tables e below (s₁.setTop (mkF m 1 #[.val (.int n), .val (.int k), .val (.int fl), .unset, .unset, .unset, .unset, .unset, .unset, .unset, .unset, .unset] [(.int k)])) _
        refine XS.bipush X0.here hx rfl (hb hby at_1) ?_
        show Steps p.tables e below (s₁.setTop (mkF m 3 #[.val (.int n), .val (.int k), .val (.int fl), .unset, .unset, .unset, .unset, .unset, .unset, .unset, .unset, .unset] [(.int (63 : Int32)), (.int k)])) _
        refine XS.iand X0.here hx rfl (hb hby at_3) rfl ?_
        show Steps p.tables e below (s₁.setTop (mkF m 4 #[.val (.int n), .val (.int k), .val (.int fl), .unset, .unset, .unset, .unset, .unset, .unset, .unset, .unset, .unset] [(.int (k &&& (63 : Int32)))])) _
        refine XS.bipush X0.here hx rfl (hb hby at_4) ?_
        show Steps p.tables e below (s₁.setTop (mkF m 6 #[.val (.int n), .val (.int k), .val (.int fl), .unset, .unset, .unset, .unset, .unset, .unset, .unset, .unset, .unset] [(.int (63 : Int32)), (.int (k &&& (63 : Int32)))])) _
        refine XS.irem X0.here hx rfl (hb hby at_6) rfl (by decide) ?_
        rw [hsh]
        show Steps p.tables e below (s₁.setTop (mkF m 7 #[.val (.int n), .val (.int k), .val (.int fl), .unset, .unset, .unset, .unset, .unset, .unset, .unset, .unset, .unset] [(.int sh)])) _
        refine XS.istoreN X0.here hx rfl (hb hby at_7) rfl (l' := #[.val (.int n), .val (.int k), .val (.int fl), .val (.int sh), .unset, .unset, .unset, .unset, .unset, .unset, .unset, .unset]) rfl ?_
        show Steps p.tables e below (s₁.setTop (mkF m 8 #[.val (.int n), .val (.int k), .val (.int fl), .val (.int sh), .unset, .unset, .unset, .unset, .unset, .unset, .unset, .unset] [])) _
        refine XS.lconst X0.here hx rfl (hb hby at_8) ?_
        show Steps p.tables e below (s₁.setTop (mkF m 9 #[.val (.int n), .val (.int k), .val (.int fl), .val (.int sh), .unset, .unset, .unset, .unset, .unset, .unset, .unset, .unset] [(.long (1 : Int64))])) _
        refine XS.iloadN X0.here hx rfl (hb hby at_9) rfl ?_
        show Steps p.tables e below (s₁.setTop (mkF m 10 #[.val (.int n), .val (.int k), .val (.int fl), .val (.int sh), .unset, .unset, .unset, .unset, .unset, .unset, .unset, .unset] [(.int sh), (.long (1 : Int64))])) _
        refine XS.lshl X0.here hx rfl (hb hby at_10) rfl ?_
        rw [hsc]
        show Steps p.tables e below (s₁.setTop (mkF m 11 #[.val (.int n), .val (.int k), .val (.int fl), .val (.int sh), .unset, .unset, .unset, .unset, .unset, .unset, .unset, .unset] [(.long sc)])) _
        refine XS.lstore X0.here hx rfl (hb hby at_11) rfl (l' := #[.val (.int n), .val (.int k), .val (.int fl), .val (.int sh), .val (.long sc), .second, .unset, .unset, .unset, .unset, .unset, .unset]) rfl ?_
        show Steps p.tables e below (s₁.setTop (mkF m 13 #[.val (.int n), .val (.int k), .val (.int fl), .val (.int sh), .val (.long sc), .second, .unset, .unset, .unset, .unset, .unset, .unset] [])) _
        refine XS.iloadN X0.here hx rfl (hb hby at_13) rfl ?_
        show Steps p.tables e below (s₁.setTop (mkF m 14 #[.val (.int n), .val (.int k), .val (.int fl), .val (.int sh), .val (.long sc), .second, .unset, .unset, .unset, .unset, .unset, .unset] [(.int fl)])) _
        refine XS.iconst X0.here hx rfl (hb hby at_14) ?_
        show Steps p.tables e below (s₁.setTop (mkF m 15 #[.val (.int n), .val (.int k), .val (.int fl), .val (.int sh), .val (.long sc), .second, .unset, .unset, .unset, .unset, .unset, .unset] [(.int (1 : Int32)), (.int fl)])) _
        refine XS.iand X0.here hx rfl (hb hby at_15) rfl ?_
        show Steps p.tables e below (s₁.setTop (mkF m 16 #[.val (.int n), .val (.int k), .val (.int fl), .val (.int sh), .val (.long sc), .second, .unset, .unset, .unset, .unset, .unset, .unset] [(.int (fl &&& (1 : Int32)))])) _
        refine XS.ifYes X0.here hx rfl (pc0 := 16) (pc' := 23) rfl (hb hby at_16) rfl ((Jvm.Own.holdsI _ _).trans (Jvm.Own.dT hf)) (by decide) (by decide) ?_
        show Steps p.tables e below (s₁.setTop (mkF m 23 #[.val (.int n), .val (.int k), .val (.int fl), .val (.int sh), .val (.long sc), .second, .unset, .unset, .unset, .unset, .unset, .unset] [])) _
        refine XS.iconst X0.here hx rfl (hb hby at_23) ?_
        show Steps p.tables e below (s₁.setTop (mkF m 24 #[.val (.int n), .val (.int k), .val (.int fl), .val (.int sh), .val (.long sc), .second, .unset, .unset, .unset, .unset, .unset, .unset] [(.int (0 : Int32))])) _
        refine XS.istore X0.here hx rfl (hb hby at_24) rfl (l' := #[.val (.int n), .val (.int k), .val (.int fl), .val (.int sh), .val (.long sc), .second, .val (.int (0 : Int32)), .unset, .unset, .unset, .unset, .unset]) rfl ?_
        show Steps p.tables e below (s₁.setTop (mkF m 26 #[.val (.int n), .val (.int k), .val (.int fl), .val (.int sh), .val (.long sc), .second, .val (.int (0 : Int32)), .unset, .unset, .unset, .unset, .unset] [])) _
        refine XS.iload X0.here hx rfl (hb hby at_26) rfl ?_
        show Steps p.tables e below (s₁.setTop (mkF m 28 #[.val (.int n), .val (.int k), .val (.int fl), .val (.int sh), .val (.long sc), .second, .val (.int (0 : Int32)), .unset, .unset, .unset, .unset, .unset] [(.int (0 : Int32))])) _
        refine XS.ifYes X0.here hx rfl (pc0 := 28) (pc' := 37) rfl (hb hby at_28) rfl rfl (by decide) (by decide) ?_
        show Steps p.tables e below (s₁.setTop (mkF m 37 #[.val (.int n), .val (.int k), .val (.int fl), .val (.int sh), .val (.long sc), .second, .val (.int (0 : Int32)), .unset, .unset, .unset, .unset, .unset] [])) _
        refine XS.iloadN X0.here hx rfl (hb hby at_37) rfl ?_
        show Steps p.tables e below (s₁.setTop (mkF m 38 #[.val (.int n), .val (.int k), .val (.int fl), .val (.int sh), .val (.long sc), .second, .val (.int (0 : Int32)), .unset, .unset, .unset, .unset, .unset] [(.int n)])) _
        refine XS.i2l X0.here hx rfl (hb hby at_38) rfl ?_
        show Steps p.tables e below (s₁.setTop (mkF m 39 #[.val (.int n), .val (.int k), .val (.int fl), .val (.int sh), .val (.long sc), .second, .val (.int (0 : Int32)), .unset, .unset, .unset, .unset, .unset] [(.long n.toInt64)])) _
        refine XS.lstore X0.here hx rfl (hb hby at_39) rfl (l' := #[.val (.int n), .val (.int k), .val (.int fl), .val (.int sh), .val (.long sc), .second, .val (.int (0 : Int32)), .val (.long n.toInt64), .second, .unset, .unset, .unset]) rfl ?_
        show Steps p.tables e below (s₁.setTop (mkF m 41 #[.val (.int n), .val (.int k), .val (.int fl), .val (.int sh), .val (.long sc), .second, .val (.int (0 : Int32)), .val (.long n.toInt64), .second, .unset, .unset, .unset] [])) _
        refine XS.iloadN X0.here hx rfl (hb hby at_41) rfl ?_
        show Steps p.tables e below (s₁.setTop (mkF m 42 #[.val (.int n), .val (.int k), .val (.int fl), .val (.int sh), .val (.long sc), .second, .val (.int (0 : Int32)), .val (.long n.toInt64), .second, .unset, .unset, .unset] [(.int n)])) _
        refine XS.i2dS X0.here hx rfl (hb hby at_42) rfl (v := FP.i2d n) rfl ?_
        show Steps p.tables e below (s₁.setTop (mkF m 43 #[.val (.int n), .val (.int k), .val (.int fl), .val (.int sh), .val (.long sc), .second, .val (.int (0 : Int32)), .val (.long n.toInt64), .second, .unset, .unset, .unset] [(.double (FP.i2d n))])) _
        refine XS.lload X0.here hx rfl (hb hby at_43) rfl ?_
        show Steps p.tables e below (s₁.setTop (mkF m 45 #[.val (.int n), .val (.int k), .val (.int fl), .val (.int sh), .val (.long sc), .second, .val (.int (0 : Int32)), .val (.long n.toInt64), .second, .unset, .unset, .unset] [(.long sc), (.double (FP.i2d n))])) _
        refine XS.l2dS X0.here hx rfl (hb hby at_45) rfl (v := FP.l2d sc) rfl ?_
        show Steps p.tables e below (s₁.setTop (mkF m 46 #[.val (.int n), .val (.int k), .val (.int fl), .val (.int sh), .val (.long sc), .second, .val (.int (0 : Int32)), .val (.long n.toInt64), .second, .unset, .unset, .unset] [(.double (FP.l2d sc)), (.double (FP.i2d n))])) _
        refine XS.ddivS X0.here hx rfl (hb hby at_46) rfl hnn (v := d) hd ?_
        show Steps p.tables e below (s₁.setTop (mkF m 47 #[.val (.int n), .val (.int k), .val (.int fl), .val (.int sh), .val (.long sc), .second, .val (.int (0 : Int32)), .val (.long n.toInt64), .second, .unset, .unset, .unset] [(.double d)])) _
        refine XS.dstore X0.here hx rfl (hb hby at_47) rfl (l' := #[.val (.int n), .val (.int k), .val (.int fl), .val (.int sh), .val (.long sc), .second, .val (.int (0 : Int32)), .val (.long n.toInt64), .second, .val (.double d), .second, .unset]) rfl ?_
        show Steps p.tables e below (s₁.setTop (mkF m 49 #[.val (.int n), .val (.int k), .val (.int fl), .val (.int sh), .val (.long sc), .second, .val (.int (0 : Int32)), .val (.long n.toInt64), .second, .val (.double d), .second, .unset] [])) _
        refine XS.iload X0.here hx rfl (hb hby at_49) rfl ?_
        show Steps p.tables e below (s₁.setTop (mkF m 51 #[.val (.int n), .val (.int k), .val (.int fl), .val (.int sh), .val (.long sc), .second, .val (.int (0 : Int32)), .val (.long n.toInt64), .second, .val (.double d), .second, .unset] [(.int (0 : Int32))])) _
        refine XS.ifYes X0.here hx rfl (pc0 := 51) (pc' := 59) rfl (hb hby at_51) rfl rfl (by decide) (by decide) ?_
        show Steps p.tables e below (s₁.setTop (mkF m 59 #[.val (.int n), .val (.int k), .val (.int fl), .val (.int sh), .val (.long sc), .second, .val (.int (0 : Int32)), .val (.long n.toInt64), .second, .val (.double d), .second, .unset] [])) _
        refine XS.lload X0.here hx rfl (hb hby at_59) rfl ?_
        show Steps p.tables e below (s₁.setTop (mkF m 61 #[.val (.int n), .val (.int k), .val (.int fl), .val (.int sh), .val (.long sc), .second, .val (.int (0 : Int32)), .val (.long n.toInt64), .second, .val (.double d), .second, .unset] [(.long n.toInt64)])) _
        refine XS.lconst X0.here hx rfl (hb hby at_61) ?_
        show Steps p.tables e below (s₁.setTop (mkF m 62 #[.val (.int n), .val (.int k), .val (.int fl), .val (.int sh), .val (.long sc), .second, .val (.int (0 : Int32)), .val (.long n.toInt64), .second, .val (.double d), .second, .unset] [(.long (0 : Int64)), (.long n.toInt64)])) _
        refine XS.lcmp X0.here hx rfl (hb hby at_62) rfl ?_
        show Steps p.tables e below (s₁.setTop (mkF m 63 #[.val (.int n), .val (.int k), .val (.int fl), .val (.int sh), .val (.long sc), .second, .val (.int (0 : Int32)), .val (.long n.toInt64), .second, .val (.double d), .second, .unset] [(.int (lcmpW n.toInt64 (0 : Int64)))])) _
        refine XS.ifYes X0.here hx rfl (pc0 := 63) (pc' := 78) rfl (hb hby at_63) rfl ((Jvm.Own.holdsL _ _ _).trans (Jvm.Own.dT (by rw [hm]; exact c1))) (by decide) (by decide) ?_
        show Steps p.tables e below (s₁.setTop (mkF m 78 #[.val (.int n), .val (.int k), .val (.int fl), .val (.int sh), .val (.long sc), .second, .val (.int (0 : Int32)), .val (.long n.toInt64), .second, .val (.double d), .second, .unset] [])) _
        refine XS.iconst X0.here hx rfl (hb hby at_78) ?_
        show Steps p.tables e below (s₁.setTop (mkF m 79 #[.val (.int n), .val (.int k), .val (.int fl), .val (.int sh), .val (.long sc), .second, .val (.int (0 : Int32)), .val (.long n.toInt64), .second, .val (.double d), .second, .unset] [(.int (0 : Int32))])) _
        refine XS.istore X0.here hx rfl (hb hby at_79) rfl (l' := #[.val (.int n), .val (.int k), .val (.int fl), .val (.int sh), .val (.long sc), .second, .val (.int (0 : Int32)), .val (.long n.toInt64), .second, .val (.double d), .second, .val (.int (0 : Int32))]) rfl ?_
        show Steps p.tables e below (s₁.setTop (mkF m 81 #[.val (.int n), .val (.int k), .val (.int fl), .val (.int sh), .val (.long sc), .second, .val (.int (0 : Int32)), .val (.long n.toInt64), .second, .val (.double d), .second, .val (.int (0 : Int32))] [])) _
        refine XS.dload X0.here hx rfl (hb hby at_81) rfl ?_
        show Steps p.tables e below (s₁.setTop (mkF m 83 #[.val (.int n), .val (.int k), .val (.int fl), .val (.int sh), .val (.long sc), .second, .val (.int (0 : Int32)), .val (.long n.toInt64), .second, .val (.double d), .second, .val (.int (0 : Int32))] [(.double d)])) _
        refine st1 _ ?_
        show Steps p.tables e below (T1.setTop (mkF m 86 #[.val (.int n), .val (.int k), .val (.int fl), .val (.int sh), .val (.long sc), .second, .val (.int (0 : Int32)), .val (.long n.toInt64), .second, .val (.double d), .second, .val (.int (0 : Int32))] [(.int (0 : Int32))])) _
        refine XS.iload X1.here hx rfl (hb hby at_86) rfl ?_
        show Steps p.tables e below (T1.setTop (mkF m 88 #[.val (.int n), .val (.int k), .val (.int fl), .val (.int sh), .val (.long sc), .second, .val (.int (0 : Int32)), .val (.long n.toInt64), .second, .val (.double d), .second, .val (.int (0 : Int32))] [(.int (0 : Int32)), (.int (0 : Int32))])) _
        refine XS.icmpNo X1.here hx rfl (hb hby at_88) rfl rfl ?_
        show Steps p.tables e below (T1.setTop (mkF m 91 #[.val (.int n), .val (.int k), .val (.int fl), .val (.int sh), .val (.long sc), .second, .val (.int (0 : Int32)), .val (.long n.toInt64), .second, .val (.double d), .second, .val (.int (0 : Int32))] [])) _
        refine XS.iconst X1.here hx rfl (hb hby at_91) ?_
        show Steps p.tables e below (T1.setTop (mkF m 92 #[.val (.int n), .val (.int k), .val (.int fl), .val (.int sh), .val (.long sc), .second, .val (.int (0 : Int32)), .val (.long n.toInt64), .second, .val (.double d), .second, .val (.int (0 : Int32))] [(.int (1 : Int32))])) _
        refine XS.goto X1.here hx rfl (pc0 := 92) (pc' := 96) rfl (hb hby at_92) (by decide) (by decide) ?_
        show Steps p.tables e below (T1.setTop (mkF m 96 #[.val (.int n), .val (.int k), .val (.int fl), .val (.int sh), .val (.long sc), .second, .val (.int (0 : Int32)), .val (.long n.toInt64), .second, .val (.double d), .second, .val (.int (0 : Int32))] [(.int (1 : Int32))])) _
        exact retN X1 hx (t := .boolean) Bd.returns (by simp) (hb hby at_96) hr
      · show QL n0 _ T1.heap _
        exact ⟨rfl, Fr.app N0 N1⟩
    · by_cases c2 : (Jvm.Own.PN j : Int) ≤ n.toInt
      · obtain ⟨_, _, ⟨T1, L1, k1, n1⟩, -, X1, ⟨Lc1, hQ1, l1, y1, z1⟩, st1⟩ := Jvm.LawKit.callS X0 hx (y := (⟨"com/example/gaithersburg/gaithersburg/graph/PageRank", "isValidDamping", "(D)Z"⟩ : MethodName)) hown (mvT hZ (hw _ (List.mem_of_getElem? (i := 0) rfl))) (mvT hZ (hw _ (List.mem_of_getElem? (i := 1) rfl))) (mvT hZ (hw _ (List.mem_of_getElem? (i := 2) rfl))) (mvT hZ (hw _ (List.mem_of_getElem? (i := 3) rfl))) (by decide) (backOf (W := 0) (rm1 l Z a0 hw [] d h0 n0 Z0 (0 : Int32) f2 (Or.inr (Or.inl ⟨k2 (by omega), k3 c2, rfl⟩))) hZ (hw _ (List.mem_of_getElem? (i := 3) rfl)) (hw _ (List.mem_of_getElem? (i := 2) rfl)) (by decide) (by decide)) (g := (mkF m 83 #[.val (.int n), .val (.int k), .val (.int fl), .val (.int sh), .val (.long sc), .second, .val (.int (0 : Int32)), .val (.long n.toInt64), .second, .val (.double d), .second, .val (.int (0 : Int32))] [(.double d)])) rfl (by rw [hml]; rfl) (argsL := [(.double d)]) (rest := []) (lenOf pd_0 rfl) rfl (by show 2 * 0 + _ ≤ _; exact Nat.le_of_eq rfl) (hb hby at_83) (fun _ _ => ⟨rfl, e0, (by decide : 0 + 0 ≤ _), (by decide : 0 + 0 ≤ _)⟩)
        dsimp only [Pt.U, Pt.locs, Pt.cells, Pt.slots] at X1 l1 y1 z1 st1 hQ1
        subst l1 y1 z1
        obtain ⟨rfl, N1, e1⟩ := hQ1
        obtain ⟨fs, hr, hrun, hended, hW, hsame⟩ := X1.leave (v := some (.int (1 : Int32))) (fun h => by rw [Bd.returns] at h; cases h)
        refine ⟨_, _, pre0 _ ?_, hrun, hended, _, _, rfl, ?_, ⟨_, rfl⟩, hW, hsame.mono (by decide) (by decide)⟩
        · show Steps p.tables e below (s₁.setTop (mkF m 0 #[.val (.int n), .val (.int k), .val (.int fl), .unset, .unset, .unset, .unset, .unset, .unset, .unset, .unset, .unset] [])) _
          refine XS.iloadN X0.here hx rfl (hb hby at_0) rfl ?_
          show Steps p.tables e below (s₁.setTop (mkF m 1 #[.val (.int n), .val (.int k), .val (.int fl), .unset, .unset, .unset, .unset, .unset, .unset, .unset, .unset, .unset] [(.int k)])) _
          refine XS.bipush X0.here hx rfl (hb hby at_1) ?_
          show Steps p.tables e below (s₁.setTop (mkF m 3 #[.val (.int n), .val (.int k), .val (.int fl), .unset, .unset, .unset, .unset, .unset, .unset, .unset, .unset, .unset] [(.int (63 : Int32)), (.int k)])) _
          refine XS.iand X0.here hx rfl (hb hby at_3) rfl ?_
          show Steps p.tables e below (s₁.setTop (mkF m 4 #[.val (.int n), .val (.int k), .val (.int fl), .unset, .unset, .unset, .unset, .unset, .unset, .unset, .unset, .unset] [(.int (k &&& (63 : Int32)))])) _
          refine XS.bipush X0.here hx rfl (hb hby at_4) ?_
          show Steps p.tables e below (s₁.setTop (mkF m 6 #[.val (.int n), .val (.int k), .val (.int fl), .unset, .unset, .unset, .unset, .unset, .unset, .unset, .unset, .unset] [(.int (63 : Int32)), (.int (k &&& (63 : Int32)))])) _
          refine XS.irem X0.here hx rfl (hb hby at_6) rfl (by decide) ?_
          rw [hsh]
          show Steps p.tables e below (s₁.setTop (mkF m 7 #[.val (.int n), .val (.int k), .val (.int fl), .unset, .unset, .unset, .unset, .unset, .unset, .unset, .unset, .unset] [(.int sh)])) _
          refine XS.istoreN X0.here hx rfl (hb hby at_7) rfl (l' := #[.val (.int n), .val (.int k), .val (.int fl), .val (.int sh), .unset, .unset, .unset, .unset, .unset, .unset, .unset, .unset]) rfl ?_
          show Steps p.tables e below (s₁.setTop (mkF m 8 #[.val (.int n), .val (.int k), .val (.int fl), .val (.int sh), .unset, .unset, .unset, .unset, .unset, .unset, .unset, .unset] [])) _
          refine XS.lconst X0.here hx rfl (hb hby at_8) ?_
          show Steps p.tables e below (s₁.setTop (mkF m 9 #[.val (.int n), .val (.int k), .val (.int fl), .val (.int sh), .unset, .unset, .unset, .unset, .unset, .unset, .unset, .unset] [(.long (1 : Int64))])) _
          refine XS.iloadN X0.here hx rfl (hb hby at_9) rfl ?_
          show Steps p.tables e below (s₁.setTop (mkF m 10 #[.val (.int n), .val (.int k), .val (.int fl), .val (.int sh), .unset, .unset, .unset, .unset, .unset, .unset, .unset, .unset] [(.int sh), (.long (1 : Int64))])) _
          refine XS.lshl X0.here hx rfl (hb hby at_10) rfl ?_
          rw [hsc]
          show Steps p.tables e below (s₁.setTop (mkF m 11 #[.val (.int n), .val (.int k), .val (.int fl), .val (.int sh), .unset, .unset, .unset, .unset, .unset, .unset, .unset, .unset] [(.long sc)])) _
          refine XS.lstore X0.here hx rfl (hb hby at_11) rfl (l' := #[.val (.int n), .val (.int k), .val (.int fl), .val (.int sh), .val (.long sc), .second, .unset, .unset, .unset, .unset, .unset, .unset]) rfl ?_
          show Steps p.tables e below (s₁.setTop (mkF m 13 #[.val (.int n), .val (.int k), .val (.int fl), .val (.int sh), .val (.long sc), .second, .unset, .unset, .unset, .unset, .unset, .unset] [])) _
          refine XS.iloadN X0.here hx rfl (hb hby at_13) rfl ?_
          show Steps p.tables e below (s₁.setTop (mkF m 14 #[.val (.int n), .val (.int k), .val (.int fl), .val (.int sh), .val (.long sc), .second, .unset, .unset, .unset, .unset, .unset, .unset] [(.int fl)])) _
          refine XS.iconst X0.here hx rfl (hb hby at_14) ?_
          show Steps p.tables e below (s₁.setTop (mkF m 15 #[.val (.int n), .val (.int k), .val (.int fl), .val (.int sh), .val (.long sc), .second, .unset, .unset, .unset, .unset, .unset, .unset] [(.int (1 : Int32)), (.int fl)])) _
          refine XS.iand X0.here hx rfl (hb hby at_15) rfl ?_
          show Steps p.tables e below (s₁.setTop (mkF m 16 #[.val (.int n), .val (.int k), .val (.int fl), .val (.int sh), .val (.long sc), .second, .unset, .unset, .unset, .unset, .unset, .unset] [(.int (fl &&& (1 : Int32)))])) _
          refine XS.ifYes X0.here hx rfl (pc0 := 16) (pc' := 23) rfl (hb hby at_16) rfl ((Jvm.Own.holdsI _ _).trans (Jvm.Own.dT hf)) (by decide) (by decide) ?_
          show Steps p.tables e below (s₁.setTop (mkF m 23 #[.val (.int n), .val (.int k), .val (.int fl), .val (.int sh), .val (.long sc), .second, .unset, .unset, .unset, .unset, .unset, .unset] [])) _
          refine XS.iconst X0.here hx rfl (hb hby at_23) ?_
          show Steps p.tables e below (s₁.setTop (mkF m 24 #[.val (.int n), .val (.int k), .val (.int fl), .val (.int sh), .val (.long sc), .second, .unset, .unset, .unset, .unset, .unset, .unset] [(.int (0 : Int32))])) _
          refine XS.istore X0.here hx rfl (hb hby at_24) rfl (l' := #[.val (.int n), .val (.int k), .val (.int fl), .val (.int sh), .val (.long sc), .second, .val (.int (0 : Int32)), .unset, .unset, .unset, .unset, .unset]) rfl ?_
          show Steps p.tables e below (s₁.setTop (mkF m 26 #[.val (.int n), .val (.int k), .val (.int fl), .val (.int sh), .val (.long sc), .second, .val (.int (0 : Int32)), .unset, .unset, .unset, .unset, .unset] [])) _
          refine XS.iload X0.here hx rfl (hb hby at_26) rfl ?_
          show Steps p.tables e below (s₁.setTop (mkF m 28 #[.val (.int n), .val (.int k), .val (.int fl), .val (.int sh), .val (.long sc), .second, .val (.int (0 : Int32)), .unset, .unset, .unset, .unset, .unset] [(.int (0 : Int32))])) _
          refine XS.ifYes X0.here hx rfl (pc0 := 28) (pc' := 37) rfl (hb hby at_28) rfl rfl (by decide) (by decide) ?_
          show Steps p.tables e below (s₁.setTop (mkF m 37 #[.val (.int n), .val (.int k), .val (.int fl), .val (.int sh), .val (.long sc), .second, .val (.int (0 : Int32)), .unset, .unset, .unset, .unset, .unset] [])) _
          refine XS.iloadN X0.here hx rfl (hb hby at_37) rfl ?_
          show Steps p.tables e below (s₁.setTop (mkF m 38 #[.val (.int n), .val (.int k), .val (.int fl), .val (.int sh), .val (.long sc), .second, .val (.int (0 : Int32)), .unset, .unset, .unset, .unset, .unset] [(.int n)])) _
          refine XS.i2l X0.here hx rfl (hb hby at_38) rfl ?_
          show Steps p.tables e below (s₁.setTop (mkF m 39 #[.val (.int n), .val (.int k), .val (.int fl), .val (.int sh), .val (.long sc), .second, .val (.int (0 : Int32)), .unset, .unset, .unset, .unset, .unset] [(.long n.toInt64)])) _
          refine XS.lstore X0.here hx rfl (hb hby at_39) rfl (l' := #[.val (.int n), .val (.int k), .val (.int fl), .val (.int sh), .val (.long sc), .second, .val (.int (0 : Int32)), .val (.long n.toInt64), .second, .unset, .unset, .unset]) rfl ?_
          show Steps p.tables e below (s₁.setTop (mkF m 41 #[.val (.int n), .val (.int k), .val (.int fl), .val (.int sh), .val (.long sc), .second, .val (.int (0 : Int32)), .val (.long n.toInt64), .second, .unset, .unset, .unset] [])) _
          refine XS.iloadN X0.here hx rfl (hb hby at_41) rfl ?_
          show Steps p.tables e below (s₁.setTop (mkF m 42 #[.val (.int n), .val (.int k), .val (.int fl), .val (.int sh), .val (.long sc), .second, .val (.int (0 : Int32)), .val (.long n.toInt64), .second, .unset, .unset, .unset] [(.int n)])) _
          refine XS.i2dS X0.here hx rfl (hb hby at_42) rfl (v := FP.i2d n) rfl ?_
          show Steps p.tables e below (s₁.setTop (mkF m 43 #[.val (.int n), .val (.int k), .val (.int fl), .val (.int sh), .val (.long sc), .second, .val (.int (0 : Int32)), .val (.long n.toInt64), .second, .unset, .unset, .unset] [(.double (FP.i2d n))])) _
          refine XS.lload X0.here hx rfl (hb hby at_43) rfl ?_
          show Steps p.tables e below (s₁.setTop (mkF m 45 #[.val (.int n), .val (.int k), .val (.int fl), .val (.int sh), .val (.long sc), .second, .val (.int (0 : Int32)), .val (.long n.toInt64), .second, .unset, .unset, .unset] [(.long sc), (.double (FP.i2d n))])) _
          refine XS.l2dS X0.here hx rfl (hb hby at_45) rfl (v := FP.l2d sc) rfl ?_
          show Steps p.tables e below (s₁.setTop (mkF m 46 #[.val (.int n), .val (.int k), .val (.int fl), .val (.int sh), .val (.long sc), .second, .val (.int (0 : Int32)), .val (.long n.toInt64), .second, .unset, .unset, .unset] [(.double (FP.l2d sc)), (.double (FP.i2d n))])) _
          refine XS.ddivS X0.here hx rfl (hb hby at_46) rfl hnn (v := d) hd ?_
          show Steps p.tables e below (s₁.setTop (mkF m 47 #[.val (.int n), .val (.int k), .val (.int fl), .val (.int sh), .val (.long sc), .second, .val (.int (0 : Int32)), .val (.long n.toInt64), .second, .unset, .unset, .unset] [(.double d)])) _
          refine XS.dstore X0.here hx rfl (hb hby at_47) rfl (l' := #[.val (.int n), .val (.int k), .val (.int fl), .val (.int sh), .val (.long sc), .second, .val (.int (0 : Int32)), .val (.long n.toInt64), .second, .val (.double d), .second, .unset]) rfl ?_
          show Steps p.tables e below (s₁.setTop (mkF m 49 #[.val (.int n), .val (.int k), .val (.int fl), .val (.int sh), .val (.long sc), .second, .val (.int (0 : Int32)), .val (.long n.toInt64), .second, .val (.double d), .second, .unset] [])) _
          refine XS.iload X0.here hx rfl (hb hby at_49) rfl ?_
          show Steps p.tables e below (s₁.setTop (mkF m 51 #[.val (.int n), .val (.int k), .val (.int fl), .val (.int sh), .val (.long sc), .second, .val (.int (0 : Int32)), .val (.long n.toInt64), .second, .val (.double d), .second, .unset] [(.int (0 : Int32))])) _
          refine XS.ifYes X0.here hx rfl (pc0 := 51) (pc' := 59) rfl (hb hby at_51) rfl rfl (by decide) (by decide) ?_
          show Steps p.tables e below (s₁.setTop (mkF m 59 #[.val (.int n), .val (.int k), .val (.int fl), .val (.int sh), .val (.long sc), .second, .val (.int (0 : Int32)), .val (.long n.toInt64), .second, .val (.double d), .second, .unset] [])) _
          refine XS.lload X0.here hx rfl (hb hby at_59) rfl ?_
          show Steps p.tables e below (s₁.setTop (mkF m 61 #[.val (.int n), .val (.int k), .val (.int fl), .val (.int sh), .val (.long sc), .second, .val (.int (0 : Int32)), .val (.long n.toInt64), .second, .val (.double d), .second, .unset] [(.long n.toInt64)])) _
          refine XS.lconst X0.here hx rfl (hb hby at_61) ?_
          show Steps p.tables e below (s₁.setTop (mkF m 62 #[.val (.int n), .val (.int k), .val (.int fl), .val (.int sh), .val (.long sc), .second, .val (.int (0 : Int32)), .val (.long n.toInt64), .second, .val (.double d), .second, .unset] [(.long (0 : Int64)), (.long n.toInt64)])) _
          refine XS.lcmp X0.here hx rfl (hb hby at_62) rfl ?_
          show Steps p.tables e below (s₁.setTop (mkF m 63 #[.val (.int n), .val (.int k), .val (.int fl), .val (.int sh), .val (.long sc), .second, .val (.int (0 : Int32)), .val (.long n.toInt64), .second, .val (.double d), .second, .unset] [(.int (lcmpW n.toInt64 (0 : Int64)))])) _
          refine XS.ifNo X0.here hx rfl (hb hby at_63) rfl ((Jvm.Own.holdsL _ _ _).trans (Jvm.Own.dF (by rw [hm]; exact c1))) ?_
          show Steps p.tables e below (s₁.setTop (mkF m 66 #[.val (.int n), .val (.int k), .val (.int fl), .val (.int sh), .val (.long sc), .second, .val (.int (0 : Int32)), .val (.long n.toInt64), .second, .val (.double d), .second, .unset] [])) _
          refine XS.lload X0.here hx rfl (hb hby at_66) rfl ?_
          show Steps p.tables e below (s₁.setTop (mkF m 68 #[.val (.int n), .val (.int k), .val (.int fl), .val (.int sh), .val (.long sc), .second, .val (.int (0 : Int32)), .val (.long n.toInt64), .second, .val (.double d), .second, .unset] [(.long n.toInt64)])) _
          refine XS.lload X0.here hx rfl (hb hby at_68) rfl ?_
          show Steps p.tables e below (s₁.setTop (mkF m 70 #[.val (.int n), .val (.int k), .val (.int fl), .val (.int sh), .val (.long sc), .second, .val (.int (0 : Int32)), .val (.long n.toInt64), .second, .val (.double d), .second, .unset] [(.long sc), (.long n.toInt64)])) _
          refine XS.lcmp X0.here hx rfl (hb hby at_70) rfl ?_
          show Steps p.tables e below (s₁.setTop (mkF m 71 #[.val (.int n), .val (.int k), .val (.int fl), .val (.int sh), .val (.long sc), .second, .val (.int (0 : Int32)), .val (.long n.toInt64), .second, .val (.double d), .second, .unset] [(.int (lcmpW n.toInt64 sc))])) _
          refine XS.ifYes X0.here hx rfl (pc0 := 71) (pc' := 78) rfl (hb hby at_71) rfl ((Jvm.Own.holdsL _ _ _).trans (Jvm.Own.dT (by rw [hm]; rw [hsc0]; exact c2))) (by decide) (by decide) ?_
          show Steps p.tables e below (s₁.setTop (mkF m 78 #[.val (.int n), .val (.int k), .val (.int fl), .val (.int sh), .val (.long sc), .second, .val (.int (0 : Int32)), .val (.long n.toInt64), .second, .val (.double d), .second, .unset] [])) _
          refine XS.iconst X0.here hx rfl (hb hby at_78) ?_
          show Steps p.tables e below (s₁.setTop (mkF m 79 #[.val (.int n), .val (.int k), .val (.int fl), .val (.int sh), .val (.long sc), .second, .val (.int (0 : Int32)), .val (.long n.toInt64), .second, .val (.double d), .second, .unset] [(.int (0 : Int32))])) _
          refine XS.istore X0.here hx rfl (hb hby at_79) rfl (l' := #[.val (.int n), .val (.int k), .val (.int fl), .val (.int sh), .val (.long sc), .second, .val (.int (0 : Int32)), .val (.long n.toInt64), .second, .val (.double d), .second, .val (.int (0 : Int32))]) rfl ?_
          show Steps p.tables e below (s₁.setTop (mkF m 81 #[.val (.int n), .val (.int k), .val (.int fl), .val (.int sh), .val (.long sc), .second, .val (.int (0 : Int32)), .val (.long n.toInt64), .second, .val (.double d), .second, .val (.int (0 : Int32))] [])) _
          refine XS.dload X0.here hx rfl (hb hby at_81) rfl ?_
          show Steps p.tables e below (s₁.setTop (mkF m 83 #[.val (.int n), .val (.int k), .val (.int fl), .val (.int sh), .val (.long sc), .second, .val (.int (0 : Int32)), .val (.long n.toInt64), .second, .val (.double d), .second, .val (.int (0 : Int32))] [(.double d)])) _
          refine st1 _ ?_
          show Steps p.tables e below (T1.setTop (mkF m 86 #[.val (.int n), .val (.int k), .val (.int fl), .val (.int sh), .val (.long sc), .second, .val (.int (0 : Int32)), .val (.long n.toInt64), .second, .val (.double d), .second, .val (.int (0 : Int32))] [(.int (0 : Int32))])) _
          refine XS.iload X1.here hx rfl (hb hby at_86) rfl ?_
          show Steps p.tables e below (T1.setTop (mkF m 88 #[.val (.int n), .val (.int k), .val (.int fl), .val (.int sh), .val (.long sc), .second, .val (.int (0 : Int32)), .val (.long n.toInt64), .second, .val (.double d), .second, .val (.int (0 : Int32))] [(.int (0 : Int32)), (.int (0 : Int32))])) _
          refine XS.icmpNo X1.here hx rfl (hb hby at_88) rfl rfl ?_
          show Steps p.tables e below (T1.setTop (mkF m 91 #[.val (.int n), .val (.int k), .val (.int fl), .val (.int sh), .val (.long sc), .second, .val (.int (0 : Int32)), .val (.long n.toInt64), .second, .val (.double d), .second, .val (.int (0 : Int32))] [])) _
          refine XS.iconst X1.here hx rfl (hb hby at_91) ?_
          show Steps p.tables e below (T1.setTop (mkF m 92 #[.val (.int n), .val (.int k), .val (.int fl), .val (.int sh), .val (.long sc), .second, .val (.int (0 : Int32)), .val (.long n.toInt64), .second, .val (.double d), .second, .val (.int (0 : Int32))] [(.int (1 : Int32))])) _
          refine XS.goto X1.here hx rfl (pc0 := 92) (pc' := 96) rfl (hb hby at_92) (by decide) (by decide) ?_
          show Steps p.tables e below (T1.setTop (mkF m 96 #[.val (.int n), .val (.int k), .val (.int fl), .val (.int sh), .val (.long sc), .second, .val (.int (0 : Int32)), .val (.long n.toInt64), .second, .val (.double d), .second, .val (.int (0 : Int32))] [(.int (1 : Int32))])) _
          exact retN X1 hx (t := .boolean) Bd.returns (by simp) (hb hby at_96) hr
        · show QL n0 _ T1.heap _
          exact ⟨rfl, Fr.app N0 N1⟩
      · obtain ⟨_, _, ⟨T1, L1, k1, n1⟩, -, X1, ⟨Lc1, hQ1, l1, y1, z1⟩, st1⟩ := Jvm.LawKit.callS X0 hx (y := (⟨"com/example/gaithersburg/gaithersburg/graph/PageRank", "isValidDamping", "(D)Z"⟩ : MethodName)) hown (mvT hZ (hw _ (List.mem_of_getElem? (i := 0) rfl))) (mvT hZ (hw _ (List.mem_of_getElem? (i := 1) rfl))) (mvT hZ (hw _ (List.mem_of_getElem? (i := 2) rfl))) (mvT hZ (hw _ (List.mem_of_getElem? (i := 3) rfl))) (by decide) (backOf (W := 0) (rm1 l Z a0 hw [] d h0 n0 Z0 (1 : Int32) f2 (Or.inr (Or.inr ⟨k2 (by omega), k4 (by omega), rfl⟩))) hZ (hw _ (List.mem_of_getElem? (i := 3) rfl)) (hw _ (List.mem_of_getElem? (i := 2) rfl)) (by decide) (by decide)) (g := (mkF m 83 #[.val (.int n), .val (.int k), .val (.int fl), .val (.int sh), .val (.long sc), .second, .val (.int (0 : Int32)), .val (.long n.toInt64), .second, .val (.double d), .second, .val (.int (1 : Int32))] [(.double d)])) rfl (by rw [hml]; rfl) (argsL := [(.double d)]) (rest := []) (lenOf pd_0 rfl) rfl (by show 2 * 0 + _ ≤ _; exact Nat.le_of_eq rfl) (hb hby at_83) (fun _ _ => ⟨rfl, e0, (by decide : 0 + 0 ≤ _), (by decide : 0 + 0 ≤ _)⟩)
        dsimp only [Pt.U, Pt.locs, Pt.cells, Pt.slots] at X1 l1 y1 z1 st1 hQ1
        subst l1 y1 z1
        obtain ⟨rfl, N1, e1⟩ := hQ1
        obtain ⟨fs, hr, hrun, hended, hW, hsame⟩ := X1.leave (v := some (.int (1 : Int32))) (fun h => by rw [Bd.returns] at h; cases h)
        refine ⟨_, _, pre0 _ ?_, hrun, hended, _, _, rfl, ?_, ⟨_, rfl⟩, hW, hsame.mono (by decide) (by decide)⟩
        · show Steps p.tables e below (s₁.setTop (mkF m 0 #[.val (.int n), .val (.int k), .val (.int fl), .unset, .unset, .unset, .unset, .unset, .unset, .unset, .unset, .unset] [])) _
          refine XS.iloadN X0.here hx rfl (hb hby at_0) rfl ?_
          show Steps p.tables e below (s₁.setTop (mkF m 1 #[.val (.int n), .val (.int k), .val (.int fl), .unset, .unset, .unset, .unset, .unset, .unset, .unset, .unset, .unset] [(.int k)])) _
          refine XS.bipush X0.here hx rfl (hb hby at_1) ?_
          show Steps p.tables e below (s₁.setTop (mkF m 3 #[.val (.int n), .val (.int k), .val (.int fl), .unset, .unset, .unset, .unset, .unset, .unset, .unset, .unset, .unset] [(.int (63 : Int32)), (.int k)])) _
          refine XS.iand X0.here hx rfl (hb hby at_3) rfl ?_
          show Steps p.tables e below (s₁.setTop (mkF m 4 #[.val (.int n), .val (.int k), .val (.int fl), .unset, .unset, .unset, .unset, .unset, .unset, .unset, .unset, .unset] [(.int (k &&& (63 : Int32)))])) _
          refine XS.bipush X0.here hx rfl (hb hby at_4) ?_
          show Steps p.tables e below (s₁.setTop (mkF m 6 #[.val (.int n), .val (.int k), .val (.int fl), .unset, .unset, .unset, .unset, .unset, .unset, .unset, .unset, .unset] [(.int (63 : Int32)), (.int (k &&& (63 : Int32)))])) _
          refine XS.irem X0.here hx rfl (hb hby at_6) rfl (by decide) ?_
          rw [hsh]
          show Steps p.tables e below (s₁.setTop (mkF m 7 #[.val (.int n), .val (.int k), .val (.int fl), .unset, .unset, .unset, .unset, .unset, .unset, .unset, .unset, .unset] [(.int sh)])) _
          refine XS.istoreN X0.here hx rfl (hb hby at_7) rfl (l' := #[.val (.int n), .val (.int k), .val (.int fl), .val (.int sh), .unset, .unset, .unset, .unset, .unset, .unset, .unset, .unset]) rfl ?_
          show Steps p.tables e below (s₁.setTop (mkF m 8 #[.val (.int n), .val (.int k), .val (.int fl), .val (.int sh), .unset, .unset, .unset, .unset, .unset, .unset, .unset, .unset] [])) _
          refine XS.lconst X0.here hx rfl (hb hby at_8) ?_
          show Steps p.tables e below (s₁.setTop (mkF m 9 #[.val (.int n), .val (.int k), .val (.int fl), .val (.int sh), .unset, .unset, .unset, .unset, .unset, .unset, .unset, .unset] [(.long (1 : Int64))])) _
          refine XS.iloadN X0.here hx rfl (hb hby at_9) rfl ?_
          show Steps p.tables e below (s₁.setTop (mkF m 10 #[.val (.int n), .val (.int k), .val (.int fl), .val (.int sh), .unset, .unset, .unset, .unset, .unset, .unset, .unset, .unset] [(.int sh), (.long (1 : Int64))])) _
          refine XS.lshl X0.here hx rfl (hb hby at_10) rfl ?_
          rw [hsc]
          show Steps p.tables e below (s₁.setTop (mkF m 11 #[.val (.int n), .val (.int k), .val (.int fl), .val (.int sh), .unset, .unset, .unset, .unset, .unset, .unset, .unset, .unset] [(.long sc)])) _
          refine XS.lstore X0.here hx rfl (hb hby at_11) rfl (l' := #[.val (.int n), .val (.int k), .val (.int fl), .val (.int sh), .val (.long sc), .second, .unset, .unset, .unset, .unset, .unset, .unset]) rfl ?_
          show Steps p.tables e below (s₁.setTop (mkF m 13 #[.val (.int n), .val (.int k), .val (.int fl), .val (.int sh), .val (.long sc), .second, .unset, .unset, .unset, .unset, .unset, .unset] [])) _
          refine XS.iloadN X0.here hx rfl (hb hby at_13) rfl ?_
          show Steps p.tables e below (s₁.setTop (mkF m 14 #[.val (.int n), .val (.int k), .val (.int fl), .val (.int sh), .val (.long sc), .second, .unset, .unset, .unset, .unset, .unset, .unset] [(.int fl)])) _
          refine XS.iconst X0.here hx rfl (hb hby at_14) ?_
          show Steps p.tables e below (s₁.setTop (mkF m 15 #[.val (.int n), .val (.int k), .val (.int fl), .val (.int sh), .val (.long sc), .second, .unset, .unset, .unset, .unset, .unset, .unset] [(.int (1 : Int32)), (.int fl)])) _
          refine XS.iand X0.here hx rfl (hb hby at_15) rfl ?_
          show Steps p.tables e below (s₁.setTop (mkF m 16 #[.val (.int n), .val (.int k), .val (.int fl), .val (.int sh), .val (.long sc), .second, .unset, .unset, .unset, .unset, .unset, .unset] [(.int (fl &&& (1 : Int32)))])) _
          refine XS.ifYes X0.here hx rfl (pc0 := 16) (pc' := 23) rfl (hb hby at_16) rfl ((Jvm.Own.holdsI _ _).trans (Jvm.Own.dT hf)) (by decide) (by decide) ?_
          show Steps p.tables e below (s₁.setTop (mkF m 23 #[.val (.int n), .val (.int k), .val (.int fl), .val (.int sh), .val (.long sc), .second, .unset, .unset, .unset, .unset, .unset, .unset] [])) _
          refine XS.iconst X0.here hx rfl (hb hby at_23) ?_
          show Steps p.tables e below (s₁.setTop (mkF m 24 #[.val (.int n), .val (.int k), .val (.int fl), .val (.int sh), .val (.long sc), .second, .unset, .unset, .unset, .unset, .unset, .unset] [(.int (0 : Int32))])) _
          refine XS.istore X0.here hx rfl (hb hby at_24) rfl (l' := #[.val (.int n), .val (.int k), .val (.int fl), .val (.int sh), .val (.long sc), .second, .val (.int (0 : Int32)), .unset, .unset, .unset, .unset, .unset]) rfl ?_
          show Steps p.tables e below (s₁.setTop (mkF m 26 #[.val (.int n), .val (.int k), .val (.int fl), .val (.int sh), .val (.long sc), .second, .val (.int (0 : Int32)), .unset, .unset, .unset, .unset, .unset] [])) _
          refine XS.iload X0.here hx rfl (hb hby at_26) rfl ?_
          show Steps p.tables e below (s₁.setTop (mkF m 28 #[.val (.int n), .val (.int k), .val (.int fl), .val (.int sh), .val (.long sc), .second, .val (.int (0 : Int32)), .unset, .unset, .unset, .unset, .unset] [(.int (0 : Int32))])) _
          refine XS.ifYes X0.here hx rfl (pc0 := 28) (pc' := 37) rfl (hb hby at_28) rfl rfl (by decide) (by decide) ?_
          show Steps p.tables e below (s₁.setTop (mkF m 37 #[.val (.int n), .val (.int k), .val (.int fl), .val (.int sh), .val (.long sc), .second, .val (.int (0 : Int32)), .unset, .unset, .unset, .unset, .unset] [])) _
          refine XS.iloadN X0.here hx rfl (hb hby at_37) rfl ?_
          show Steps p.tables e below (s₁.setTop (mkF m 38 #[.val (.int n), .val (.int k), .val (.int fl), .val (.int sh), .val (.long sc), .second, .val (.int (0 : Int32)), .unset, .unset, .unset, .unset, .unset] [(.int n)])) _
          refine XS.i2l X0.here hx rfl (hb hby at_38) rfl ?_
          show Steps p.tables e below (s₁.setTop (mkF m 39 #[.val (.int n), .val (.int k), .val (.int fl), .val (.int sh), .val (.long sc), .second, .val (.int (0 : Int32)), .unset, .unset, .unset, .unset, .unset] [(.long n.toInt64)])) _
          refine XS.lstore X0.here hx rfl (hb hby at_39) rfl (l' := #[.val (.int n), .val (.int k), .val (.int fl), .val (.int sh), .val (.long sc), .second, .val (.int (0 : Int32)), .val (.long n.toInt64), .second, .unset, .unset, .unset]) rfl ?_
          show Steps p.tables e below (s₁.setTop (mkF m 41 #[.val (.int n), .val (.int k), .val (.int fl), .val (.int sh), .val (.long sc), .second, .val (.int (0 : Int32)), .val (.long n.toInt64), .second, .unset, .unset, .unset] [])) _
          refine XS.iloadN X0.here hx rfl (hb hby at_41) rfl ?_
          show Steps p.tables e below (s₁.setTop (mkF m 42 #[.val (.int n), .val (.int k), .val (.int fl), .val (.int sh), .val (.long sc), .second, .val (.int (0 : Int32)), .val (.long n.toInt64), .second, .unset, .unset, .unset] [(.int n)])) _
          refine XS.i2dS X0.here hx rfl (hb hby at_42) rfl (v := FP.i2d n) rfl ?_
          show Steps p.tables e below (s₁.setTop (mkF m 43 #[.val (.int n), .val (.int k), .val (.int fl), .val (.int sh), .val (.long sc), .second, .val (.int (0 : Int32)), .val (.long n.toInt64), .second, .unset, .unset, .unset] [(.double (FP.i2d n))])) _
          refine XS.lload X0.here hx rfl (hb hby at_43) rfl ?_
          show Steps p.tables e below (s₁.setTop (mkF m 45 #[.val (.int n), .val (.int k), .val (.int fl), .val (.int sh), .val (.long sc), .second, .val (.int (0 : Int32)), .val (.long n.toInt64), .second, .unset, .unset, .unset] [(.long sc), (.double (FP.i2d n))])) _
          refine XS.l2dS X0.here hx rfl (hb hby at_45) rfl (v := FP.l2d sc) rfl ?_
          show Steps p.tables e below (s₁.setTop (mkF m 46 #[.val (.int n), .val (.int k), .val (.int fl), .val (.int sh), .val (.long sc), .second, .val (.int (0 : Int32)), .val (.long n.toInt64), .second, .unset, .unset, .unset] [(.double (FP.l2d sc)), (.double (FP.i2d n))])) _
          refine XS.ddivS X0.here hx rfl (hb hby at_46) rfl hnn (v := d) hd ?_
          show Steps p.tables e below (s₁.setTop (mkF m 47 #[.val (.int n), .val (.int k), .val (.int fl), .val (.int sh), .val (.long sc), .second, .val (.int (0 : Int32)), .val (.long n.toInt64), .second, .unset, .unset, .unset] [(.double d)])) _
          refine XS.dstore X0.here hx rfl (hb hby at_47) rfl (l' := #[.val (.int n), .val (.int k), .val (.int fl), .val (.int sh), .val (.long sc), .second, .val (.int (0 : Int32)), .val (.long n.toInt64), .second, .val (.double d), .second, .unset]) rfl ?_
          show Steps p.tables e below (s₁.setTop (mkF m 49 #[.val (.int n), .val (.int k), .val (.int fl), .val (.int sh), .val (.long sc), .second, .val (.int (0 : Int32)), .val (.long n.toInt64), .second, .val (.double d), .second, .unset] [])) _
          refine XS.iload X0.here hx rfl (hb hby at_49) rfl ?_
          show Steps p.tables e below (s₁.setTop (mkF m 51 #[.val (.int n), .val (.int k), .val (.int fl), .val (.int sh), .val (.long sc), .second, .val (.int (0 : Int32)), .val (.long n.toInt64), .second, .val (.double d), .second, .unset] [(.int (0 : Int32))])) _
          refine XS.ifYes X0.here hx rfl (pc0 := 51) (pc' := 59) rfl (hb hby at_51) rfl rfl (by decide) (by decide) ?_
          show Steps p.tables e below (s₁.setTop (mkF m 59 #[.val (.int n), .val (.int k), .val (.int fl), .val (.int sh), .val (.long sc), .second, .val (.int (0 : Int32)), .val (.long n.toInt64), .second, .val (.double d), .second, .unset] [])) _
          refine XS.lload X0.here hx rfl (hb hby at_59) rfl ?_
          show Steps p.tables e below (s₁.setTop (mkF m 61 #[.val (.int n), .val (.int k), .val (.int fl), .val (.int sh), .val (.long sc), .second, .val (.int (0 : Int32)), .val (.long n.toInt64), .second, .val (.double d), .second, .unset] [(.long n.toInt64)])) _
          refine XS.lconst X0.here hx rfl (hb hby at_61) ?_
          show Steps p.tables e below (s₁.setTop (mkF m 62 #[.val (.int n), .val (.int k), .val (.int fl), .val (.int sh), .val (.long sc), .second, .val (.int (0 : Int32)), .val (.long n.toInt64), .second, .val (.double d), .second, .unset] [(.long (0 : Int64)), (.long n.toInt64)])) _
          refine XS.lcmp X0.here hx rfl (hb hby at_62) rfl ?_
          show Steps p.tables e below (s₁.setTop (mkF m 63 #[.val (.int n), .val (.int k), .val (.int fl), .val (.int sh), .val (.long sc), .second, .val (.int (0 : Int32)), .val (.long n.toInt64), .second, .val (.double d), .second, .unset] [(.int (lcmpW n.toInt64 (0 : Int64)))])) _
          refine XS.ifNo X0.here hx rfl (hb hby at_63) rfl ((Jvm.Own.holdsL _ _ _).trans (Jvm.Own.dF (by rw [hm]; exact c1))) ?_
          show Steps p.tables e below (s₁.setTop (mkF m 66 #[.val (.int n), .val (.int k), .val (.int fl), .val (.int sh), .val (.long sc), .second, .val (.int (0 : Int32)), .val (.long n.toInt64), .second, .val (.double d), .second, .unset] [])) _
          refine XS.lload X0.here hx rfl (hb hby at_66) rfl ?_
          show Steps p.tables e below (s₁.setTop (mkF m 68 #[.val (.int n), .val (.int k), .val (.int fl), .val (.int sh), .val (.long sc), .second, .val (.int (0 : Int32)), .val (.long n.toInt64), .second, .val (.double d), .second, .unset] [(.long n.toInt64)])) _
          refine XS.lload X0.here hx rfl (hb hby at_68) rfl ?_
          show Steps p.tables e below (s₁.setTop (mkF m 70 #[.val (.int n), .val (.int k), .val (.int fl), .val (.int sh), .val (.long sc), .second, .val (.int (0 : Int32)), .val (.long n.toInt64), .second, .val (.double d), .second, .unset] [(.long sc), (.long n.toInt64)])) _
          refine XS.lcmp X0.here hx rfl (hb hby at_70) rfl ?_
          show Steps p.tables e below (s₁.setTop (mkF m 71 #[.val (.int n), .val (.int k), .val (.int fl), .val (.int sh), .val (.long sc), .second, .val (.int (0 : Int32)), .val (.long n.toInt64), .second, .val (.double d), .second, .unset] [(.int (lcmpW n.toInt64 sc))])) _
          refine XS.ifNo X0.here hx rfl (hb hby at_71) rfl ((Jvm.Own.holdsL _ _ _).trans (Jvm.Own.dF (by rw [hm]; rw [hsc0]; exact c2))) ?_
          show Steps p.tables e below (s₁.setTop (mkF m 74 #[.val (.int n), .val (.int k), .val (.int fl), .val (.int sh), .val (.long sc), .second, .val (.int (0 : Int32)), .val (.long n.toInt64), .second, .val (.double d), .second, .unset] [])) _
          refine XS.iconst X0.here hx rfl (hb hby at_74) ?_
          show Steps p.tables e below (s₁.setTop (mkF m 75 #[.val (.int n), .val (.int k), .val (.int fl), .val (.int sh), .val (.long sc), .second, .val (.int (0 : Int32)), .val (.long n.toInt64), .second, .val (.double d), .second, .unset] [(.int (1 : Int32))])) _
          refine XS.goto X0.here hx rfl (pc0 := 75) (pc' := 79) rfl (hb hby at_75) (by decide) (by decide) ?_
          show Steps p.tables e below (s₁.setTop (mkF m 79 #[.val (.int n), .val (.int k), .val (.int fl), .val (.int sh), .val (.long sc), .second, .val (.int (0 : Int32)), .val (.long n.toInt64), .second, .val (.double d), .second, .unset] [(.int (1 : Int32))])) _
          refine XS.istore X0.here hx rfl (hb hby at_79) rfl (l' := #[.val (.int n), .val (.int k), .val (.int fl), .val (.int sh), .val (.long sc), .second, .val (.int (0 : Int32)), .val (.long n.toInt64), .second, .val (.double d), .second, .val (.int (1 : Int32))]) rfl ?_
          show Steps p.tables e below (s₁.setTop (mkF m 81 #[.val (.int n), .val (.int k), .val (.int fl), .val (.int sh), .val (.long sc), .second, .val (.int (0 : Int32)), .val (.long n.toInt64), .second, .val (.double d), .second, .val (.int (1 : Int32))] [])) _
          refine XS.dload X0.here hx rfl (hb hby at_81) rfl ?_
          show Steps p.tables e below (s₁.setTop (mkF m 83 #[.val (.int n), .val (.int k), .val (.int fl), .val (.int sh), .val (.long sc), .second, .val (.int (0 : Int32)), .val (.long n.toInt64), .second, .val (.double d), .second, .val (.int (1 : Int32))] [(.double d)])) _
          refine st1 _ ?_
          show Steps p.tables e below (T1.setTop (mkF m 86 #[.val (.int n), .val (.int k), .val (.int fl), .val (.int sh), .val (.long sc), .second, .val (.int (0 : Int32)), .val (.long n.toInt64), .second, .val (.double d), .second, .val (.int (1 : Int32))] [(.int (1 : Int32))])) _
          refine XS.iload X1.here hx rfl (hb hby at_86) rfl ?_
          show Steps p.tables e below (T1.setTop (mkF m 88 #[.val (.int n), .val (.int k), .val (.int fl), .val (.int sh), .val (.long sc), .second, .val (.int (0 : Int32)), .val (.long n.toInt64), .second, .val (.double d), .second, .val (.int (1 : Int32))] [(.int (1 : Int32)), (.int (1 : Int32))])) _
          refine XS.icmpNo X1.here hx rfl (hb hby at_88) rfl rfl ?_
          show Steps p.tables e below (T1.setTop (mkF m 91 #[.val (.int n), .val (.int k), .val (.int fl), .val (.int sh), .val (.long sc), .second, .val (.int (0 : Int32)), .val (.long n.toInt64), .second, .val (.double d), .second, .val (.int (1 : Int32))] [])) _
          refine XS.iconst X1.here hx rfl (hb hby at_91) ?_
          show Steps p.tables e below (T1.setTop (mkF m 92 #[.val (.int n), .val (.int k), .val (.int fl), .val (.int sh), .val (.long sc), .second, .val (.int (0 : Int32)), .val (.long n.toInt64), .second, .val (.double d), .second, .val (.int (1 : Int32))] [(.int (1 : Int32))])) _
          refine XS.goto X1.here hx rfl (pc0 := 92) (pc' := 96) rfl (hb hby at_92) (by decide) (by decide) ?_
          show Steps p.tables e below (T1.setTop (mkF m 96 #[.val (.int n), .val (.int k), .val (.int fl), .val (.int sh), .val (.long sc), .second, .val (.int (0 : Int32)), .val (.long n.toInt64), .second, .val (.double d), .second, .val (.int (1 : Int32))] [(.int (1 : Int32))])) _
          exact retN X1 hx (t := .boolean) Bd.returns (by simp) (hb hby at_96) hr
        · show QL n0 _ T1.heap _
          exact ⟨rfl, Fr.app N0 N1⟩
  · obtain ⟨k1, k2, k3, k4⟩ := key (-n.toInt) (FP.dneg d) (by rw [Jvm.Own.z_dneg, z2, Int.neg_mul])
    have hm : (-n.toInt64).toInt = -n.toInt := by rw [Jvm.FP.Core.int64_neg (by rw [c_i2l]; omega), c_i2l]
    have f2' := Jvm.Own.fin_dneg f2
    by_cases c1 : (-n.toInt) < 0
    · obtain ⟨_, _, ⟨T1, L1, k1, n1⟩, -, X1, ⟨Lc1, hQ1, l1, y1, z1⟩, st1⟩ := Jvm.LawKit.callS X0 hx (y := (⟨"com/example/gaithersburg/gaithersburg/graph/PageRank", "isValidDamping", "(D)Z"⟩ : MethodName)) hown (mvT hZ (hw _ (List.mem_of_getElem? (i := 0) rfl))) (mvT hZ (hw _ (List.mem_of_getElem? (i := 1) rfl))) (mvT hZ (hw _ (List.mem_of_getElem? (i := 2) rfl))) (mvT hZ (hw _ (List.mem_of_getElem? (i := 3) rfl))) (by decide) (backOf (W := 0) (rm1 l Z a0 hw [] (FP.dneg d) h0 n0 Z0 (0 : Int32) f2' (Or.inl ⟨k1 c1, rfl⟩)) hZ (hw _ (List.mem_of_getElem? (i := 3) rfl)) (hw _ (List.mem_of_getElem? (i := 2) rfl)) (by decide) (by decide)) (g := (mkF m 83 #[.val (.int n), .val (.int k), .val (.int fl), .val (.int sh), .val (.long sc), .second, .val (.int (1 : Int32)), .val (.long (-n.toInt64)), .second, .val (.double (FP.dneg d)), .second, .val (.int (0 : Int32))] [(.double (FP.dneg d))])) rfl (by rw [hml]; rfl) (argsL := [(.double (FP.dneg d))]) (rest := []) (lenOf pd_0 rfl) rfl (by show 2 * 0 + _ ≤ _; exact Nat.le_of_eq rfl) (hb hby at_83) (fun _ _ => ⟨rfl, e0, (by decide : 0 + 0 ≤ _), (by decide : 0 + 0 ≤ _)⟩)
      dsimp only [Pt.U, Pt.locs, Pt.cells, Pt.slots] at X1 l1 y1 z1 st1 hQ1
      subst l1 y1 z1
      obtain ⟨rfl, N1, e1⟩ := hQ1
      obtain ⟨fs, hr, hrun, hended, hW, hsame⟩ := X1.leave (v := some (.int (1 : Int32))) (fun h => by rw [Bd.returns] at h; cases h)
      refine ⟨_, _, pre0 _ ?_, hrun, hended, _, _, rfl, ?_, ⟨_, rfl⟩, hW, hsame.mono (by decide) (by decide)⟩
      · show Steps p.tables e below (s₁.setTop (mkF m 0 #[.val (.int n), .val (.int k), .val (.int fl), .unset, .unset, .unset, .unset, .unset, .unset, .unset, .unset, .unset] [])) _
        refine XS.iloadN X0.here hx rfl (hb hby at_0) rfl ?_
        show Steps p.tables e below (s₁.setTop (mkF m 1 #[.val (.int n), .val (.int k), .val (.int fl), .unset, .unset, .unset, .unset, .unset, .unset, .unset, .unset, .unset] [(.int k)])) _
        refine XS.bipush X0.here hx rfl (hb hby at_1) ?_
        show Steps p.tables e below (s₁.setTop (mkF m 3 #[.val (.int n), .val (.int k), .val (.int fl), .unset, .unset, .unset, .unset, .unset, .unset, .unset, .unset, .unset] [(.int (63 : Int32)), (.int k)])) _
        refine XS.iand X0.here hx rfl (hb hby at_3) rfl ?_
        show Steps p.tables e below (s₁.setTop (mkF m 4 #[.val (.int n), .val (.int k), .val (.int fl), .unset, .unset, .unset, .unset, .unset, .unset, .unset, .unset, .unset] [(.int (k &&& (63 : Int32)))])) _
        refine XS.bipush X0.here hx rfl (hb hby at_4) ?_
        show Steps p.tables e below (s₁.setTop (mkF m 6 #[.val (.int n), .val (.int k), .val (.int fl), .unset, .unset, .unset, .unset, .unset, .unset, .unset, .unset, .unset] [(.int (63 : Int32)), (.int (k &&& (63 : Int32)))])) _
        refine XS.irem X0.here hx rfl (hb hby at_6) rfl (by decide) ?_
        rw [hsh]
        show Steps p.tables e below (s₁.setTop (mkF m 7 #[.val (.int n), .val (.int k), .val (.int fl), .unset, .unset, .unset, .unset, .unset, .unset, .unset, .unset, .unset] [(.int sh)])) _
        refine XS.istoreN X0.here hx rfl (hb hby at_7) rfl (l' := #[.val (.int n), .val (.int k), .val (.int fl), .val (.int sh), .unset, .unset, .unset, .unset, .unset, .unset, .unset, .unset]) rfl ?_
        show Steps p.tables e below (s₁.setTop (mkF m 8 #[.val (.int n), .val (.int k), .val (.int fl), .val (.int sh), .unset, .unset, .unset, .unset, .unset, .unset, .unset, .unset] [])) _
        refine XS.lconst X0.here hx rfl (hb hby at_8) ?_
        show Steps p.tables e below (s₁.setTop (mkF m 9 #[.val (.int n), .val (.int k), .val (.int fl), .val (.int sh), .unset, .unset, .unset, .unset, .unset, .unset, .unset, .unset] [(.long (1 : Int64))])) _
        refine XS.iloadN X0.here hx rfl (hb hby at_9) rfl ?_
        show Steps p.tables e below (s₁.setTop (mkF m 10 #[.val (.int n), .val (.int k), .val (.int fl), .val (.int sh), .unset, .unset, .unset, .unset, .unset, .unset, .unset, .unset] [(.int sh), (.long (1 : Int64))])) _
        refine XS.lshl X0.here hx rfl (hb hby at_10) rfl ?_
        rw [hsc]
        show Steps p.tables e below (s₁.setTop (mkF m 11 #[.val (.int n), .val (.int k), .val (.int fl), .val (.int sh), .unset, .unset, .unset, .unset, .unset, .unset, .unset, .unset] [(.long sc)])) _
        refine XS.lstore X0.here hx rfl (hb hby at_11) rfl (l' := #[.val (.int n), .val (.int k), .val (.int fl), .val (.int sh), .val (.long sc), .second, .unset, .unset, .unset, .unset, .unset, .unset]) rfl ?_
        show Steps p.tables e below (s₁.setTop (mkF m 13 #[.val (.int n), .val (.int k), .val (.int fl), .val (.int sh), .val (.long sc), .second, .unset, .unset, .unset, .unset, .unset, .unset] [])) _
        refine XS.iloadN X0.here hx rfl (hb hby at_13) rfl ?_
        show Steps p.tables e below (s₁.setTop (mkF m 14 #[.val (.int n), .val (.int k), .val (.int fl), .val (.int sh), .val (.long sc), .second, .unset, .unset, .unset, .unset, .unset, .unset] [(.int fl)])) _
        refine XS.iconst X0.here hx rfl (hb hby at_14) ?_
        show Steps p.tables e below (s₁.setTop (mkF m 15 #[.val (.int n), .val (.int k), .val (.int fl), .val (.int sh), .val (.long sc), .second, .unset, .unset, .unset, .unset, .unset, .unset] [(.int (1 : Int32)), (.int fl)])) _
        refine XS.iand X0.here hx rfl (hb hby at_15) rfl ?_
        show Steps p.tables e below (s₁.setTop (mkF m 16 #[.val (.int n), .val (.int k), .val (.int fl), .val (.int sh), .val (.long sc), .second, .unset, .unset, .unset, .unset, .unset, .unset] [(.int (fl &&& (1 : Int32)))])) _
        refine XS.ifNo X0.here hx rfl (hb hby at_16) rfl ((Jvm.Own.holdsI _ _).trans (Jvm.Own.dF hf)) ?_
        show Steps p.tables e below (s₁.setTop (mkF m 19 #[.val (.int n), .val (.int k), .val (.int fl), .val (.int sh), .val (.long sc), .second, .unset, .unset, .unset, .unset, .unset, .unset] [])) _
        refine XS.iconst X0.here hx rfl (hb hby at_19) ?_
        show Steps p.tables e below (s₁.setTop (mkF m 20 #[.val (.int n), .val (.int k), .val (.int fl), .val (.int sh), .val (.long sc), .second, .unset, .unset, .unset, .unset, .unset, .unset] [(.int (1 : Int32))])) _
        refine XS.goto X0.here hx rfl (pc0 := 20) (pc' := 24) rfl (hb hby at_20) (by decide) (by decide) ?_
        show Steps p.tables e below (s₁.setTop (mkF m 24 #[.val (.int n), .val (.int k), .val (.int fl), .val (.int sh), .val (.long sc), .second, .unset, .unset, .unset, .unset, .unset, .unset] [(.int (1 : Int32))])) _
        refine XS.istore X0.here hx rfl (hb hby at_24) rfl (l' := #[.val (.int n), .val (.int k), .val (.int fl), .val (.int sh), .val (.long sc), .second, .val (.int (1 : Int32)), .unset, .unset, .unset, .unset, .unset]) rfl ?_
        show Steps p.tables e below (s₁.setTop (mkF m 26 #[.val (.int n), .val (.int k), .val (.int fl), .val (.int sh), .val (.long sc), .second, .val (.int (1 : Int32)), .unset, .unset, .unset, .unset, .unset] [])) _
        refine XS.iload X0.here hx rfl (hb hby at_26) rfl ?_
        show Steps p.tables e below (s₁.setTop (mkF m 28 #[.val (.int n), .val (.int k), .val (.int fl), .val (.int sh), .val (.long sc), .second, .val (.int (1 : Int32)), .unset, .unset, .unset, .unset, .unset] [(.int (1 : Int32))])) _
        refine XS.ifNo X0.here hx rfl (hb hby at_28) rfl rfl ?_
        show Steps p.tables e below (s₁.setTop (mkF m 31 #[.val (.int n), .val (.int k), .val (.int fl), .val (.int sh), .val (.long sc), .second, .val (.int (1 : Int32)), .unset, .unset, .unset, .unset, .unset] [])) _
        refine XS.iloadN X0.here hx rfl (hb hby at_31) rfl ?_
        show Steps p.tables e below (s₁.setTop (mkF m 32 #[.val (.int n), .val (.int k), .val (.int fl), .val (.int sh), .val (.long sc), .second, .val (.int (1 : Int32)), .unset, .unset, .unset, .unset, .unset] [(.int n)])) _
        refine XS.i2l X0.here hx rfl (hb hby at_32) rfl ?_
        show Steps p.tables e below (s₁.setTop (mkF m 33 #[.val (.int n), .val (.int k), .val (.int fl), .val (.int sh), .val (.long sc), .second, .val (.int (1 : Int32)), .unset, .unset, .unset, .unset, .unset] [(.long n.toInt64)])) _
        refine XS.lneg X0.here hx rfl (hb hby at_33) rfl ?_
        show Steps p.tables e below (s₁.setTop (mkF m 34 #[.val (.int n), .val (.int k), .val (.int fl), .val (.int sh), .val (.long sc), .second, .val (.int (1 : Int32)), .unset, .unset, .unset, .unset, .unset] [(.long (-n.toInt64))])) _
        refine XS.goto X0.here hx rfl (pc0 := 34) (pc' := 39) rfl (hb hby at_34) (by decide) (by decide) ?_
        show Steps p.tables e below (s₁.setTop (mkF m 39 #[.val (.int n), .val (.int k), .val (.int fl), .val (.int sh), .val (.long sc), .second, .val (.int (1 : Int32)), .unset, .unset, .unset, .unset, .unset] [(.long (-n.toInt64))])) _
        refine XS.lstore X0.here hx rfl (hb hby at_39) rfl (l' := #[.val (.int n), .val (.int k), .val (.int fl), .val (.int sh), .val (.long sc), .second, .val (.int (1 : Int32)), .val (.long (-n.toInt64)), .second, .unset, .unset, .unset]) rfl ?_
        show Steps p.tables e below (s₁.setTop (mkF m 41 #[.val (.int n), .val (.int k), .val (.int fl), .val (.int sh), .val (.long sc), .second, .val (.int (1 : Int32)), .val (.long (-n.toInt64)), .second, .unset, .unset, .unset] [])) _
        refine XS.iloadN X0.here hx rfl (hb hby at_41) rfl ?_
        show Steps p.tables e below (s₁.setTop (mkF m 42 #[.val (.int n), .val (.int k), .val (.int fl), .val (.int sh), .val (.long sc), .second, .val (.int (1 : Int32)), .val (.long (-n.toInt64)), .second, .unset, .unset, .unset] [(.int n)])) _
        refine XS.i2dS X0.here hx rfl (hb hby at_42) rfl (v := FP.i2d n) rfl ?_
        show Steps p.tables e below (s₁.setTop (mkF m 43 #[.val (.int n), .val (.int k), .val (.int fl), .val (.int sh), .val (.long sc), .second, .val (.int (1 : Int32)), .val (.long (-n.toInt64)), .second, .unset, .unset, .unset] [(.double (FP.i2d n))])) _
        refine XS.lload X0.here hx rfl (hb hby at_43) rfl ?_
        show Steps p.tables e below (s₁.setTop (mkF m 45 #[.val (.int n), .val (.int k), .val (.int fl), .val (.int sh), .val (.long sc), .second, .val (.int (1 : Int32)), .val (.long (-n.toInt64)), .second, .unset, .unset, .unset] [(.long sc), (.double (FP.i2d n))])) _
        refine XS.l2dS X0.here hx rfl (hb hby at_45) rfl (v := FP.l2d sc) rfl ?_
        show Steps p.tables e below (s₁.setTop (mkF m 46 #[.val (.int n), .val (.int k), .val (.int fl), .val (.int sh), .val (.long sc), .second, .val (.int (1 : Int32)), .val (.long (-n.toInt64)), .second, .unset, .unset, .unset] [(.double (FP.l2d sc)), (.double (FP.i2d n))])) _
        refine XS.ddivS X0.here hx rfl (hb hby at_46) rfl hnn (v := d) hd ?_
        show Steps p.tables e below (s₁.setTop (mkF m 47 #[.val (.int n), .val (.int k), .val (.int fl), .val (.int sh), .val (.long sc), .second, .val (.int (1 : Int32)), .val (.long (-n.toInt64)), .second, .unset, .unset, .unset] [(.double d)])) _
        refine XS.dstore X0.here hx rfl (hb hby at_47) rfl (l' := #[.val (.int n), .val (.int k), .val (.int fl), .val (.int sh), .val (.long sc), .second, .val (.int (1 : Int32)), .val (.long (-n.toInt64)), .second, .val (.double d), .second, .unset]) rfl ?_
        show Steps p.tables e below (s₁.setTop (mkF m 49 #[.val (.int n), .val (.int k), .val (.int fl), .val (.int sh), .val (.long sc), .second, .val (.int (1 : Int32)), .val (.long (-n.toInt64)), .second, .val (.double d), .second, .unset] [])) _
        refine XS.iload X0.here hx rfl (hb hby at_49) rfl ?_
        show Steps p.tables e below (s₁.setTop (mkF m 51 #[.val (.int n), .val (.int k), .val (.int fl), .val (.int sh), .val (.long sc), .second, .val (.int (1 : Int32)), .val (.long (-n.toInt64)), .second, .val (.double d), .second, .unset] [(.int (1 : Int32))])) _
        refine XS.ifNo X0.here hx rfl (hb hby at_51) rfl rfl ?_
        show Steps p.tables e below (s₁.setTop (mkF m 54 #[.val (.int n), .val (.int k), .val (.int fl), .val (.int sh), .val (.long sc), .second, .val (.int (1 : Int32)), .val (.long (-n.toInt64)), .second, .val (.double d), .second, .unset] [])) _
        refine XS.dload X0.here hx rfl (hb hby at_54) rfl ?_
        show Steps p.tables e below (s₁.setTop (mkF m 56 #[.val (.int n), .val (.int k), .val (.int fl), .val (.int sh), .val (.long sc), .second, .val (.int (1 : Int32)), .val (.long (-n.toInt64)), .second, .val (.double d), .second, .unset] [(.double d)])) _
        refine XS.dnegS X0.here hx rfl (hb hby at_56) rfl (v := FP.dneg d) rfl ?_
        show Steps p.tables e below (s₁.setTop (mkF m 57 #[.val (.int n), .val (.int k), .val (.int fl), .val (.int sh), .val (.long sc), .second, .val (.int (1 : Int32)), .val (.long (-n.toInt64)), .second, .val (.double d), .second, .unset] [(.double (FP.dneg d))])) _
        refine XS.dstore X0.here hx rfl (hb hby at_57) rfl (l' := #[.val (.int n), .val (.int k), .val (.int fl), .val (.int sh), .val (.long sc), .second, .val (.int (1 : Int32)), .val (.long (-n.toInt64)), .second, .val (.double (FP.dneg d)), .second, .unset]) rfl ?_
        show Steps p.tables e below (s₁.setTop (mkF m 59 #[.val (.int n), .val (.int k), .val (.int fl), .val (.int sh), .val (.long sc), .second, .val (.int (1 : Int32)), .val (.long (-n.toInt64)), .second, .val (.double (FP.dneg d)), .second, .unset] [])) _
        refine XS.lload X0.here hx rfl (hb hby at_59) rfl ?_
        show Steps p.tables e below (s₁.setTop (mkF m 61 #[.val (.int n), .val (.int k), .val (.int fl), .val (.int sh), .val (.long sc), .second, .val (.int (1 : Int32)), .val (.long (-n.toInt64)), .second, .val (.double (FP.dneg d)), .second, .unset] [(.long (-n.toInt64))])) _
        refine XS.lconst X0.here hx rfl (hb hby at_61) ?_
        show Steps p.tables e below (s₁.setTop (mkF m 62 #[.val (.int n), .val (.int k), .val (.int fl), .val (.int sh), .val (.long sc), .second, .val (.int (1 : Int32)), .val (.long (-n.toInt64)), .second, .val (.double (FP.dneg d)), .second, .unset] [(.long (0 : Int64)), (.long (-n.toInt64))])) _
        refine XS.lcmp X0.here hx rfl (hb hby at_62) rfl ?_
        show Steps p.tables e below (s₁.setTop (mkF m 63 #[.val (.int n), .val (.int k), .val (.int fl), .val (.int sh), .val (.long sc), .second, .val (.int (1 : Int32)), .val (.long (-n.toInt64)), .second, .val (.double (FP.dneg d)), .second, .unset] [(.int (lcmpW (-n.toInt64) (0 : Int64)))])) _
        refine XS.ifYes X0.here hx rfl (pc0 := 63) (pc' := 78) rfl (hb hby at_63) rfl ((Jvm.Own.holdsL _ _ _).trans (Jvm.Own.dT (by rw [hm]; exact c1))) (by decide) (by decide) ?_
        show Steps p.tables e below (s₁.setTop (mkF m 78 #[.val (.int n), .val (.int k), .val (.int fl), .val (.int sh), .val (.long sc), .second, .val (.int (1 : Int32)), .val (.long (-n.toInt64)), .second, .val (.double (FP.dneg d)), .second, .unset] [])) _
        refine XS.iconst X0.here hx rfl (hb hby at_78) ?_
        show Steps p.tables e below (s₁.setTop (mkF m 79 #[.val (.int n), .val (.int k), .val (.int fl), .val (.int sh), .val (.long sc), .second, .val (.int (1 : Int32)), .val (.long (-n.toInt64)), .second, .val (.double (FP.dneg d)), .second, .unset] [(.int (0 : Int32))])) _
        refine XS.istore X0.here hx rfl (hb hby at_79) rfl (l' := #[.val (.int n), .val (.int k), .val (.int fl), .val (.int sh), .val (.long sc), .second, .val (.int (1 : Int32)), .val (.long (-n.toInt64)), .second, .val (.double (FP.dneg d)), .second, .val (.int (0 : Int32))]) rfl ?_
        show Steps p.tables e below (s₁.setTop (mkF m 81 #[.val (.int n), .val (.int k), .val (.int fl), .val (.int sh), .val (.long sc), .second, .val (.int (1 : Int32)), .val (.long (-n.toInt64)), .second, .val (.double (FP.dneg d)), .second, .val (.int (0 : Int32))] [])) _
        refine XS.dload X0.here hx rfl (hb hby at_81) rfl ?_
        show Steps p.tables e below (s₁.setTop (mkF m 83 #[.val (.int n), .val (.int k), .val (.int fl), .val (.int sh), .val (.long sc), .second, .val (.int (1 : Int32)), .val (.long (-n.toInt64)), .second, .val (.double (FP.dneg d)), .second, .val (.int (0 : Int32))] [(.double (FP.dneg d))])) _
        refine st1 _ ?_
        show Steps p.tables e below (T1.setTop (mkF m 86 #[.val (.int n), .val (.int k), .val (.int fl), .val (.int sh), .val (.long sc), .second, .val (.int (1 : Int32)), .val (.long (-n.toInt64)), .second, .val (.double (FP.dneg d)), .second, .val (.int (0 : Int32))] [(.int (0 : Int32))])) _
        refine XS.iload X1.here hx rfl (hb hby at_86) rfl ?_
        show Steps p.tables e below (T1.setTop (mkF m 88 #[.val (.int n), .val (.int k), .val (.int fl), .val (.int sh), .val (.long sc), .second, .val (.int (1 : Int32)), .val (.long (-n.toInt64)), .second, .val (.double (FP.dneg d)), .second, .val (.int (0 : Int32))] [(.int (0 : Int32)), (.int (0 : Int32))])) _
        refine XS.icmpNo X1.here hx rfl (hb hby at_88) rfl rfl ?_
        show Steps p.tables e below (T1.setTop (mkF m 91 #[.val (.int n), .val (.int k), .val (.int fl), .val (.int sh), .val (.long sc), .second, .val (.int (1 : Int32)), .val (.long (-n.toInt64)), .second, .val (.double (FP.dneg d)), .second, .val (.int (0 : Int32))] [])) _
        refine XS.iconst X1.here hx rfl (hb hby at_91) ?_
        show Steps p.tables e below (T1.setTop (mkF m 92 #[.val (.int n), .val (.int k), .val (.int fl), .val (.int sh), .val (.long sc), .second, .val (.int (1 : Int32)), .val (.long (-n.toInt64)), .second, .val (.double (FP.dneg d)), .second, .val (.int (0 : Int32))] [(.int (1 : Int32))])) _
        refine XS.goto X1.here hx rfl (pc0 := 92) (pc' := 96) rfl (hb hby at_92) (by decide) (by decide) ?_
        show Steps p.tables e below (T1.setTop (mkF m 96 #[.val (.int n), .val (.int k), .val (.int fl), .val (.int sh), .val (.long sc), .second, .val (.int (1 : Int32)), .val (.long (-n.toInt64)), .second, .val (.double (FP.dneg d)), .second, .val (.int (0 : Int32))] [(.int (1 : Int32))])) _
        exact retN X1 hx (t := .boolean) Bd.returns (by simp) (hb hby at_96) hr
      · show QL n0 _ T1.heap _
        exact ⟨rfl, Fr.app N0 N1⟩
    · by_cases c2 : (Jvm.Own.PN j : Int) ≤ (-n.toInt)
      · obtain ⟨_, _, ⟨T1, L1, k1, n1⟩, -, X1, ⟨Lc1, hQ1, l1, y1, z1⟩, st1⟩ := Jvm.LawKit.callS X0 hx (y := (⟨"com/example/gaithersburg/gaithersburg/graph/PageRank", "isValidDamping", "(D)Z"⟩ : MethodName)) hown (mvT hZ (hw _ (List.mem_of_getElem? (i := 0) rfl))) (mvT hZ (hw _ (List.mem_of_getElem? (i := 1) rfl))) (mvT hZ (hw _ (List.mem_of_getElem? (i := 2) rfl))) (mvT hZ (hw _ (List.mem_of_getElem? (i := 3) rfl))) (by decide) (backOf (W := 0) (rm1 l Z a0 hw [] (FP.dneg d) h0 n0 Z0 (0 : Int32) f2' (Or.inr (Or.inl ⟨k2 (by omega), k3 c2, rfl⟩))) hZ (hw _ (List.mem_of_getElem? (i := 3) rfl)) (hw _ (List.mem_of_getElem? (i := 2) rfl)) (by decide) (by decide)) (g := (mkF m 83 #[.val (.int n), .val (.int k), .val (.int fl), .val (.int sh), .val (.long sc), .second, .val (.int (1 : Int32)), .val (.long (-n.toInt64)), .second, .val (.double (FP.dneg d)), .second, .val (.int (0 : Int32))] [(.double (FP.dneg d))])) rfl (by rw [hml]; rfl) (argsL := [(.double (FP.dneg d))]) (rest := []) (lenOf pd_0 rfl) rfl (by show 2 * 0 + _ ≤ _; exact Nat.le_of_eq rfl) (hb hby at_83) (fun _ _ => ⟨rfl, e0, (by decide : 0 + 0 ≤ _), (by decide : 0 + 0 ≤ _)⟩)
        dsimp only [Pt.U, Pt.locs, Pt.cells, Pt.slots] at X1 l1 y1 z1 st1 hQ1
        subst l1 y1 z1
        obtain ⟨rfl, N1, e1⟩ := hQ1
        obtain ⟨fs, hr, hrun, hended, hW, hsame⟩ := X1.leave (v := some (.int (1 : Int32))) (fun h => by rw [Bd.returns] at h; cases h)
        refine ⟨_, _, pre0 _ ?_, hrun, hended, _, _, rfl, ?_, ⟨_, rfl⟩, hW, hsame.mono (by decide) (by decide)⟩
        · show Steps p.tables e below (s₁.setTop (mkF m 0 #[.val (.int n), .val (.int k), .val (.int fl), .unset, .unset, .unset, .unset, .unset, .unset, .unset, .unset, .unset] [])) _
          refine XS.iloadN X0.here hx rfl (hb hby at_0) rfl ?_
          show Steps p.tables e below (s₁.setTop (mkF m 1 #[.val (.int n), .val (.int k), .val (.int fl), .unset, .unset, .unset, .unset, .unset, .unset, .unset, .unset, .unset] [(.int k)])) _
          refine XS.bipush X0.here hx rfl (hb hby at_1) ?_
          show Steps p.tables e below (s₁.setTop (mkF m 3 #[.val (.int n), .val (.int k), .val (.int fl), .unset, .unset, .unset, .unset, .unset, .unset, .unset, .unset, .unset] [(.int (63 : Int32)), (.int k)])) _
          refine XS.iand X0.here hx rfl (hb hby at_3) rfl ?_
          show Steps p.tables e below (s₁.setTop (mkF m 4 #[.val (.int n), .val (.int k), .val (.int fl), .unset, .unset, .unset, .unset, .unset, .unset, .unset, .unset, .unset] [(.int (k &&& (63 : Int32)))])) _
          refine XS.bipush X0.here hx rfl (hb hby at_4) ?_
          show Steps p.tables e below (s₁.setTop (mkF m 6 #[.val (.int n), .val (.int k), .val (.int fl), .unset, .unset, .unset, .unset, .unset, .unset, .unset, .unset, .unset] [(.int (63 : Int32)), (.int (k &&& (63 : Int32)))])) _
          refine XS.irem X0.here hx rfl (hb hby at_6) rfl (by decide) ?_
          rw [hsh]
          show Steps p.tables e below (s₁.setTop (mkF m 7 #[.val (.int n), .val (.int k), .val (.int fl), .unset, .unset, .unset, .unset, .unset, .unset, .unset, .unset, .unset] [(.int sh)])) _
          refine XS.istoreN X0.here hx rfl (hb hby at_7) rfl (l' := #[.val (.int n), .val (.int k), .val (.int fl), .val (.int sh), .unset, .unset, .unset, .unset, .unset, .unset, .unset, .unset]) rfl ?_
          show Steps p.tables e below (s₁.setTop (mkF m 8 #[.val (.int n), .val (.int k), .val (.int fl), .val (.int sh), .unset, .unset, .unset, .unset, .unset, .unset, .unset, .unset] [])) _
          refine XS.lconst X0.here hx rfl (hb hby at_8) ?_
          show Steps p.tables e below (s₁.setTop (mkF m 9 #[.val (.int n), .val (.int k), .val (.int fl), .val (.int sh), .unset, .unset, .unset, .unset, .unset, .unset, .unset, .unset] [(.long (1 : Int64))])) _
          refine XS.iloadN X0.here hx rfl (hb hby at_9) rfl ?_
          show Steps p.tables e below (s₁.setTop (mkF m 10 #[.val (.int n), .val (.int k), .val (.int fl), .val (.int sh), .unset, .unset, .unset, .unset, .unset, .unset, .unset, .unset] [(.int sh), (.long (1 : Int64))])) _
          refine XS.lshl X0.here hx rfl (hb hby at_10) rfl ?_
          rw [hsc]
          show Steps p.tables e below (s₁.setTop (mkF m 11 #[.val (.int n), .val (.int k), .val (.int fl), .val (.int sh), .unset, .unset, .unset, .unset, .unset, .unset, .unset, .unset] [(.long sc)])) _
          refine XS.lstore X0.here hx rfl (hb hby at_11) rfl (l' := #[.val (.int n), .val (.int k), .val (.int fl), .val (.int sh), .val (.long sc), .second, .unset, .unset, .unset, .unset, .unset, .unset]) rfl ?_
          show Steps p.tables e below (s₁.setTop (mkF m 13 #[.val (.int n), .val (.int k), .val (.int fl), .val (.int sh), .val (.long sc), .second, .unset, .unset, .unset, .unset, .unset, .unset] [])) _
          refine XS.iloadN X0.here hx rfl (hb hby at_13) rfl ?_
          show Steps p.tables e below (s₁.setTop (mkF m 14 #[.val (.int n), .val (.int k), .val (.int fl), .val (.int sh), .val (.long sc), .second, .unset, .unset, .unset, .unset, .unset, .unset] [(.int fl)])) _
          refine XS.iconst X0.here hx rfl (hb hby at_14) ?_
          show Steps p.tables e below (s₁.setTop (mkF m 15 #[.val (.int n), .val (.int k), .val (.int fl), .val (.int sh), .val (.long sc), .second, .unset, .unset, .unset, .unset, .unset, .unset] [(.int (1 : Int32)), (.int fl)])) _
          refine XS.iand X0.here hx rfl (hb hby at_15) rfl ?_
          show Steps p.tables e below (s₁.setTop (mkF m 16 #[.val (.int n), .val (.int k), .val (.int fl), .val (.int sh), .val (.long sc), .second, .unset, .unset, .unset, .unset, .unset, .unset] [(.int (fl &&& (1 : Int32)))])) _
          refine XS.ifNo X0.here hx rfl (hb hby at_16) rfl ((Jvm.Own.holdsI _ _).trans (Jvm.Own.dF hf)) ?_
          show Steps p.tables e below (s₁.setTop (mkF m 19 #[.val (.int n), .val (.int k), .val (.int fl), .val (.int sh), .val (.long sc), .second, .unset, .unset, .unset, .unset, .unset, .unset] [])) _
          refine XS.iconst X0.here hx rfl (hb hby at_19) ?_
          show Steps p.tables e below (s₁.setTop (mkF m 20 #[.val (.int n), .val (.int k), .val (.int fl), .val (.int sh), .val (.long sc), .second, .unset, .unset, .unset, .unset, .unset, .unset] [(.int (1 : Int32))])) _
          refine XS.goto X0.here hx rfl (pc0 := 20) (pc' := 24) rfl (hb hby at_20) (by decide) (by decide) ?_
          show Steps p.tables e below (s₁.setTop (mkF m 24 #[.val (.int n), .val (.int k), .val (.int fl), .val (.int sh), .val (.long sc), .second, .unset, .unset, .unset, .unset, .unset, .unset] [(.int (1 : Int32))])) _
          refine XS.istore X0.here hx rfl (hb hby at_24) rfl (l' := #[.val (.int n), .val (.int k), .val (.int fl), .val (.int sh), .val (.long sc), .second, .val (.int (1 : Int32)), .unset, .unset, .unset, .unset, .unset]) rfl ?_
          show Steps p.tables e below (s₁.setTop (mkF m 26 #[.val (.int n), .val (.int k), .val (.int fl), .val (.int sh), .val (.long sc), .second, .val (.int (1 : Int32)), .unset, .unset, .unset, .unset, .unset] [])) _
          refine XS.iload X0.here hx rfl (hb hby at_26) rfl ?_
          show Steps p.tables e below (s₁.setTop (mkF m 28 #[.val (.int n), .val (.int k), .val (.int fl), .val (.int sh), .val (.long sc), .second, .val (.int (1 : Int32)), .unset, .unset, .unset, .unset, .unset] [(.int (1 : Int32))])) _
          refine XS.ifNo X0.here hx rfl (hb hby at_28) rfl rfl ?_
          show Steps p.tables e below (s₁.setTop (mkF m 31 #[.val (.int n), .val (.int k), .val (.int fl), .val (.int sh), .val (.long sc), .second, .val (.int (1 : Int32)), .unset, .unset, .unset, .unset, .unset] [])) _
          refine XS.iloadN X0.here hx rfl (hb hby at_31) rfl ?_
          show Steps p.tables e below (s₁.setTop (mkF m 32 #[.val (.int n), .val (.int k), .val (.int fl), .val (.int sh), .val (.long sc), .second, .val (.int (1 : Int32)), .unset, .unset, .unset, .unset, .unset] [(.int n)])) _
          refine XS.i2l X0.here hx rfl (hb hby at_32) rfl ?_
          show Steps p.tables e below (s₁.setTop (mkF m 33 #[.val (.int n), .val (.int k), .val (.int fl), .val (.int sh), .val (.long sc), .second, .val (.int (1 : Int32)), .unset, .unset, .unset, .unset, .unset] [(.long n.toInt64)])) _
          refine XS.lneg X0.here hx rfl (hb hby at_33) rfl ?_
          show Steps p.tables e below (s₁.setTop (mkF m 34 #[.val (.int n), .val (.int k), .val (.int fl), .val (.int sh), .val (.long sc), .second, .val (.int (1 : Int32)), .unset, .unset, .unset, .unset, .unset] [(.long (-n.toInt64))])) _
          refine XS.goto X0.here hx rfl (pc0 := 34) (pc' := 39) rfl (hb hby at_34) (by decide) (by decide) ?_
          show Steps p.tables e below (s₁.setTop (mkF m 39 #[.val (.int n), .val (.int k), .val (.int fl), .val (.int sh), .val (.long sc), .second, .val (.int (1 : Int32)), .unset, .unset, .unset, .unset, .unset] [(.long (-n.toInt64))])) _
          refine XS.lstore X0.here hx rfl (hb hby at_39) rfl (l' := #[.val (.int n), .val (.int k), .val (.int fl), .val (.int sh), .val (.long sc), .second, .val (.int (1 : Int32)), .val (.long (-n.toInt64)), .second, .unset, .unset, .unset]) rfl ?_
          show Steps p.tables e below (s₁.setTop (mkF m 41 #[.val (.int n), .val (.int k), .val (.int fl), .val (.int sh), .val (.long sc), .second, .val (.int (1 : Int32)), .val (.long (-n.toInt64)), .second, .unset, .unset, .unset] [])) _
          refine XS.iloadN X0.here hx rfl (hb hby at_41) rfl ?_
          show Steps p.tables e below (s₁.setTop (mkF m 42 #[.val (.int n), .val (.int k), .val (.int fl), .val (.int sh), .val (.long sc), .second, .val (.int (1 : Int32)), .val (.long (-n.toInt64)), .second, .unset, .unset, .unset] [(.int n)])) _
          refine XS.i2dS X0.here hx rfl (hb hby at_42) rfl (v := FP.i2d n) rfl ?_
          show Steps p.tables e below (s₁.setTop (mkF m 43 #[.val (.int n), .val (.int k), .val (.int fl), .val (.int sh), .val (.long sc), .second, .val (.int (1 : Int32)), .val (.long (-n.toInt64)), .second, .unset, .unset, .unset] [(.double (FP.i2d n))])) _
          refine XS.lload X0.here hx rfl (hb hby at_43) rfl ?_
          show Steps p.tables e below (s₁.setTop (mkF m 45 #[.val (.int n), .val (.int k), .val (.int fl), .val (.int sh), .val (.long sc), .second, .val (.int (1 : Int32)), .val (.long (-n.toInt64)), .second, .unset, .unset, .unset] [(.long sc), (.double (FP.i2d n))])) _
          refine XS.l2dS X0.here hx rfl (hb hby at_45) rfl (v := FP.l2d sc) rfl ?_
          show Steps p.tables e below (s₁.setTop (mkF m 46 #[.val (.int n), .val (.int k), .val (.int fl), .val (.int sh), .val (.long sc), .second, .val (.int (1 : Int32)), .val (.long (-n.toInt64)), .second, .unset, .unset, .unset] [(.double (FP.l2d sc)), (.double (FP.i2d n))])) _
          refine XS.ddivS X0.here hx rfl (hb hby at_46) rfl hnn (v := d) hd ?_
          show Steps p.tables e below (s₁.setTop (mkF m 47 #[.val (.int n), .val (.int k), .val (.int fl), .val (.int sh), .val (.long sc), .second, .val (.int (1 : Int32)), .val (.long (-n.toInt64)), .second, .unset, .unset, .unset] [(.double d)])) _
          refine XS.dstore X0.here hx rfl (hb hby at_47) rfl (l' := #[.val (.int n), .val (.int k), .val (.int fl), .val (.int sh), .val (.long sc), .second, .val (.int (1 : Int32)), .val (.long (-n.toInt64)), .second, .val (.double d), .second, .unset]) rfl ?_
          show Steps p.tables e below (s₁.setTop (mkF m 49 #[.val (.int n), .val (.int k), .val (.int fl), .val (.int sh), .val (.long sc), .second, .val (.int (1 : Int32)), .val (.long (-n.toInt64)), .second, .val (.double d), .second, .unset] [])) _
          refine XS.iload X0.here hx rfl (hb hby at_49) rfl ?_
          show Steps p.tables e below (s₁.setTop (mkF m 51 #[.val (.int n), .val (.int k), .val (.int fl), .val (.int sh), .val (.long sc), .second, .val (.int (1 : Int32)), .val (.long (-n.toInt64)), .second, .val (.double d), .second, .unset] [(.int (1 : Int32))])) _
          refine XS.ifNo X0.here hx rfl (hb hby at_51) rfl rfl ?_
          show Steps p.tables e below (s₁.setTop (mkF m 54 #[.val (.int n), .val (.int k), .val (.int fl), .val (.int sh), .val (.long sc), .second, .val (.int (1 : Int32)), .val (.long (-n.toInt64)), .second, .val (.double d), .second, .unset] [])) _
          refine XS.dload X0.here hx rfl (hb hby at_54) rfl ?_
          show Steps p.tables e below (s₁.setTop (mkF m 56 #[.val (.int n), .val (.int k), .val (.int fl), .val (.int sh), .val (.long sc), .second, .val (.int (1 : Int32)), .val (.long (-n.toInt64)), .second, .val (.double d), .second, .unset] [(.double d)])) _
          refine XS.dnegS X0.here hx rfl (hb hby at_56) rfl (v := FP.dneg d) rfl ?_
          show Steps p.tables e below (s₁.setTop (mkF m 57 #[.val (.int n), .val (.int k), .val (.int fl), .val (.int sh), .val (.long sc), .second, .val (.int (1 : Int32)), .val (.long (-n.toInt64)), .second, .val (.double d), .second, .unset] [(.double (FP.dneg d))])) _
          refine XS.dstore X0.here hx rfl (hb hby at_57) rfl (l' := #[.val (.int n), .val (.int k), .val (.int fl), .val (.int sh), .val (.long sc), .second, .val (.int (1 : Int32)), .val (.long (-n.toInt64)), .second, .val (.double (FP.dneg d)), .second, .unset]) rfl ?_
          show Steps p.tables e below (s₁.setTop (mkF m 59 #[.val (.int n), .val (.int k), .val (.int fl), .val (.int sh), .val (.long sc), .second, .val (.int (1 : Int32)), .val (.long (-n.toInt64)), .second, .val (.double (FP.dneg d)), .second, .unset] [])) _
          refine XS.lload X0.here hx rfl (hb hby at_59) rfl ?_
          show Steps p.tables e below (s₁.setTop (mkF m 61 #[.val (.int n), .val (.int k), .val (.int fl), .val (.int sh), .val (.long sc), .second, .val (.int (1 : Int32)), .val (.long (-n.toInt64)), .second, .val (.double (FP.dneg d)), .second, .unset] [(.long (-n.toInt64))])) _
          refine XS.lconst X0.here hx rfl (hb hby at_61) ?_
          show Steps p.tables e below (s₁.setTop (mkF m 62 #[.val (.int n), .val (.int k), .val (.int fl), .val (.int sh), .val (.long sc), .second, .val (.int (1 : Int32)), .val (.long (-n.toInt64)), .second, .val (.double (FP.dneg d)), .second, .unset] [(.long (0 : Int64)), (.long (-n.toInt64))])) _
          refine XS.lcmp X0.here hx rfl (hb hby at_62) rfl ?_
          show Steps p.tables e below (s₁.setTop (mkF m 63 #[.val (.int n), .val (.int k), .val (.int fl), .val (.int sh), .val (.long sc), .second, .val (.int (1 : Int32)), .val (.long (-n.toInt64)), .second, .val (.double (FP.dneg d)), .second, .unset] [(.int (lcmpW (-n.toInt64) (0 : Int64)))])) _
          refine XS.ifNo X0.here hx rfl (hb hby at_63) rfl ((Jvm.Own.holdsL _ _ _).trans (Jvm.Own.dF (by rw [hm]; exact c1))) ?_
          show Steps p.tables e below (s₁.setTop (mkF m 66 #[.val (.int n), .val (.int k), .val (.int fl), .val (.int sh), .val (.long sc), .second, .val (.int (1 : Int32)), .val (.long (-n.toInt64)), .second, .val (.double (FP.dneg d)), .second, .unset] [])) _
          refine XS.lload X0.here hx rfl (hb hby at_66) rfl ?_
          show Steps p.tables e below (s₁.setTop (mkF m 68 #[.val (.int n), .val (.int k), .val (.int fl), .val (.int sh), .val (.long sc), .second, .val (.int (1 : Int32)), .val (.long (-n.toInt64)), .second, .val (.double (FP.dneg d)), .second, .unset] [(.long (-n.toInt64))])) _
          refine XS.lload X0.here hx rfl (hb hby at_68) rfl ?_
          show Steps p.tables e below (s₁.setTop (mkF m 70 #[.val (.int n), .val (.int k), .val (.int fl), .val (.int sh), .val (.long sc), .second, .val (.int (1 : Int32)), .val (.long (-n.toInt64)), .second, .val (.double (FP.dneg d)), .second, .unset] [(.long sc), (.long (-n.toInt64))])) _
          refine XS.lcmp X0.here hx rfl (hb hby at_70) rfl ?_
          show Steps p.tables e below (s₁.setTop (mkF m 71 #[.val (.int n), .val (.int k), .val (.int fl), .val (.int sh), .val (.long sc), .second, .val (.int (1 : Int32)), .val (.long (-n.toInt64)), .second, .val (.double (FP.dneg d)), .second, .unset] [(.int (lcmpW (-n.toInt64) sc))])) _
          refine XS.ifYes X0.here hx rfl (pc0 := 71) (pc' := 78) rfl (hb hby at_71) rfl ((Jvm.Own.holdsL _ _ _).trans (Jvm.Own.dT (by rw [hm]; rw [hsc0]; exact c2))) (by decide) (by decide) ?_
          show Steps p.tables e below (s₁.setTop (mkF m 78 #[.val (.int n), .val (.int k), .val (.int fl), .val (.int sh), .val (.long sc), .second, .val (.int (1 : Int32)), .val (.long (-n.toInt64)), .second, .val (.double (FP.dneg d)), .second, .unset] [])) _
          refine XS.iconst X0.here hx rfl (hb hby at_78) ?_
          show Steps p.tables e below (s₁.setTop (mkF m 79 #[.val (.int n), .val (.int k), .val (.int fl), .val (.int sh), .val (.long sc), .second, .val (.int (1 : Int32)), .val (.long (-n.toInt64)), .second, .val (.double (FP.dneg d)), .second, .unset] [(.int (0 : Int32))])) _
          refine XS.istore X0.here hx rfl (hb hby at_79) rfl (l' := #[.val (.int n), .val (.int k), .val (.int fl), .val (.int sh), .val (.long sc), .second, .val (.int (1 : Int32)), .val (.long (-n.toInt64)), .second, .val (.double (FP.dneg d)), .second, .val (.int (0 : Int32))]) rfl ?_
          show Steps p.tables e below (s₁.setTop (mkF m 81 #[.val (.int n), .val (.int k), .val (.int fl), .val (.int sh), .val (.long sc), .second, .val (.int (1 : Int32)), .val (.long (-n.toInt64)), .second, .val (.double (FP.dneg d)), .second, .val (.int (0 : Int32))] [])) _
          refine XS.dload X0.here hx rfl (hb hby at_81) rfl ?_
          show Steps p.tables e below (s₁.setTop (mkF m 83 #[.val (.int n), .val (.int k), .val (.int fl), .val (.int sh), .val (.long sc), .second, .val (.int (1 : Int32)), .val (.long (-n.toInt64)), .second, .val (.double (FP.dneg d)), .second, .val (.int (0 : Int32))] [(.double (FP.dneg d))])) _
          refine st1 _ ?_
          show Steps p.tables e below (T1.setTop (mkF m 86 #[.val (.int n), .val (.int k), .val (.int fl), .val (.int sh), .val (.long sc), .second, .val (.int (1 : Int32)), .val (.long (-n.toInt64)), .second, .val (.double (FP.dneg d)), .second, .val (.int (0 : Int32))] [(.int (0 : Int32))])) _
          refine XS.iload X1.here hx rfl (hb hby at_86) rfl ?_
          show Steps p.tables e below (T1.setTop (mkF m 88 #[.val (.int n), .val (.int k), .val (.int fl), .val (.int sh), .val (.long sc), .second, .val (.int (1 : Int32)), .val (.long (-n.toInt64)), .second, .val (.double (FP.dneg d)), .second, .val (.int (0 : Int32))] [(.int (0 : Int32)), (.int (0 : Int32))])) _
          refine XS.icmpNo X1.here hx rfl (hb hby at_88) rfl rfl ?_
          show Steps p.tables e below (T1.setTop (mkF m 91 #[.val (.int n), .val (.int k), .val (.int fl), .val (.int sh), .val (.long sc), .second, .val (.int (1 : Int32)), .val (.long (-n.toInt64)), .second, .val (.double (FP.dneg d)), .second, .val (.int (0 : Int32))] [])) _
          refine XS.iconst X1.here hx rfl (hb hby at_91) ?_
          show Steps p.tables e below (T1.setTop (mkF m 92 #[.val (.int n), .val (.int k), .val (.int fl), .val (.int sh), .val (.long sc), .second, .val (.int (1 : Int32)), .val (.long (-n.toInt64)), .second, .val (.double (FP.dneg d)), .second, .val (.int (0 : Int32))] [(.int (1 : Int32))])) _
          refine XS.goto X1.here hx rfl (pc0 := 92) (pc' := 96) rfl (hb hby at_92) (by decide) (by decide) ?_
          show Steps p.tables e below (T1.setTop (mkF m 96 #[.val (.int n), .val (.int k), .val (.int fl), .val (.int sh), .val (.long sc), .second, .val (.int (1 : Int32)), .val (.long (-n.toInt64)), .second, .val (.double (FP.dneg d)), .second, .val (.int (0 : Int32))] [(.int (1 : Int32))])) _
          exact retN X1 hx (t := .boolean) Bd.returns (by simp) (hb hby at_96) hr
        · show QL n0 _ T1.heap _
          exact ⟨rfl, Fr.app N0 N1⟩
      · obtain ⟨_, _, ⟨T1, L1, k1, n1⟩, -, X1, ⟨Lc1, hQ1, l1, y1, z1⟩, st1⟩ := Jvm.LawKit.callS X0 hx (y := (⟨"com/example/gaithersburg/gaithersburg/graph/PageRank", "isValidDamping", "(D)Z"⟩ : MethodName)) hown (mvT hZ (hw _ (List.mem_of_getElem? (i := 0) rfl))) (mvT hZ (hw _ (List.mem_of_getElem? (i := 1) rfl))) (mvT hZ (hw _ (List.mem_of_getElem? (i := 2) rfl))) (mvT hZ (hw _ (List.mem_of_getElem? (i := 3) rfl))) (by decide) (backOf (W := 0) (rm1 l Z a0 hw [] (FP.dneg d) h0 n0 Z0 (1 : Int32) f2' (Or.inr (Or.inr ⟨k2 (by omega), k4 (by omega), rfl⟩))) hZ (hw _ (List.mem_of_getElem? (i := 3) rfl)) (hw _ (List.mem_of_getElem? (i := 2) rfl)) (by decide) (by decide)) (g := (mkF m 83 #[.val (.int n), .val (.int k), .val (.int fl), .val (.int sh), .val (.long sc), .second, .val (.int (1 : Int32)), .val (.long (-n.toInt64)), .second, .val (.double (FP.dneg d)), .second, .val (.int (1 : Int32))] [(.double (FP.dneg d))])) rfl (by rw [hml]; rfl) (argsL := [(.double (FP.dneg d))]) (rest := []) (lenOf pd_0 rfl) rfl (by show 2 * 0 + _ ≤ _; exact Nat.le_of_eq rfl) (hb hby at_83) (fun _ _ => ⟨rfl, e0, (by decide : 0 + 0 ≤ _), (by decide : 0 + 0 ≤ _)⟩)
        dsimp only [Pt.U, Pt.locs, Pt.cells, Pt.slots] at X1 l1 y1 z1 st1 hQ1
        subst l1 y1 z1
        obtain ⟨rfl, N1, e1⟩ := hQ1
        obtain ⟨fs, hr, hrun, hended, hW, hsame⟩ := X1.leave (v := some (.int (1 : Int32))) (fun h => by rw [Bd.returns] at h; cases h)
        refine ⟨_, _, pre0 _ ?_, hrun, hended, _, _, rfl, ?_, ⟨_, rfl⟩, hW, hsame.mono (by decide) (by decide)⟩
        · show Steps p.tables e below (s₁.setTop (mkF m 0 #[.val (.int n), .val (.int k), .val (.int fl), .unset, .unset, .unset, .unset, .unset, .unset, .unset, .unset, .unset] [])) _
          refine XS.iloadN X0.here hx rfl (hb hby at_0) rfl ?_
          show Steps p.tables e below (s₁.setTop (mkF m 1 #[.val (.int n), .val (.int k), .val (.int fl), .unset, .unset, .unset, .unset, .unset, .unset, .unset, .unset, .unset] [(.int k)])) _
          refine XS.bipush X0.here hx rfl (hb hby at_1) ?_
          show Steps p.tables e below (s₁.setTop (mkF m 3 #[.val (.int n), .val (.int k), .val (.int fl), .unset, .unset, .unset, .unset, .unset, .unset, .unset, .unset, .unset] [(.int (63 : Int32)), (.int k)])) _
          refine XS.iand X0.here hx rfl (hb hby at_3) rfl ?_
          show Steps p.tables e below (s₁.setTop (mkF m 4 #[.val (.int n), .val (.int k), .val (.int fl), .unset, .unset, .unset, .unset, .unset, .unset, .unset, .unset, .unset] [(.int (k &&& (63 : Int32)))])) _
          refine XS.bipush X0.here hx rfl (hb hby at_4) ?_
          show Steps p.tables e below (s₁.setTop (mkF m 6 #[.val (.int n), .val (.int k), .val (.int fl), .unset, .unset, .unset, .unset, .unset, .unset, .unset, .unset, .unset] [(.int (63 : Int32)), (.int (k &&& (63 : Int32)))])) _
          refine XS.irem X0.here hx rfl (hb hby at_6) rfl (by decide) ?_
          rw [hsh]
          show Steps p.tables e below (s₁.setTop (mkF m 7 #[.val (.int n), .val (.int k), .val (.int fl), .unset, .unset, .unset, .unset, .unset, .unset, .unset, .unset, .unset] [(.int sh)])) _
          refine XS.istoreN X0.here hx rfl (hb hby at_7) rfl (l' := #[.val (.int n), .val (.int k), .val (.int fl), .val (.int sh), .unset, .unset, .unset, .unset, .unset, .unset, .unset, .unset]) rfl ?_
          show Steps p.tables e below (s₁.setTop (mkF m 8 #[.val (.int n), .val (.int k), .val (.int fl), .val (.int sh), .unset, .unset, .unset, .unset, .unset, .unset, .unset, .unset] [])) _
          refine XS.lconst X0.here hx rfl (hb hby at_8) ?_
          show Steps p.tables e below (s₁.setTop (mkF m 9 #[.val (.int n), .val (.int k), .val (.int fl), .val (.int sh), .unset, .unset, .unset, .unset, .unset, .unset, .unset, .unset] [(.long (1 : Int64))])) _
          refine XS.iloadN X0.here hx rfl (hb hby at_9) rfl ?_
          show Steps p.tables e below (s₁.setTop (mkF m 10 #[.val (.int n), .val (.int k), .val (.int fl), .val (.int sh), .unset, .unset, .unset, .unset, .unset, .unset, .unset, .unset] [(.int sh), (.long (1 : Int64))])) _
          refine XS.lshl X0.here hx rfl (hb hby at_10) rfl ?_
          rw [hsc]
          show Steps p.tables e below (s₁.setTop (mkF m 11 #[.val (.int n), .val (.int k), .val (.int fl), .val (.int sh), .unset, .unset, .unset, .unset, .unset, .unset, .unset, .unset] [(.long sc)])) _
          refine XS.lstore X0.here hx rfl (hb hby at_11) rfl (l' := #[.val (.int n), .val (.int k), .val (.int fl), .val (.int sh), .val (.long sc), .second, .unset, .unset, .unset, .unset, .unset, .unset]) rfl ?_
          show Steps p.tables e below (s₁.setTop (mkF m 13 #[.val (.int n), .val (.int k), .val (.int fl), .val (.int sh), .val (.long sc), .second, .unset, .unset, .unset, .unset, .unset, .unset] [])) _
          refine XS.iloadN X0.here hx rfl (hb hby at_13) rfl ?_
          show Steps p.tables e below (s₁.setTop (mkF m 14 #[.val (.int n), .val (.int k), .val (.int fl), .val (.int sh), .val (.long sc), .second, .unset, .unset, .unset, .unset, .unset, .unset] [(.int fl)])) _
          refine XS.iconst X0.here hx rfl (hb hby at_14) ?_
          show Steps p.tables e below (s₁.setTop (mkF m 15 #[.val (.int n), .val (.int k), .val (.int fl), .val (.int sh), .val (.long sc), .second, .unset, .unset, .unset, .unset, .unset, .unset] [(.int (1 : Int32)), (.int fl)])) _
          refine XS.iand X0.here hx rfl (hb hby at_15) rfl ?_
          show Steps p.tables e below (s₁.setTop (mkF m 16 #[.val (.int n), .val (.int k), .val (.int fl), .val (.int sh), .val (.long sc), .second, .unset, .unset, .unset, .unset, .unset, .unset] [(.int (fl &&& (1 : Int32)))])) _
          refine XS.ifNo X0.here hx rfl (hb hby at_16) rfl ((Jvm.Own.holdsI _ _).trans (Jvm.Own.dF hf)) ?_
          show Steps p.tables e below (s₁.setTop (mkF m 19 #[.val (.int n), .val (.int k), .val (.int fl), .val (.int sh), .val (.long sc), .second, .unset, .unset, .unset, .unset, .unset, .unset] [])) _
          refine XS.iconst X0.here hx rfl (hb hby at_19) ?_
          show Steps p.tables e below (s₁.setTop (mkF m 20 #[.val (.int n), .val (.int k), .val (.int fl), .val (.int sh), .val (.long sc), .second, .unset, .unset, .unset, .unset, .unset, .unset] [(.int (1 : Int32))])) _
          refine XS.goto X0.here hx rfl (pc0 := 20) (pc' := 24) rfl (hb hby at_20) (by decide) (by decide) ?_
          show Steps p.tables e below (s₁.setTop (mkF m 24 #[.val (.int n), .val (.int k), .val (.int fl), .val (.int sh), .val (.long sc), .second, .unset, .unset, .unset, .unset, .unset, .unset] [(.int (1 : Int32))])) _
          refine XS.istore X0.here hx rfl (hb hby at_24) rfl (l' := #[.val (.int n), .val (.int k), .val (.int fl), .val (.int sh), .val (.long sc), .second, .val (.int (1 : Int32)), .unset, .unset, .unset, .unset, .unset]) rfl ?_
          show Steps p.tables e below (s₁.setTop (mkF m 26 #[.val (.int n), .val (.int k), .val (.int fl), .val (.int sh), .val (.long sc), .second, .val (.int (1 : Int32)), .unset, .unset, .unset, .unset, .unset] [])) _
          refine XS.iload X0.here hx rfl (hb hby at_26) rfl ?_
          show Steps p.tables e below (s₁.setTop (mkF m 28 #[.val (.int n), .val (.int k), .val (.int fl), .val (.int sh), .val (.long sc), .second, .val (.int (1 : Int32)), .unset, .unset, .unset, .unset, .unset] [(.int (1 : Int32))])) _
          refine XS.ifNo X0.here hx rfl (hb hby at_28) rfl rfl ?_
          show Steps p.tables e below (s₁.setTop (mkF m 31 #[.val (.int n), .val (.int k), .val (.int fl), .val (.int sh), .val (.long sc), .second, .val (.int (1 : Int32)), .unset, .unset, .unset, .unset, .unset] [])) _
          refine XS.iloadN X0.here hx rfl (hb hby at_31) rfl ?_
          show Steps p.tables e below (s₁.setTop (mkF m 32 #[.val (.int n), .val (.int k), .val (.int fl), .val (.int sh), .val (.long sc), .second, .val (.int (1 : Int32)), .unset, .unset, .unset, .unset, .unset] [(.int n)])) _
          refine XS.i2l X0.here hx rfl (hb hby at_32) rfl ?_
          show Steps p.tables e below (s₁.setTop (mkF m 33 #[.val (.int n), .val (.int k), .val (.int fl), .val (.int sh), .val (.long sc), .second, .val (.int (1 : Int32)), .unset, .unset, .unset, .unset, .unset] [(.long n.toInt64)])) _
          refine XS.lneg X0.here hx rfl (hb hby at_33) rfl ?_
          show Steps p.tables e below (s₁.setTop (mkF m 34 #[.val (.int n), .val (.int k), .val (.int fl), .val (.int sh), .val (.long sc), .second, .val (.int (1 : Int32)), .unset, .unset, .unset, .unset, .unset] [(.long (-n.toInt64))])) _
          refine XS.goto X0.here hx rfl (pc0 := 34) (pc' := 39) rfl (hb hby at_34) (by decide) (by decide) ?_
          show Steps p.tables e below (s₁.setTop (mkF m 39 #[.val (.int n), .val (.int k), .val (.int fl), .val (.int sh), .val (.long sc), .second, .val (.int (1 : Int32)), .unset, .unset, .unset, .unset, .unset] [(.long (-n.toInt64))])) _
          refine XS.lstore X0.here hx rfl (hb hby at_39) rfl (l' := #[.val (.int n), .val (.int k), .val (.int fl), .val (.int sh), .val (.long sc), .second, .val (.int (1 : Int32)), .val (.long (-n.toInt64)), .second, .unset, .unset, .unset]) rfl ?_
          show Steps p.tables e below (s₁.setTop (mkF m 41 #[.val (.int n), .val (.int k), .val (.int fl), .val (.int sh), .val (.long sc), .second, .val (.int (1 : Int32)), .val (.long (-n.toInt64)), .second, .unset, .unset, .unset] [])) _
          refine XS.iloadN X0.here hx rfl (hb hby at_41) rfl ?_
          show Steps p.tables e below (s₁.setTop (mkF m 42 #[.val (.int n), .val (.int k), .val (.int fl), .val (.int sh), .val (.long sc), .second, .val (.int (1 : Int32)), .val (.long (-n.toInt64)), .second, .unset, .unset, .unset] [(.int n)])) _
          refine XS.i2dS X0.here hx rfl (hb hby at_42) rfl (v := FP.i2d n) rfl ?_
          show Steps p.tables e below (s₁.setTop (mkF m 43 #[.val (.int n), .val (.int k), .val (.int fl), .val (.int sh), .val (.long sc), .second, .val (.int (1 : Int32)), .val (.long (-n.toInt64)), .second, .unset, .unset, .unset] [(.double (FP.i2d n))])) _
          refine XS.lload X0.here hx rfl (hb hby at_43) rfl ?_
          show Steps p.tables e below (s₁.setTop (mkF m 45 #[.val (.int n), .val (.int k), .val (.int fl), .val (.int sh), .val (.long sc), .second, .val (.int (1 : Int32)), .val (.long (-n.toInt64)), .second, .unset, .unset, .unset] [(.long sc), (.double (FP.i2d n))])) _
          refine XS.l2dS X0.here hx rfl (hb hby at_45) rfl (v := FP.l2d sc) rfl ?_
          show Steps p.tables e below (s₁.setTop (mkF m 46 #[.val (.int n), .val (.int k), .val (.int fl), .val (.int sh), .val (.long sc), .second, .val (.int (1 : Int32)), .val (.long (-n.toInt64)), .second, .unset, .unset, .unset] [(.double (FP.l2d sc)), (.double (FP.i2d n))])) _
          refine XS.ddivS X0.here hx rfl (hb hby at_46) rfl hnn (v := d) hd ?_
          show Steps p.tables e below (s₁.setTop (mkF m 47 #[.val (.int n), .val (.int k), .val (.int fl), .val (.int sh), .val (.long sc), .second, .val (.int (1 : Int32)), .val (.long (-n.toInt64)), .second, .unset, .unset, .unset] [(.double d)])) _
          refine XS.dstore X0.here hx rfl (hb hby at_47) rfl (l' := #[.val (.int n), .val (.int k), .val (.int fl), .val (.int sh), .val (.long sc), .second, .val (.int (1 : Int32)), .val (.long (-n.toInt64)), .second, .val (.double d), .second, .unset]) rfl ?_
          show Steps p.tables e below (s₁.setTop (mkF m 49 #[.val (.int n), .val (.int k), .val (.int fl), .val (.int sh), .val (.long sc), .second, .val (.int (1 : Int32)), .val (.long (-n.toInt64)), .second, .val (.double d), .second, .unset] [])) _
          refine XS.iload X0.here hx rfl (hb hby at_49) rfl ?_
          show Steps p.tables e below (s₁.setTop (mkF m 51 #[.val (.int n), .val (.int k), .val (.int fl), .val (.int sh), .val (.long sc), .second, .val (.int (1 : Int32)), .val (.long (-n.toInt64)), .second, .val (.double d), .second, .unset] [(.int (1 : Int32))])) _
          refine XS.ifNo X0.here hx rfl (hb hby at_51) rfl rfl ?_
          show Steps p.tables e below (s₁.setTop (mkF m 54 #[.val (.int n), .val (.int k), .val (.int fl), .val (.int sh), .val (.long sc), .second, .val (.int (1 : Int32)), .val (.long (-n.toInt64)), .second, .val (.double d), .second, .unset] [])) _
          refine XS.dload X0.here hx rfl (hb hby at_54) rfl ?_
          show Steps p.tables e below (s₁.setTop (mkF m 56 #[.val (.int n), .val (.int k), .val (.int fl), .val (.int sh), .val (.long sc), .second, .val (.int (1 : Int32)), .val (.long (-n.toInt64)), .second, .val (.double d), .second, .unset] [(.double d)])) _
          refine XS.dnegS X0.here hx rfl (hb hby at_56) rfl (v := FP.dneg d) rfl ?_
          show Steps p.tables e below (s₁.setTop (mkF m 57 #[.val (.int n), .val (.int k), .val (.int fl), .val (.int sh), .val (.long sc), .second, .val (.int (1 : Int32)), .val (.long (-n.toInt64)), .second, .val (.double d), .second, .unset] [(.double (FP.dneg d))])) _
          refine XS.dstore X0.here hx rfl (hb hby at_57) rfl (l' := #[.val (.int n), .val (.int k), .val (.int fl), .val (.int sh), .val (.long sc), .second, .val (.int (1 : Int32)), .val (.long (-n.toInt64)), .second, .val (.double (FP.dneg d)), .second, .unset]) rfl ?_
          show Steps p.tables e below (s₁.setTop (mkF m 59 #[.val (.int n), .val (.int k), .val (.int fl), .val (.int sh), .val (.long sc), .second, .val (.int (1 : Int32)), .val (.long (-n.toInt64)), .second, .val (.double (FP.dneg d)), .second, .unset] [])) _
          refine XS.lload X0.here hx rfl (hb hby at_59) rfl ?_
          show Steps p.tables e below (s₁.setTop (mkF m 61 #[.val (.int n), .val (.int k), .val (.int fl), .val (.int sh), .val (.long sc), .second, .val (.int (1 : Int32)), .val (.long (-n.toInt64)), .second, .val (.double (FP.dneg d)), .second, .unset] [(.long (-n.toInt64))])) _
          refine XS.lconst X0.here hx rfl (hb hby at_61) ?_
          show Steps p.tables e below (s₁.setTop (mkF m 62 #[.val (.int n), .val (.int k), .val (.int fl), .val (.int sh), .val (.long sc), .second, .val (.int (1 : Int32)), .val (.long (-n.toInt64)), .second, .val (.double (FP.dneg d)), .second, .unset] [(.long (0 : Int64)), (.long (-n.toInt64))])) _
          refine XS.lcmp X0.here hx rfl (hb hby at_62) rfl ?_
          show Steps p.tables e below (s₁.setTop (mkF m 63 #[.val (.int n), .val (.int k), .val (.int fl), .val (.int sh), .val (.long sc), .second, .val (.int (1 : Int32)), .val (.long (-n.toInt64)), .second, .val (.double (FP.dneg d)), .second, .unset] [(.int (lcmpW (-n.toInt64) (0 : Int64)))])) _
          refine XS.ifNo X0.here hx rfl (hb hby at_63) rfl ((Jvm.Own.holdsL _ _ _).trans (Jvm.Own.dF (by rw [hm]; exact c1))) ?_
          show Steps p.tables e below (s₁.setTop (mkF m 66 #[.val (.int n), .val (.int k), .val (.int fl), .val (.int sh), .val (.long sc), .second, .val (.int (1 : Int32)), .val (.long (-n.toInt64)), .second, .val (.double (FP.dneg d)), .second, .unset] [])) _
          refine XS.lload X0.here hx rfl (hb hby at_66) rfl ?_
          show Steps p.tables e below (s₁.setTop (mkF m 68 #[.val (.int n), .val (.int k), .val (.int fl), .val (.int sh), .val (.long sc), .second, .val (.int (1 : Int32)), .val (.long (-n.toInt64)), .second, .val (.double (FP.dneg d)), .second, .unset] [(.long (-n.toInt64))])) _
          refine XS.lload X0.here hx rfl (hb hby at_68) rfl ?_
          show Steps p.tables e below (s₁.setTop (mkF m 70 #[.val (.int n), .val (.int k), .val (.int fl), .val (.int sh), .val (.long sc), .second, .val (.int (1 : Int32)), .val (.long (-n.toInt64)), .second, .val (.double (FP.dneg d)), .second, .unset] [(.long sc), (.long (-n.toInt64))])) _
          refine XS.lcmp X0.here hx rfl (hb hby at_70) rfl ?_
          show Steps p.tables e below (s₁.setTop (mkF m 71 #[.val (.int n), .val (.int k), .val (.int fl), .val (.int sh), .val (.long sc), .second, .val (.int (1 : Int32)), .val (.long (-n.toInt64)), .second, .val (.double (FP.dneg d)), .second, .unset] [(.int (lcmpW (-n.toInt64) sc))])) _
          refine XS.ifNo X0.here hx rfl (hb hby at_71) rfl ((Jvm.Own.holdsL _ _ _).trans (Jvm.Own.dF (by rw [hm]; rw [hsc0]; exact c2))) ?_
          show Steps p.tables e below (s₁.setTop (mkF m 74 #[.val (.int n), .val (.int k), .val (.int fl), .val (.int sh), .val (.long sc), .second, .val (.int (1 : Int32)), .val (.long (-n.toInt64)), .second, .val (.double (FP.dneg d)), .second, .unset] [])) _
          refine XS.iconst X0.here hx rfl (hb hby at_74) ?_
          show Steps p.tables e below (s₁.setTop (mkF m 75 #[.val (.int n), .val (.int k), .val (.int fl), .val (.int sh), .val (.long sc), .second, .val (.int (1 : Int32)), .val (.long (-n.toInt64)), .second, .val (.double (FP.dneg d)), .second, .unset] [(.int (1 : Int32))])) _
          refine XS.goto X0.here hx rfl (pc0 := 75) (pc' := 79) rfl (hb hby at_75) (by decide) (by decide) ?_
          show Steps p.tables e below (s₁.setTop (mkF m 79 #[.val (.int n), .val (.int k), .val (.int fl), .val (.int sh), .val (.long sc), .second, .val (.int (1 : Int32)), .val (.long (-n.toInt64)), .second, .val (.double (FP.dneg d)), .second, .unset] [(.int (1 : Int32))])) _
          refine XS.istore X0.here hx rfl (hb hby at_79) rfl (l' := #[.val (.int n), .val (.int k), .val (.int fl), .val (.int sh), .val (.long sc), .second, .val (.int (1 : Int32)), .val (.long (-n.toInt64)), .second, .val (.double (FP.dneg d)), .second, .val (.int (1 : Int32))]) rfl ?_
          show Steps p.tables e below (s₁.setTop (mkF m 81 #[.val (.int n), .val (.int k), .val (.int fl), .val (.int sh), .val (.long sc), .second, .val (.int (1 : Int32)), .val (.long (-n.toInt64)), .second, .val (.double (FP.dneg d)), .second, .val (.int (1 : Int32))] [])) _
          refine XS.dload X0.here hx rfl (hb hby at_81) rfl ?_
          show Steps p.tables e below (s₁.setTop (mkF m 83 #[.val (.int n), .val (.int k), .val (.int fl), .val (.int sh), .val (.long sc), .second, .val (.int (1 : Int32)), .val (.long (-n.toInt64)), .second, .val (.double (FP.dneg d)), .second, .val (.int (1 : Int32))] [(.double (FP.dneg d))])) _
          refine st1 _ ?_
          show Steps p.tables e below (T1.setTop (mkF m 86 #[.val (.int n), .val (.int k), .val (.int fl), .val (.int sh), .val (.long sc), .second, .val (.int (1 : Int32)), .val (.long (-n.toInt64)), .second, .val (.double (FP.dneg d)), .second, .val (.int (1 : Int32))] [(.int (1 : Int32))])) _
          refine XS.iload X1.here hx rfl (hb hby at_86) rfl ?_
          show Steps p.tables e below (T1.setTop (mkF m 88 #[.val (.int n), .val (.int k), .val (.int fl), .val (.int sh), .val (.long sc), .second, .val (.int (1 : Int32)), .val (.long (-n.toInt64)), .second, .val (.double (FP.dneg d)), .second, .val (.int (1 : Int32))] [(.int (1 : Int32)), (.int (1 : Int32))])) _
          refine XS.icmpNo X1.here hx rfl (hb hby at_88) rfl rfl ?_
          show Steps p.tables e below (T1.setTop (mkF m 91 #[.val (.int n), .val (.int k), .val (.int fl), .val (.int sh), .val (.long sc), .second, .val (.int (1 : Int32)), .val (.long (-n.toInt64)), .second, .val (.double (FP.dneg d)), .second, .val (.int (1 : Int32))] [])) _
          refine XS.iconst X1.here hx rfl (hb hby at_91) ?_
          show Steps p.tables e below (T1.setTop (mkF m 92 #[.val (.int n), .val (.int k), .val (.int fl), .val (.int sh), .val (.long sc), .second, .val (.int (1 : Int32)), .val (.long (-n.toInt64)), .second, .val (.double (FP.dneg d)), .second, .val (.int (1 : Int32))] [(.int (1 : Int32))])) _
          refine XS.goto X1.here hx rfl (pc0 := 92) (pc' := 96) rfl (hb hby at_92) (by decide) (by decide) ?_
          show Steps p.tables e below (T1.setTop (mkF m 96 #[.val (.int n), .val (.int k), .val (.int fl), .val (.int sh), .val (.long sc), .second, .val (.int (1 : Int32)), .val (.long (-n.toInt64)), .second, .val (.double (FP.dneg d)), .second, .val (.int (1 : Int32))] [(.int (1 : Int32))])) _
          exact retN X1 hx (t := .boolean) Bd.returns (by simp) (hb hby at_96) hr
        · show QL n0 _ T1.heap _
          exact ⟨rfl, Fr.app N0 N1⟩
set_option maxRecDepth 65536 in
set_option maxHeartbeats 40000000 in
theorem comes_1 {Post : Tables → Env → Array Value → State → Outcome → State → Prop} (hpost : ∀ tb e args s v u, (limb_1_1.after args s (.returned v) u = true ∧ limb_1_2.after args s (.returned v) u = true ∧ True) → FrameEnd s (.returned v) u (Jvm.fieldLocs frame_1_writes args s ++ Jvm.arrayLocs frame_1_arrays args s ++ Jvm.staticLocs frame_1_statics s) 0 0 → Post tb e args s (.returned v) u) :
    ArmFor flags0 classFile x code maxLocals ret World_1 tables_1 room_1 Calls_1 rest_1 Pre_1 Post := by
  intro l hfl _ _ p e ha hc hk s m args below hf hA hF happ hP
  obtain ⟨hcalls, hrest, hpre⟩ := hP
  obtain ⟨-, -, -, hnamed, -, -, -, hat⟩ := (Spec.applies_iff hf).mp happ
  obtain ⟨hg, hn⟩ := and_e (Cond.before_iff.mp (show (Jvm.Cond.and given_1 narrow_1).before args s = true from hpre))
  obtain ⟨hcnt, g0⟩ := and_e hg
  obtain ⟨a0, g1⟩ := and_e g0
  obtain ⟨a1, g2⟩ := and_e g1
  obtain ⟨w0, w1, w2, rfl⟩ : ∃ w0 w1 w2 : Value, args = #[w0, w1, w2] := by
    have hs : args.size = 3 := by simpa [Cond.value, given_1] using hcnt
    obtain ⟨L⟩ := args
    match L, hs with
    | [w0, w1, w2], _ => exact ⟨w0, w1, w2, rfl⟩
  have hw := fun d (hd : d ∈ tables_1) => atoms_spec (ws := Jvm.Cond.code x code maxLocals ret :: tables_1) hat d (List.mem_cons_of_mem _ hd)
  have hfit : Fit s := fun {y c} hc i hi => by
    obtain ⟨ha, rfl⟩ := Array.getElem?_eq_some_iff.mp hc
    have q := List.all_eq_true.mp ((Array.all_eq_true_iff_forall_mem.mp hF) _ (Array.getElem_mem ha)) i (List.mem_range.mpr hi)
    simpa [Array.getElem?_eq_getElem hi] using q
  obtain ⟨v0, e0⟩ := is_v a0
  obtain rfl : w0 = (.int v0) := Option.some.inj e0
  obtain ⟨v1, e1⟩ := is_v a1
  obtain rfl : w1 = (.int v1) := Option.some.inj e1
  obtain ⟨v2, e2⟩ := is_v g2
  obtain rfl : w2 = (.int v2) := Option.some.inj e2
  obtain ⟨n, o, h1, h2, h3, _, L, rfl, ⟨rfl, N⟩, hq⟩ := rm0 l s _ hw tables_1 v0 v1 v2 s.heap s.heap.size (Nat.le_refl _)  p e ha hc hk s m _ below hf ((Spec.applies_iff_loose hf).mp happ).1 ⟨rfl, State.Warmed39.refl s, rfl⟩ trivial
  refine ⟨n, _, h1, h2, h3, hpost _ _ _ _ _ _ ⟨Cond.after_iff.mpr rfl, Cond.after_iff.mpr (eq_i res_at (Term.int_eval (1)) rfl), trivial⟩ ⟨hq.1, hq.2.1, (hq.2.2.sift fun y hy => Or.inr (N y hy)).mono (by decide) (by decide)⟩⟩
theorem main_1_1 : Claimed_1_1 := comes_1 fun _ _ _ _ _ _ h hF => ⟨h.1, hF⟩
theorem main_1_2 : Claimed_1_2 := comes_1 fun _ _ _ _ _ _ h hF => ⟨h.2.1, hF⟩
end Jvm.Pilot.@@N@@
namespace Jvm.Pilot.@@N@@
open Jvm Jvm.ClassFile Sem Op Lib Jvm.Free Jvm.Stand Jvm.Pilot.@@N@@.Jvm.D
/-! MADE BY PROGRAM (witnessworld.py) out of the Statement's table words and the real class files: 9 classes; the members and pool entries that the words name. The judged class is class 1, her method 1. -/
namespace start1
open Jvm.ClassFile
def u (s : String) : CpInfo := .utf8 (stringToUtf16 s)
/-- a pool by its gaps: so many unusable entries, then the entry; so many at the end -/
def gap : Nat → List CpInfo → List CpInfo
  | 0, r => r
  | n + 1, r => .unusable :: gap n r
def poolList (es : List (Nat × CpInfo)) (last : Nat) : List CpInfo := es.foldr (fun e r => gap e.1 (e.2 :: r)) (gap last [])
def pool (es : List (Nat × CpInfo)) (last : Nat) : Array CpInfo := ⟨poolList es last⟩
def fileOf (pool : Array CpInfo) (this : Nat) (attrs : Array Attribute := #[]) (ms : Array MethodInfo := #[]) (fl : Nat := 33) (sup : Nat := 0) (ifs : Array Nat := #[]) (fds : Array FieldInfo := #[]) : ClassFile where
  minorVersion := 0
  majorVersion := 65
  constantPool := pool
  accessFlags := fl
  thisClass := this
  superClass := sup
  interfaces := ifs
  fields := fds
  methods := ms
  attributes := attrs
def plain (name : String) (sup : Option ClassId) : Class where
  name := name
  kind := .ordinary
  loader := none
  accessFlags := 33
  super := sup
  interfaces := #[]
  cf := none
  fields := #[]
  methods := #[]
  instanceTypes := #[]
  staticTypes := #[]
  resolved := #[]
  callSites := []
  init := .initialized
  statics := none
  mirror := none

def pool0 : Array CpInfo := pool [(5, u "<init>"), (0, u "()V"), (1, .class_ 10), (1, u "java/lang/Object")] 113

def k0m0 : Method := { name := "<init>", desc := "()V", sig := { parameters := [], returnType := none }, accessFlags := 1, code := none }
/-- java/lang/Object -/
def k0 : Class := { plain "java/lang/Object" none with
  accessFlags := 33
  interfaces := #[]
  cf := some (fileOf pool0 8 #[] #[{ accessFlags := 1, nameIndex := 5, descriptorIndex := 6, attributes := #[] }] 33 0 #[] #[])
  fields := #[]
  methods := #[k0m0]
  instanceTypes := #[]
  staticTypes := #[]
  resolved := Array.replicate 124 none
  statics := none }

def pool1 : Array CpInfo := pool [(2, .class_ 4), (1, u "java/lang/Object"), (0, u "<init>"), (0, u "()V"), (0, .methodref 8 9), (0, .class_ 10), (0, .nameAndType 11 12), (0, u "com/example/gaithersburg/gaithersburg/graph/PageRank"), (0, u "isValidDamping"), (0, u "(D)Z"), (0, .class_ 14), (0, u "com/example/gaithersburg/gaithersburg/graph/PageRankIsValidDampingPinLaw"), (2, u "law"), (0, u "(III)Z")] 3

def k1m0 : Method := { name := "<init>", desc := "()V", sig := { parameters := [], returnType := none }, accessFlags := 2, code := none }
def k1c1 : Code := { maxStack := 4, maxLocals := 12, code := code, exceptionTable := #[], attributes := #[] }
def k1m1 : Method := { name := "law", desc := "(III)Z", sig := { parameters := [.int, .int, .int], returnType := some .boolean }, accessFlags := 9, code := some k1c1 }
/-- com/example/gaithersburg/gaithersburg/graph/PageRankIsValidDampingPinLaw -/
def k1 : Class := { plain "com/example/gaithersburg/gaithersburg/graph/PageRankIsValidDampingPinLaw" (some 0) with
  accessFlags := 49
  interfaces := #[]
  cf := some (fileOf pool1 13 #[] #[{ accessFlags := 2, nameIndex := 5, descriptorIndex := 6, attributes := #[] }, { accessFlags := 9, nameIndex := 17, descriptorIndex := 18, attributes := #[] }] 49 2 #[] #[])
  fields := #[]
  methods := #[k1m0, k1m1]
  instanceTypes := #[]
  staticTypes := #[]
  resolved := Array.replicate 22 none
  statics := none }

def pool2 : Array CpInfo := pool [(2, .class_ 4), (1, u "java/lang/Object"), (0, u "<init>"), (0, u "()V"), (14, .class_ 23), (1, u "com/example/gaithersburg/gaithersburg/graph/PageRank"), (0, u "isValidDamping"), (0, u "(D)Z"), (58, u "DEFAULT_DAMPING"), (0, u "D")] 27

def k2m0 : Method := { name := "<init>", desc := "()V", sig := { parameters := [], returnType := none }, accessFlags := 2, code := none }
def k2c1 : Code := { maxStack := 4, maxLocals := 2, code := prog_50_method_2_code, exceptionTable := #[], attributes := #[] }
def k2m1 : Method := { name := "isValidDamping", desc := "(D)Z", sig := { parameters := [.double], returnType := some .boolean }, accessFlags := 9, code := some k2c1 }
/-- com/example/gaithersburg/gaithersburg/graph/PageRank -/
def k2 : Class := { plain "com/example/gaithersburg/gaithersburg/graph/PageRank" (some 0) with
  accessFlags := 49
  interfaces := #[]
  cf := some (fileOf pool2 21 #[] #[{ accessFlags := 2, nameIndex := 5, descriptorIndex := 6, attributes := #[] }, { accessFlags := 9, nameIndex := 24, descriptorIndex := 25, attributes := #[] }] 49 2 #[] #[{ accessFlags := 25, nameIndex := 84, descriptorIndex := 85, attributes := #[] }])
  fields := #[{ name := "DEFAULT_DAMPING", type := .double, accessFlags := 25, slot := 0, constantValue := 0 }]
  methods := #[k2m0, k2m1]
  instanceTypes := #[]
  staticTypes := #[.double]
  resolved := Array.replicate 113 none
  statics := none }

def pool3 : Array CpInfo := pool [(1, u "java/lang/Cloneable"), (0, .class_ 1), (0, u "java/lang/Object"), (0, .class_ 3)] 3

/-- java/lang/Cloneable -/
def k3 : Class := { plain "java/lang/Cloneable" (some 0) with
  accessFlags := 1537
  interfaces := #[]
  cf := some (fileOf pool3 2 #[] #[] 1537 4 #[] #[])
  fields := #[]
  methods := #[]
  instanceTypes := #[]
  staticTypes := #[]
  resolved := Array.replicate 8 none
  statics := none }

def pool4 : Array CpInfo := pool [(1, u "java/io/Serializable"), (0, .class_ 1), (0, u "java/lang/Object"), (0, .class_ 3)] 3

/-- java/io/Serializable -/
def k4 : Class := { plain "java/io/Serializable" (some 0) with
  accessFlags := 1537
  interfaces := #[]
  cf := some (fileOf pool4 2 #[] #[] 1537 4 #[] #[])
  fields := #[]
  methods := #[]
  instanceTypes := #[]
  staticTypes := #[]
  resolved := Array.replicate 8 none
  statics := none }

/-- the primitive byte -/
def k5 : Class := { plain "byte" none with kind := .primitive 'B', accessFlags := 0x411 }
/-- [B -/
def k6 : Class := { plain "[B" (some 0) with kind := .array 5 .byte, interfaces := #[3, 4], accessFlags := 1041 }

/-- the primitive int -/
def k7 : Class := { plain "int" none with kind := .primitive 'I', accessFlags := 0x411 }
/-- [I -/
def k8 : Class := { plain "[I" (some 0) with kind := .array 7 .int, interfaces := #[3, 4], accessFlags := 1041 }

def heap : Heap := #[]
def classes : Array Class := #[k0, k1, k2, k3, k4, k5, k6, k7, k8]
def interned : List (Array UInt16 × Addr) := []
def slotsUsed : Nat := 0
def theMethod : MethodId := ⟨1, 1⟩
def args0 : Array Value := #[.int 5, .int 3, .int 0]
def aboutOver (below : List Frame) : State where
  vm := { classes := classes, interned := interned.toArray }
  heap := heap
  slotsUsed := slotsUsed
  threads := #[{ frames := .invoking theMethod args0 :: below }]
def below0 : List Frame := [.native { method := ⟨0, 0⟩, args := #[] }]
def about1 : State := aboutOver below0
def p0 : Program := .bare "" "" ""
def e0 : Env := launch0.env 0 0 0
theorem w_frames : about1.frames = Frame.invoking theMethod args0 :: below0 := rfl
set_option maxRecDepth 65536 in
theorem w_args : argsFit about1.vm theMethod args0 = true := by decide +kernel
set_option maxRecDepth 65536 in
theorem w_heap : heapFits about1 = true := by decide +kernel
set_option maxRecDepth 65536 in
theorem w_runnable : about1.curStatus? = some .runnable := by decide +kernel
set_option maxRecDepth 65536 in
theorem w_alone : about1.alone = true := by decide +kernel
set_option maxRecDepth 65536 in
theorem w_named : about1.methodNamed? x = some theMethod := by decide +kernel
set_option maxRecDepth 65536 in
theorem w_hears : about1.hears theMethod below0 = true := by decide +kernel
set_option maxRecDepth 65536 in
theorem w_ripe : about1.ripe theMethod args0 below0 = true := by decide +kernel
theorem w_running : about1.status = .running := rfl
set_option maxRecDepth 65536 in
theorem w_room : about1.hasRoom e0.platform room_1 = true :=
  launch0.hasRoom_least _ room_1 (by decide +kernel) (by decide +kernel) (by decide +kernel) (by decide +kernel) (by decide +kernel) (by decide +kernel)
theorem allAtoms_all (ts : List Jvm.Cond) (a : Array Jvm.Value) (st : Jvm.State) : (allAtoms ts).before a st = ts.all (fun c => c.before a st) := by
  induction ts with
  | nil => rfl
  | cons c t ih =>
    show (Jvm.Cond.and c (allAtoms t)).before a st = _
    rw [Jvm.Cond.before_and, ih, List.all_cons]
def words1 : List Jvm.Cond := Jvm.Cond.code x code maxLocals ret :: tables_1
/-- a 'code' word, met by the world's own term for the bytes: nothing is compared byte by byte -/
theorem code_word {y : MethodName} {bytes : ByteArray} {mx : Nat} {rt : Option FieldType} {a : Array Value} {s : State} {m : MethodId} {meth : Method} {c : Code} (h1 : s.methodNamed? y = some m) (h2 : s.vm.method? m = some meth) (h3 : meth.code = some c) (h4 : c.code = bytes)
    (h5 : (c.maxLocals == mx && c.exceptionTable.isEmpty && decide (c.maxStack ≤ mostOperands) && decide (meth.sig.returnType = rt) && !meth.locks && decide (parseMethodDescriptor y.desc = some meth.sig)) = true) : (Jvm.Cond.code y bytes mx rt).before a s = true := by
  simp only [Bool.and_eq_true, beq_iff_eq, Bool.not_eq_true', decide_eq_true_eq] at h5
  obtain ⟨⟨⟨⟨⟨g1, g2⟩, g3⟩, g4⟩, g5⟩, g6⟩ := h5
  simp [Cond.before, Cond.holds, Cond.value, h1, h2, h3, h4, g1, g2, g3, g4, g5, g6]
def isCode : Jvm.Cond → Bool
  | .code _ _ _ _ => true
  | _ => false
theorem all_split {L : List Jvm.Cond} {P : Jvm.Cond → Bool} (h1 : L.all (fun c => isCode c || P c) = true) (h2 : ∀ c ∈ L.filter isCode, P c = true) : L.all P = true := by
  refine List.all_eq_true.mpr fun c hc => ?_
  have h := List.all_eq_true.mp h1 c hc
  rcases Bool.eq_false_or_eq_true (isCode c) with hi | hi
  · exact h2 c (List.mem_filter.mpr ⟨hc, hi⟩)
  · simpa [hi] using h
set_option maxRecDepth 65536 in
theorem w_c0 : (Jvm.Cond.code x code maxLocals ret).before args0 about1 = true := code_word (m := ⟨1, 1⟩) (meth := k1m1) (c := k1c1) (by decide +kernel) rfl rfl rfl (by decide +kernel)
set_option maxRecDepth 65536 in
theorem w_c1 : (Jvm.Cond.code ({ cls := "com/example/gaithersburg/gaithersburg/graph/PageRank", name := "isValidDamping", desc := "(D)Z" } : Jvm.MethodName) prog_50_method_2_code (2 : Nat) (Option.some Jvm.ClassFile.FieldType.boolean)).before args0 about1 = true := code_word (m := ⟨2, 1⟩) (meth := k2m1) (c := k2c1) (by decide +kernel) rfl rfl rfl (by decide +kernel)
def codes1 : List Jvm.Cond := [Jvm.Cond.code x code maxLocals ret, Jvm.Cond.code ({ cls := "com/example/gaithersburg/gaithersburg/graph/PageRank", name := "isValidDamping", desc := "(D)Z" } : Jvm.MethodName) prog_50_method_2_code (2 : Nat) (Option.some Jvm.ClassFile.FieldType.boolean)]
set_option maxRecDepth 65536 in
theorem codes_eq : words1.filter isCode = codes1 := rfl
theorem w_codes : ∀ c ∈ words1.filter isCode, c.before args0 about1 = true := by
  rw [codes_eq]
  intro c hc
  simp only [codes1, List.mem_cons, List.not_mem_nil, or_false] at hc
  rcases hc with rfl | rfl
  · exact w_c0
  · exact w_c1
set_option maxRecDepth 65536 in
theorem w_t1 : words1.all (fun c => isCode c || c.before args0 about1) = true := by decide +kernel
theorem w_tables : (allAtoms (Jvm.Cond.code x code maxLocals ret :: tables_1)).before args0 about1 = true := by
  rw [allAtoms_all]
  show words1.all (fun c => c.before args0 about1) = true
  refine all_split ?_ w_codes
  rw [w_t1]
set_option maxRecDepth 65536 in
theorem w_case : (Jvm.Cond.and given_1 narrow_1).before args0 about1 = true := by decide +kernel
theorem w_applies : (headSpec (Jvm.Cond.code x code maxLocals ret :: tables_1) room_1).applies x e0.platform about1 = true :=
  (Spec.applies_iff w_frames).mpr ⟨w_running, w_runnable, w_alone, w_named, w_hears, w_ripe, w_room, w_tables⟩
theorem atStart : AtStart classFile x code maxLocals ret World_1 tables_1 room_1 Calls_1 rest_1 Pre_1 launch0 p0 e0 about1 theMethod args0 below0 :=
  ⟨lists_1, trivial, launch0.admits_env _ _ _, launch0.least_env, fairChoices_fair.cas, fairChoices_fair.clock, w_frames, w_args, w_heap, w_applies, trivial, trivial, w_case⟩
end start1
theorem witness_1 : WitnessClaimed_1 := ⟨start1.p0, start1.e0, start1.about1, start1.theMethod, start1.args0, start1.below0, start1.atStart⟩
end Jvm.Pilot.@@N@@
