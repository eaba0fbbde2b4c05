import JvmDerived
import JvmDerived.Pilot.@@N@@Statement
import JvmDerived.Pilot.@@N@@Code
set_option linter.unusedVariables false
set_option linter.unusedSimpArgs false
namespace Jvm.RoadKit
open Sem ClassFile Op Lib Jvm.Stand Jvm.Free Jvm.LawKit
section New
variable {p : Program} {l : Launch} {e : Env} {R : Room} {s : State} {m : MethodId} {args : Array Value} {below : List Frame} {meth : Method} {c : Code} {T : State} {locs : List Loc} {cells slots : Nat}
theorem retI (X : Stand p l e R s m args below meth c T locs cells slots) (hx : p.tables.exec = Jvm.exec) {pc : Nat} {Ls : Array Slot} {z : Int32} {rest : List Value} (hret : meth.sig.returnType = some .int) (hd : decode c.code pc = .ok (.ireturn, 1)) {fs : List Frame}
    (hl : ∀ (f : JFrame) (acts : List Action), f.method = m → f.locked = none → f.entered = [] → (doReturn e (T.setTop f) acts (some (.int z))).1 = T.setFrames fs) : Steps p.tables e below (T.setTop (mkF m pc Ls (.int z :: rest))) (T.setFrames fs) := by
  have hm' : T.vm.method? m = some meth := X.method'
  have hn : narrow .int (.int z) = .int z := rfl
  show Steps p.tables e below (T.setTop { method := m, pc := pc, locals := Ls, stack := _ :: rest, locked := none }) _
  jvm_step X.here [X.here.top, hx, hd, hm', hret, hn]
  first | (intro acts; rw [hl _ acts rfl rfl rfl]) | rw [hl _ _ rfl rfl rfl]
  exact Steps.refl _
theorem retD (X : Stand p l e R s m args below meth c T locs cells slots) (hx : p.tables.exec = Jvm.exec) {pc : Nat} {Ls : Array Slot} {z : UInt64} {rest : List Value} (hret : meth.sig.returnType = some .double) (hd : decode c.code pc = .ok (.dreturn, 1)) {fs : List Frame}
    (hl : ∀ (f : JFrame) (acts : List Action), f.method = m → f.locked = none → f.entered = [] → (doReturn e (T.setTop f) acts (some (.double z))).1 = T.setFrames fs) : Steps p.tables e below (T.setTop (mkF m pc Ls (.double z :: rest))) (T.setFrames fs) := by
  have hm' : T.vm.method? m = some meth := X.method'
  show Steps p.tables e below (T.setTop { method := m, pc := pc, locals := Ls, stack := _ :: rest, locked := none }) _
  jvm_step X.here [X.here.top, hx, hd, hm', hret]
  first | (intro acts; rw [hl _ acts rfl rfl rfl]) | rw [hl _ _ rfl rfl rfl]
  exact Steps.refl _
end New
/-- a body that leaves the heap as it was -/
def QP (w : Value) (h0 : Heap) (n0 : Nat) (v : Option Value) (h : Heap) (L : List Loc) : Prop := v = some w ∧ Fr n0 L ∧ h = h0
/-- the law says true, and writes into nothing that stood at the start -/
def QL (n0 : Nat) (v : Option Value) (h : Heap) (L : List Loc) : Prop := v = some (.int 1) ∧ Fr n0 L
end Jvm.RoadKit

/-! OwnFP: rounding, in units of the least double. My own text, pasted into each proof. -/
namespace Jvm.Own
open Jvm.FP.Core Jvm.Free.Fl
/-- a power of two that nothing reckons out -/
def PN (j : Nat) : Nat := 2 ^ j
theorem PN_pos (j : Nat) : 0 < PN j := Nat.two_pow_pos _
theorem PN_posI (j : Nat) : (0 : Int) < (PN j : Int) := Int.ofNat_lt.mpr (PN_pos j)
theorem PN_add (i j : Nat) : PN (i + j) = PN i * PN j := Nat.pow_add ..
theorem PN_addI (i j : Nat) : (PN (i + j) : Int) = (PN i : Int) * (PN j : Int) := by rw [PN_add, Int.natCast_mul]
/-- a double as a whole number of 2^-1074 -/
def z (a : UInt64) : Int := zval b64 (val64 a)
theorem z_fin {a : UInt64} {s : Bool} {c : Nat} {q : Int} (h : val64 a = .fin s c q) : z a = signed s (inUnits c q b64.qmin) := by
  unfold z; rw [h]; rfl
/-- r is the rounding of N / D, in these units -/
def Rnd (N : Int) (D : Nat) (r : UInt64) : Prop := 0 < D ∧ ∃ s, signed s N.natAbs = N ∧ val64 r = roundRatio b64 s N.natAbs D b64.qmin
theorem DFin.fits {a : UInt64} {s : Bool} {c : Nat} {q : Int} (h : val64 a = .fin s c q) : Jvm.FP.Core.fits b64 (.fin s c q) := h ▸ val64_fits a
theorem rnd_dadd {a b : UInt64} (ha : DFin a) (hb : DFin b) : Rnd (z a + z b) 1 (dadd a b) := by
  obtain ⟨s, c, q, h1⟩ := ha
  obtain ⟨t, d, r, h2⟩ := hb
  obtain ⟨sg, n, e, hs, he, hu⟩ := sum_units (DFin.fits h1) (DFin.fits h2)
  have hz : z a + z b = signed sg (inUnits n e b64.qmin) := by unfold z; rw [h1, h2, hu]
  have hn : (z a + z b).natAbs = inUnits n e b64.qmin := by rw [hz, natAbs_signed]
  refine ⟨by decide, sg, by rw [hn, hz], ?_⟩
  rw [val64_dadd, h1, h2, hs, hn]
  show roundRatio b64 sg n 1 e = _
  refine roundRatio_congr (by decide) (by decide) ?_
  rw [show (b64.qmin - e).toNat = 0 by omega]
  simp [inUnits]
theorem z_neg {b : UInt64} : z (Jvm.FP.Core.dneg b) = - z b := by unfold z; rw [val64_dneg, zval_negate]
theorem fin_neg {b : UInt64} (hb : DFin b) : DFin (Jvm.FP.Core.dneg b) := by
  obtain ⟨t, d, r, h2⟩ := hb
  exact ⟨!t, d, r, by rw [val64_dneg, h2]; rfl⟩
theorem z_dneg {b : UInt64} : z (Jvm.FP.dneg b) = - z b := by unfold z; rw [Jvm.FP.val64_dneg, zval_negate]
theorem fin_dneg {b : UInt64} (hb : DFin b) : DFin (Jvm.FP.dneg b) := by
  obtain ⟨t, d, r, h2⟩ := hb
  exact ⟨!t, d, r, by rw [Jvm.FP.val64_dneg, h2]; rfl⟩
theorem rnd_dsub {a b : UInt64} (ha : DFin a) (hb : DFin b) : Rnd (z a - z b) 1 (dsub a b) := by
  have h := rnd_dadd ha (fin_neg hb)
  rw [z_neg] at h
  rw [dsub_eq, Int.sub_eq_add_neg]
  exact h
theorem qm : b64.qmin = -1074 := qmin_b64
theorem rnd_dmul {a b : UInt64} (ha : DFin a) (hb : DFin b) : Rnd (z a * z b) (PN 1074) (dmul a b) := by
  obtain ⟨s, c, q, h1⟩ := ha
  obtain ⟨t, d, r, h2⟩ := hb
  obtain ⟨hp, hq, hu⟩ := product_units (DFin.fits h1) (DFin.fits h2)
  have hz : z a * z b = signed (s != t) (inUnits (c * d) (q + r) (2 * b64.qmin)) := by
    rw [hu, signed_xor]; unfold z; rw [h1, h2]; rfl
  have hn : (z a * z b).natAbs = inUnits (c * d) (q + r) (2 * b64.qmin) := by rw [hz, natAbs_signed]
  refine ⟨PN_pos _, s != t, by rw [hn, hz], ?_⟩
  rw [val64_dmul, h1, h2, hp, hn]
  show roundRatio b64 (s != t) (c * d) 1 (q + r) = _
  refine roundRatio_congr (by decide) (PN_pos _) ?_
  unfold inUnits PN
  have := qm
  generalize hk : (1074 : Nat) = K at *
  calc c * d * 2 ^ K * 2 ^ (q + r - b64.qmin).toNat = c * d * 2 ^ (K + (q + r - b64.qmin).toNat) := by rw [Nat.pow_add]; ac_rfl
    _ = c * d * 2 ^ ((q + r - 2 * b64.qmin).toNat + (b64.qmin - (q + r)).toNat) := by congr 2; omega
    _ = _ := by rw [Nat.pow_add]; ac_rfl
theorem pos_sign {b : UInt64} {t : Bool} {d : Nat} {r : Int} (h2 : val64 b = .fin t d r) (hb : 0 < z b) : t = false ∧ d ≠ 0 ∧ (z b).natAbs = d * 2 ^ (r - b64.qmin).toNat := by
  have h := z_fin h2
  have hn : (z b).natAbs = d * 2 ^ (r - b64.qmin).toNat := by rw [h, natAbs_signed]; rfl
  refine ⟨?_, ?_, hn⟩
  · cases t
    · rfl
    · simp only [signed, if_true] at h; omega
  · rintro rfl
    rw [Nat.zero_mul] at hn; omega
theorem rnd_ddiv {a b : UInt64} (ha : DFin a) (hb : DFin b) (hp : 0 < z b) : Rnd (z a * (PN 1074 : Int)) (z b).natAbs (ddiv a b) := by
  obtain ⟨s, c, q, h1⟩ := ha
  obtain ⟨t, d, r, h2⟩ := hb
  obtain ⟨rfl, hd0, hD⟩ := pos_sign h2 hp
  have hza : z a * (PN 1074 : Int) = signed s (inUnits c q b64.qmin * PN 1074) := by rw [z_fin h1, signed_mul]
  have hn : (z a * (PN 1074 : Int)).natAbs = inUnits c q b64.qmin * PN 1074 := by rw [hza, natAbs_signed]
  refine ⟨by omega, s, by rw [hn, hza], ?_⟩
  rw [val64_ddiv, h1, h2, hn, hD]
  simp only [quotient, if_neg hd0]
  rw [show (s != false) = s by cases s <;> rfl]
  refine roundRatio_congr (by omega) (Nat.mul_pos (by omega) (Nat.two_pow_pos _)) ?_
  have f1 := (DFin.fits h1).2.1
  have f2 := (DFin.fits h2).2.1
  unfold inUnits PN
  have := qm
  generalize hk : (1074 : Nat) = K at *
  calc c * (d * 2 ^ (r - b64.qmin).toNat) * 2 ^ (q - r - b64.qmin).toNat = c * d * 2 ^ ((r - b64.qmin).toNat + (q - r - b64.qmin).toNat) := by rw [Nat.pow_add]; ac_rfl
    _ = c * d * 2 ^ ((q - b64.qmin).toNat + K + (b64.qmin - (q - r)).toNat) := by congr 2; omega
    _ = _ := by rw [Nat.pow_add, Nat.pow_add]; ac_rfl
theorem rnd_l2d (v : Int64) : Rnd (v.toInt * (PN 1074 : Int)) 1 (l2d v) := by
  have hP := PN_posI 1074
  have hn : (v.toInt * (PN 1074 : Int)).natAbs = v.toInt.natAbs * PN 1074 := by rw [Int.natAbs_mul, Int.natAbs_natCast]
  refine ⟨by decide, decide (v.toInt < 0), ?_, ?_⟩
  · rw [hn, signed_mul]
    congr 1
    by_cases h : v.toInt < 0
    · simp only [signed, h, decide_true, if_true]; omega
    · simp only [signed, h, decide_false, Bool.false_eq_true, if_false]; omega
  · rw [val64_l2d, hn]
    show roundRatio b64 (decide (v.toInt < 0)) v.toInt.natAbs 1 0 = _
    refine roundRatio_congr (by decide) (by decide) ?_
    have := qm
    rw [show (0 - b64.qmin).toNat = 1074 by omega, show (b64.qmin - 0).toNat = 0 by omega]
    show v.toInt.natAbs * 1 * PN 1074 = v.toInt.natAbs * PN 1074 * 1 * 2 ^ 0
    rw [Nat.pow_zero, Nat.mul_one, Nat.mul_one, Nat.mul_one]
theorem i2d_l2d' (v : Int32) : i2d v = l2d v.toInt64 := i2d_l2d v
theorem rnd_i2d (v : Int32) : Rnd (v.toInt * (PN 1074 : Int)) 1 (i2d v) := by
  have h := rnd_l2d v.toInt64
  rw [Int32.toInt_toInt64] at h
  rw [i2d_l2d]; exact h
theorem Rnd.ne_nan {N : Int} {D : Nat} {r : UInt64} (h : Rnd N D r) : val64 r ≠ .nan := by
  obtain ⟨-, s, -, h⟩ := h
  rw [h]; exact roundRatio_ne_nan _ _ _ _ _
/-- the quotient alone counts -/
theorem Rnd.scale {N : Int} {D : Nat} {r : UInt64} (k : Nat) (hk : 0 < k) (h : Rnd (N * (k : Int)) (D * k) r) : Rnd N D r := by
  obtain ⟨hD, s, hs, hv⟩ := h
  have hD' : 0 < D := Nat.pos_of_mul_pos_right hD
  have hn : (N * (k : Int)).natAbs = N.natAbs * k := by rw [Int.natAbs_mul, Int.natAbs_natCast]
  refine ⟨hD', s, ?_, ?_⟩
  · rw [hn, signed_mul] at hs
    exact Int.eq_of_mul_eq_mul_right (by omega) hs
  · rw [hv, hn]
    refine roundRatio_congr hD hD' ?_
    simp only [Int.sub_self, Int.toNat_zero, Nat.pow_zero, Nat.mul_one]
    ac_rfl
theorem Rnd.up {N : Int} {D : Nat} {r : UInt64} (k : Nat) (hk : 0 < k) (h : Rnd N D r) : Rnd (N * (k : Int)) (D * k) r := by
  obtain ⟨hD, s, hs, hv⟩ := h
  have hn : (N * (k : Int)).natAbs = N.natAbs * k := by rw [Int.natAbs_mul, Int.natAbs_natCast]
  refine ⟨Nat.mul_pos hD hk, s, ?_, ?_⟩
  · rw [hn, signed_mul, hs]
  · rw [hv, hn]
    refine roundRatio_congr hD (Nat.mul_pos hD hk) ?_
    simp only [Int.sub_self, Int.toNat_zero, Nat.pow_zero, Nat.mul_one]
    ac_rfl
theorem Rnd.z_eq {N : Int} {D : Nat} {r : UInt64} {s : Bool} (h : val64 r = roundRatio b64 s N.natAbs D b64.qmin) : z r = signed s (zmag b64 (val64 r)) := by
  unfold z zval
  rw [show sgn (val64 r) = s by rw [h, sgn_roundRatio]]
theorem DFin.ne {a : UInt64} (h : DFin a) : val64 a ≠ .nan := h.ne_nan
theorem Rnd.le {N : Int} {D : Nat} {r V : UInt64} (h : Rnd N D r) (hV : DFin V) (hle : N ≤ z V * (D : Int)) : z r ≤ z V := by
  obtain ⟨hD, s, hs, hv⟩ := h
  have h1 := zmag_roundRatio_le good_b64 (s := s) (A := N.natAbs) (e := b64.qmin) (e0 := b64.qmin) hD (val64_fits V) hV.ne_nan (Int.le_refl _) (Int.le_refl _)
  have h2 := zmag_roundRatio_ge good_b64 (s := s) (A := N.natAbs) (e := b64.qmin) (e0 := b64.qmin) hD (val64_fits V) (Int.le_refl _) (Int.le_refl _)
  rw [← hv] at h1 h2
  have e1 : inUnits N.natAbs b64.qmin b64.qmin = N.natAbs := by simp [inUnits]
  rw [e1, Int.sub_self, Int.toNat_zero, Nat.pow_zero, Nat.mul_one] at h1 h2
  rw [Rnd.z_eq hv]
  have hzV : z V = signed (sgn (val64 V)) (zmag b64 (val64 V)) := rfl
  rw [hzV, ← signed_mul] at hle
  rw [hzV]
  have hz : zmag b64 (val64 V) * D = 0 → zmag b64 (val64 V) = 0 := by
    intro h
    rcases Nat.mul_eq_zero.mp h with h | h <;> omega
  generalize zmag b64 (val64 V) * D = vP at *
  generalize zmag b64 (val64 V) = v at *
  generalize zmag b64 (val64 r) = x at *
  generalize sgn (val64 V) = t at *
  cases s <;> cases t <;> simp only [signed, if_true, Bool.false_eq_true, if_false] at hle hs ⊢
  · have := h1 (by omega); omega
  · have := h1 (by omega); have := hz (by omega); omega
  · omega
  · have := h2 (by omega); omega
theorem Rnd.ge {N : Int} {D : Nat} {r V : UInt64} (h : Rnd N D r) (hV : DFin V) (hle : z V * (D : Int) ≤ N) : z V ≤ z r := by
  obtain ⟨hD, s, hs, hv⟩ := h
  have h1 := zmag_roundRatio_le good_b64 (s := s) (A := N.natAbs) (e := b64.qmin) (e0 := b64.qmin) hD (val64_fits V) hV.ne_nan (Int.le_refl _) (Int.le_refl _)
  have h2 := zmag_roundRatio_ge good_b64 (s := s) (A := N.natAbs) (e := b64.qmin) (e0 := b64.qmin) hD (val64_fits V) (Int.le_refl _) (Int.le_refl _)
  rw [← hv] at h1 h2
  have e1 : inUnits N.natAbs b64.qmin b64.qmin = N.natAbs := by simp [inUnits]
  rw [e1, Int.sub_self, Int.toNat_zero, Nat.pow_zero, Nat.mul_one] at h1 h2
  rw [Rnd.z_eq hv]
  have hzV : z V = signed (sgn (val64 V)) (zmag b64 (val64 V)) := rfl
  rw [hzV, ← signed_mul] at hle
  rw [hzV]
  have hz : zmag b64 (val64 V) * D = 0 → zmag b64 (val64 V) = 0 := by
    intro h
    rcases Nat.mul_eq_zero.mp h with h | h <;> omega
  generalize zmag b64 (val64 V) * D = vP at *
  generalize zmag b64 (val64 V) = v at *
  generalize zmag b64 (val64 r) = x at *
  generalize sgn (val64 V) = t at *
  cases s <;> cases t <;> simp only [signed, if_true, Bool.false_eq_true, if_false] at hle hs ⊢
  · have := h2 (by omega); omega
  · omega
  · have := h1 (by omega); have := hz (by omega); omega
  · have := h1 (by omega); omega
/-- a double between two finite ones is finite -/
theorem fin_between {r L H : UInt64} (hn : val64 r ≠ .nan) (hL : DFin L) (hH : DFin H) (h1 : z L ≤ z r) (h2 : z r ≤ z H) : DFin r := by
  obtain ⟨s, c, q, a1⟩ := hL
  obtain ⟨t, d, k, b1⟩ := hH
  have l1 := zmag_lt_top good_b64 (DFin.fits a1)
  have l2 := zmag_lt_top good_b64 (DFin.fits b1)
  rw [z_fin a1] at h1
  rw [z_fin b1] at h2
  cases hr : val64 r with
  | nan => exact absurd hr hn
  | fin s' c' q' => exact ⟨s', c', q', hr⟩
  | inf s' =>
    exfalso
    have hzr : z r = signed s' (b64.tails * 2 ^ (b64.exps - 2)) := by unfold z; rw [hr]; rfl
    rw [hzr] at h1 h2
    generalize b64.tails * 2 ^ (b64.exps - 2) = top at *
    generalize inUnits c q b64.qmin = u at *
    generalize inUnits d k b64.qmin = w at *
    cases s' <;> cases s <;> cases t <;> simp only [signed, if_true, Bool.false_eq_true, if_false] at h1 h2 <;> omega
/-- numbers of at most 53 digits are doubles -/
theorem rep (m : Int) (j : Nat) (hm : m.natAbs ≤ 2 ^ 53) (hj : j ≤ 2000) : ∃ V : UInt64, DFin V ∧ z V = m * (PN j : Int) := by
  have key : ∀ (m : Int) (j : Nat), m.natAbs < 2 ^ 53 → j ≤ 2001 → ∃ V : UInt64, DFin V ∧ z V = m * (PN j : Int) := by
    intro m j hm hj
    have hq : b64.qmin = -1074 := qm
    have hx : b64.qmax = 971 := by decide
    obtain ⟨c', q', h1, h2⟩ := round_exact good_b64 (decide (m < 0)) (c := m.natAbs) (q := (j : Int) - 1074) hm (by omega) (by omega)
    have hf := round_fits good_b64 (.fin (decide (m < 0)) m.natAbs ((j : Int) - 1074))
    refine ⟨of64 (round b64 (.fin (decide (m < 0)) m.natAbs ((j : Int) - 1074))), ⟨_, _, _, by rw [val64_of64 hf, h1]⟩, ?_⟩
    rw [z_fin (by rw [val64_of64 hf, h1]), h2]
    unfold inUnits
    rw [show ((j : Int) - 1074 - b64.qmin).toNat = j by omega, signed_mul]
    show signed (decide (m < 0)) m.natAbs * (PN j : Int) = m * (PN j : Int)
    congr 1
    by_cases h : m < 0
    · simp only [signed, h, decide_true, if_true]; omega
    · simp only [signed, h, decide_false, Bool.false_eq_true, if_false]; omega
  by_cases h : m.natAbs < 2 ^ 53
  · exact key m j h (by omega)
  · obtain ⟨V, hV, hz⟩ := key (m / 2) (j + 1) (by omega) (by omega)
    refine ⟨V, hV, ?_⟩
    have h2 : m = 2 * (m / 2) := by omega
    rw [hz, PN_addI, show (PN 1 : Int) = 2 from rfl]
    conv => rhs; rw [h2]
    generalize (PN j : Int) = P
    rw [Int.mul_comm P, ← Int.mul_assoc]
    congr 1
    exact Int.mul_comm _ _
theorem Rnd.fin_of {N : Int} {D : Nat} {r L H : UInt64} (h : Rnd N D r) (hL : DFin L) (hH : DFin H) (h1 : z L * (D : Int) ≤ N) (h2 : N ≤ z H * (D : Int)) : DFin r :=
  fin_between h.ne_nan hL hH (h.ge hL h1) (h.le hH h2)
/-- an exact quotient isn't rounded -/
theorem Rnd.exact {N : Int} {D : Nat} {r : UInt64} (h : Rnd N D r) (m : Int) (j : Nat) (hm : m.natAbs ≤ 2 ^ 53) (hj : j ≤ 2000) (hN : N = m * (PN j : Int) * (D : Int)) : DFin r ∧ z r = m * (PN j : Int) := by
  obtain ⟨V, hV, hz⟩ := rep m j hm hj
  have e : N = z V * (D : Int) := by rw [hz]; exact hN
  exact ⟨h.fin_of hV hV (by omega) (by omega), by have := h.le hV (by omega); have := h.ge hV (by omega); omega⟩
/-- off by less than g = 2^j, where the quotient is at most 2^53 g -/
theorem Rnd.near {N : Int} {D : Nat} {r : UInt64} (h : Rnd N D r) (j : Nat) (hj : j ≤ 2000) (h1 : -(2 ^ 53 * (PN j : Int) * (D : Int)) ≤ N) (h2 : N ≤ (2 ^ 53 - 1) * (PN j : Int) * (D : Int)) :
    DFin r ∧ N - (PN j : Int) * (D : Int) < z r * (D : Int) ∧ z r * (D : Int) < N + (PN j : Int) * (D : Int) := by
  have hD : 0 < D := h.1
  have hg : (0 : Int) < (PN j : Int) * (D : Int) := Int.mul_pos (PN_posI j) (by omega)
  have e1 := Int.mul_ediv_add_emod N ((PN j : Int) * (D : Int))
  have e2 := Int.emod_nonneg N (b := (PN j : Int) * (D : Int)) (by omega)
  have e3 := Int.emod_lt_of_pos N hg
  rw [Int.mul_assoc] at h1 h2
  have l1 : -(2 ^ 53) ≤ N / ((PN j : Int) * (D : Int)) := by
    refine (Int.le_ediv_iff_mul_le hg).mpr ?_
    rw [Int.neg_mul]; exact h1
  have l2 : N / ((PN j : Int) * (D : Int)) ≤ 2 ^ 53 - 1 := by
    refine Int.le_trans (Int.ediv_le_ediv hg h2) ?_
    rw [Int.mul_ediv_cancel _ (by omega)]; exact Int.le_refl _
  obtain ⟨L, hL, zL⟩ := rep (N / ((PN j : Int) * (D : Int))) j (by omega) hj
  obtain ⟨H, hH, zH⟩ := rep (N / ((PN j : Int) * (D : Int)) + 1) j (by omega) hj
  generalize N / ((PN j : Int) * (D : Int)) = m at *
  generalize N % ((PN j : Int) * (D : Int)) = t at *
  have c1 : z L * (D : Int) ≤ N := by
    rw [zL, Int.mul_assoc, Int.mul_comm m]; omega
  have c2 : N ≤ z H * (D : Int) := by
    rw [zH, Int.mul_assoc, Int.add_mul, Int.one_mul, Int.mul_comm m]; omega
  have c3 := Int.mul_le_mul_of_nonneg_right (h.ge hL c1) (c := (D : Int)) (by omega)
  have c4 := Int.mul_le_mul_of_nonneg_right (h.le hH c2) (c := (D : Int)) (by omega)
  refine ⟨h.fin_of hL hH c1 c2, ?_, ?_⟩
  · rw [zL, Int.mul_assoc, Int.mul_comm m] at c3; omega
  · rw [zH, Int.mul_assoc, Int.add_mul, Int.one_mul, Int.mul_comm m] at c4
    by_cases t0 : t = 0
    · have c5 := Int.mul_le_mul_of_nonneg_right (h.le hL (by rw [zL, Int.mul_assoc, Int.mul_comm m]; omega)) (c := (D : Int)) (by omega)
      rw [zL, Int.mul_assoc, Int.mul_comm m] at c5; omega
    · omega
theorem z_inj_zero {a : UInt64} (h : DFin a) : z a = 0 ↔ DZero a := by
  obtain ⟨s, c, q, h1⟩ := h
  rw [z_fin h1, signed_eq_zero]
  constructor
  · intro h
    have : c = 0 := by
      rcases Nat.mul_eq_zero.mp (show c * _ = 0 from h) with h | h
      · exact h
      · have := Nat.two_pow_pos (q - b64.qmin).toNat; omega
    exact ⟨s, q, this ▸ h1⟩
  · rintro ⟨s', q', h2⟩
    rw [h1] at h2
    cases h2
    exact Nat.zero_mul _
/-- nothing is nearer -/
theorem Rnd.nearest {N : Int} {D : Nat} {r V : UInt64} (h : Rnd N D r) (f : DFin r) (hV : DFin V) : (N - z r * (D : Int)).natAbs ≤ (N - z V * (D : Int)).natAbs := by
  obtain ⟨hD, s, hs, hv⟩ := h
  obtain ⟨s1, c, q, h1⟩ := f
  obtain ⟨t, c', q', h2⟩ := hV
  have f2 := DFin.fits h2
  rw [h1] at hv
  have hsg : s1 = s := by
    have := sgn_roundRatio b64 s N.natAbs D b64.qmin
    rw [← hv] at this; exact this
  subst hsg
  have d1 := roundRatio_nearest good_b64 hD hv.symm f2.1 f2.2.1 (Int.le_refl b64.qmin) (Int.le_refl b64.qmin)
  have d0 := roundRatio_nearest good_b64 (c' := 0) (q' := b64.qmin) hD hv.symm (Nat.two_pow_pos _) (Int.le_refl _) (Int.le_refl b64.qmin) (Int.le_refl b64.qmin)
  unfold distance at d1 d0
  have e1 : inUnits N.natAbs b64.qmin b64.qmin = N.natAbs := by simp [inUnits]
  have e0 : inUnits 0 b64.qmin b64.qmin = 0 := by simp [inUnits]
  rw [e1] at d1 d0
  rw [e0] at d0
  rw [z_fin h1, z_fin h2]
  generalize inUnits c q b64.qmin = u at *
  generalize inUnits c' q' b64.qmin = w at *
  generalize N.natAbs = A at *
  subst hs
  rw [← signed_mul, ← signed_mul]
  rw [← Int.natCast_mul] at d1 d0
  rw [← Int.natCast_mul] at d1 d0
  generalize u * D = X at *
  generalize w * D = Y at *
  cases s1 <;> cases t <;> simp only [signed, if_true, Bool.false_eq_true, if_false] <;> omega
theorem Rnd.same' {X : Int} {P : Nat} {r r' : UInt64} (h : Rnd X P r) (h' : Rnd X P r') : z r = z r' := by
  obtain ⟨hD, s, hs, hv⟩ := h
  obtain ⟨-, s', hs', hv'⟩ := h'
  by_cases e : s = s'
  · subst e
    unfold z; rw [hv, hv']
  · have h0 : X.natAbs = 0 := by
      clear hv hv'
      generalize X.natAbs = A at *
      cases s <;> cases s' <;> simp only [signed, if_true, Bool.false_eq_true, if_false] at hs hs' <;> first | omega | exact absurd rfl e
    have k : ∀ (s : Bool) (r : UInt64), val64 r = roundRatio b64 s X.natAbs P b64.qmin → z r = 0 := by
      intro s r hr
      rw [h0] at hr
      unfold roundRatio at hr
      rw [if_pos rfl] at hr
      rw [z_fin hr, signed_eq_zero]
      exact Nat.zero_mul _
    rw [k s r hv, k s' r' hv']
theorem Rnd.same {N N' : Int} {D D' : Nat} {r r' : UInt64} (h : Rnd N D r) (h' : Rnd N' D' r') (e : N * (D' : Int) = N' * (D : Int)) : z r = z r' := by
  have a := h.up D' h'.1
  have b := h'.up D h.1
  rw [← e, Nat.mul_comm] at b
  exact Rnd.same' a b
/-- rounding keeps the order -/
theorem Rnd.mono {N N' : Int} {D D' : Nat} {r r' : UInt64} (h : Rnd N D r) (h' : Rnd N' D' r') (f : DFin r) (f' : DFin r') (hle : N * (D' : Int) ≤ N' * (D : Int)) : z r ≤ z r' := by
  refine Int.le_of_not_gt fun hlt => ?_
  have hD := h.1
  have hD' := h'.1
  have n1 := h.nearest f f'
  have n2 := h'.nearest f' f
  have a1 : z r' * (D : Int) < N := Int.lt_of_not_ge fun q => by have := h.le f' q; omega
  have a2 : N' < z r * (D' : Int) := Int.lt_of_not_ge fun q => by have := h'.ge f q; omega
  have b1 : N < z r * (D : Int) := by
    have c1 := Int.mul_lt_mul_of_pos_right a2 (c := (D : Int)) (by omega)
    have c2 : N * (D' : Int) < z r * (D : Int) * (D' : Int) := by rw [Int.mul_right_comm]; omega
    exact Int.lt_of_mul_lt_mul_right c2 (by omega)
  have b2 : z r' * (D' : Int) < N' := by
    have c1 := Int.mul_lt_mul_of_pos_right a1 (c := (D' : Int)) (by omega)
    have c2 : z r' * (D' : Int) * (D : Int) < N' * (D : Int) := by rw [Int.mul_right_comm]; omega
    exact Int.lt_of_mul_lt_mul_right c2 (by omega)
  have m1 : z r * (D : Int) + z r' * (D : Int) ≤ 2 * N := by omega
  have m2 : 2 * N' ≤ z r * (D' : Int) + z r' * (D' : Int) := by omega
  have k1 := Int.mul_le_mul_of_nonneg_right m1 (c := (D' : Int)) (by omega)
  have k2 := Int.mul_le_mul_of_nonneg_right m2 (c := (D : Int)) (by omega)
  rw [Int.add_mul, Int.mul_assoc] at k1
  rw [Int.add_mul, Int.mul_assoc] at k2
  rw [Int.mul_right_comm (z r), Int.mul_right_comm (z r')] at k2
  rw [← Int.mul_assoc] at k1 k2
  have e : N * (D' : Int) = N' * (D : Int) := by
    rw [Int.mul_assoc 2] at k1
    have k2' : 2 * (N' * (D : Int)) ≤ z r * (D : Int) * (D' : Int) + z r' * (D : Int) * (D' : Int) := by
      rw [← Int.mul_assoc]; omega
    have k1' : z r * (D : Int) * (D' : Int) + z r' * (D : Int) * (D' : Int) ≤ 2 * (N * (D' : Int)) := by
      omega
    omega
  have := h.same h' e
  omega
/-! comparisons -/
theorem nn {a : UInt64} (h : DFin a) : NoNaN64 a := (fin64_core.mpr h).noNaN
theorem cmp_z {a b : UInt64} (ha : DFin a) (hb : DFin b) : Jvm.FP.dcmp a b = some (compare (z a) (z b)) := dcmp_zval ha.ne_nan hb.ne_nan
theorem cmp_lt {a b : UInt64} (ha : DFin a) (hb : DFin b) (h : z a < z b) (o : Jvm.ClassFile.CmpOp) : Jvm.Op.cmpValue (Jvm.FP.dcmp a b) o = -1 := by
  rw [cmp_z ha hb, (compare_lt_iff _ _).mpr h]; rfl
theorem cmp_eq {a b : UInt64} (ha : DFin a) (hb : DFin b) (h : z a = z b) (o : Jvm.ClassFile.CmpOp) : Jvm.Op.cmpValue (Jvm.FP.dcmp a b) o = 0 := by
  rw [cmp_z ha hb, (compare_eq_iff _ _).mpr h]; rfl
theorem cmp_gt {a b : UInt64} (ha : DFin a) (hb : DFin b) (h : z b < z a) (o : Jvm.ClassFile.CmpOp) : Jvm.Op.cmpValue (Jvm.FP.dcmp a b) o = 1 := by
  rw [cmp_z ha hb, (compare_gt_iff _ _).mpr h]; rfl
/-! whole numbers -/
theorem z_i2d (v : Int32) : DFin (i2d v) ∧ z (i2d v) = v.toInt * (PN 1074 : Int) := by
  have h1 := Int32.toInt_lt v
  have h2 := Int32.le_toInt v
  exact (rnd_i2d v).exact v.toInt 1074 (by omega) (by omega) (by simp)
theorem z_l2d {v : Int64} (h : v.toInt.natAbs ≤ 2 ^ 53) : DFin (l2d v) ∧ z (l2d v) = v.toInt * (PN 1074 : Int) :=
  (rnd_l2d v).exact v.toInt 1074 h (by omega) (by simp)
theorem fin_zero : DFin (0 : UInt64) := (fin_bits 0).mpr (by decide)
theorem z_zero : z (0 : UInt64) = 0 := by decide +kernel
theorem fin_one : DFin (4607182418800017408 : UInt64) := (fin_bits _).mpr (by decide)
theorem z_one : z (4607182418800017408 : UInt64) = (PN 1074 : Int) := by decide +kernel
end Jvm.Own

/-! OwnRel: what a branch asks, in whole numbers. -/
namespace Jvm.Own
open Jvm.ClassFile Jvm.Op
def rel : Jvm.ClassFile.Cond → Int → Int → Bool
  | .eq, a, b => decide (a = b)
  | .ne, a, b => decide (¬ a = b)
  | .lt, a, b => decide (a < b)
  | .ge, a, b => decide (b ≤ a)
  | .gt, a, b => decide (b < a)
  | .le, a, b => decide (a ≤ b)
theorem holdsII (cd : Jvm.ClassFile.Cond) (x y : Int32) : if_icmp.holds cd x y = rel cd x.toInt y.toInt := by
  have e : (x = y) ↔ (x.toInt = y.toInt) := Int32.toInt_inj.symm
  cases cd
  · show (x == y) = decide (x.toInt = y.toInt)
    rw [Bool.eq_iff_iff, beq_iff_eq, decide_eq_true_iff]; exact e
  · show (x != y) = decide (¬ x.toInt = y.toInt)
    rw [Bool.eq_iff_iff, bne_iff_ne, decide_eq_true_iff]; exact not_congr e
  all_goals
    simp only [if_icmp.holds, rel, GE.ge, GT.gt]
    rw [Bool.eq_iff_iff, decide_eq_true_iff, decide_eq_true_iff]
    first | exact Int32.lt_iff_toInt_lt | exact Int32.le_iff_toInt_le
theorem holdsI (cd : Jvm.ClassFile.Cond) (x : Int32) : ifCond.holds cd x = rel cd x.toInt 0 := by
  rw [Jvm.RoadKit.if0, holdsII]; rfl
theorem holdsL (cd : Jvm.ClassFile.Cond) (x y : Int64) : ifCond.holds cd (Jvm.RoadKit.lcmpW x y) = rel cd x.toInt y.toInt := by
  have h := Jvm.RoadKit.c_lcmp x y
  rw [holdsI]
  rcases Int.lt_trichotomy x.toInt y.toInt with q | q | q
  · rw [h.1 q]; cases cd <;> simp [rel] <;> omega
  · rw [h.2.1 q]; cases cd <;> simp [rel] <;> omega
  · rw [h.2.2 q]; cases cd <;> simp [rel] <;> omega
theorem holdsD {a b : UInt64} (ha : Jvm.FP.Core.DFin a) (hb : Jvm.FP.Core.DFin b) (cd : Jvm.ClassFile.Cond) (o : CmpOp) : ifCond.holds cd (Jvm.Op.cmpValue (Jvm.FP.dcmp a b) o) = rel cd (z a) (z b) := by
  rw [holdsI]
  rcases Int.lt_trichotomy (z a) (z b) with q | q | q
  · rw [cmp_lt ha hb q]; cases cd <;> simp [rel] <;> omega
  · rw [cmp_eq ha hb q]; cases cd <;> simp [rel] <;> omega
  · rw [cmp_gt ha hb q]; cases cd <;> simp [rel] <;> omega
theorem dT {p : Prop} [Decidable p] (h : p) : decide p = true := decide_eq_true h
theorem dF {p : Prop} [Decidable p] (h : ¬ p) : decide p = false := decide_eq_false h
theorem dup2X1 {tb : Tables} [Ours tb] {e : Env} {below : List Frame} {T target : State} {m : MethodId} {c : Code} {g : JFrame} (h : At T m c below) (hx : tb.exec = Jvm.exec) (hg : g.method = m) {x : Int64} {y : Value} {rest : List Value} (hd : decode c.code g.pc = .ok (.dup2_x1, 1)) (hs : g.stack = .long x :: y :: rest) (hc : y.category = 1)
    (hr : Steps tb e below (T.setTop { g with pc := g.pc + 1, stack := .long x :: y :: .long x :: rest }) target) : Steps tb e below (T.setTop g) target := by
  subst hg
  jvm_step h [h.top, hx, hd, hs, hc]
  exact hr
theorem irem_mod (x y : Int32) : x - (x / y) * y = x % y := by
  apply Int32.toInt_inj.mp
  have h1 := Int32.le_toInt (x % y)
  have h2 := Int32.toInt_lt (x % y)
  rw [Int32.toInt_sub, Int32.toInt_mul, Int32.toInt_div, Int.bmod_mul_bmod, Int.sub_bmod_bmod, Int.mul_comm (x.toInt.tdiv y.toInt), ← Int.tmod_def, ← Int32.toInt_mod]
  exact Int.bmod_eq_of_le_mul_two (by omega) (by omega)
end Jvm.Own

namespace Jvm.Pilot.@@N@@
open Jvm Jvm.ClassFile Sem Op Lib Jvm.Free Jvm.Stand Jvm.LawKit Jvm.RoadKit Bundle Jvm.Pilot.@@N@@.Jvm.D

theorem d1_0 : decode method_2_code 0 = .ok (.lload_n 0, 1) := by decide +kernel
theorem d1_1 : decode method_2_code 1 = .ok (.ldc2_w 9, 3) := by decide +kernel
theorem d1_4 : decode method_2_code 4 = .ok (.land, 1) := by decide +kernel
theorem d1_5 : decode method_2_code 5 = .ok (.lstore_n 2, 1) := by decide +kernel
theorem d1_6 : decode method_2_code 6 = .ok (.lload_n 2, 1) := by decide +kernel
theorem d1_7 : decode method_2_code 7 = .ok (.lconst 0, 1) := by decide +kernel
theorem d1_8 : decode method_2_code 8 = .ok (.lcmp, 1) := by decide +kernel
theorem d1_9 : decode method_2_code 9 = .ok (.ifCond .ne 5, 3) := by decide +kernel
theorem d1_12 : decode method_2_code 12 = .ok (.lconst 1, 1) := by decide +kernel
theorem d1_13 : decode method_2_code 13 = .ok (.lreturn, 1) := by decide +kernel
theorem d1_14 : decode method_2_code 14 = .ok (.lload_n 2, 1) := by decide +kernel
theorem d1_15 : decode method_2_code 15 = .ok (.lreturn, 1) := by decide +kernel
theorem d2_0 : decode prog_5_method_1_code 0 = .ok (.aload_n 0, 1) := by decide +kernel
theorem d2_1 : decode prog_5_method_1_code 1 = .ok (.invokespecial 1, 3) := by decide +kernel
theorem d2_4 : decode prog_5_method_1_code 4 = .ok (.aload_n 0, 1) := by decide +kernel
theorem d2_5 : decode prog_5_method_1_code 5 = .ok (.new 7, 3) := by decide +kernel
theorem d2_8 : decode prog_5_method_1_code 8 = .ok (.dup, 1) := by decide +kernel
theorem d2_9 : decode prog_5_method_1_code 9 = .ok (.invokespecial 9, 3) := by decide +kernel
theorem d2_12 : decode prog_5_method_1_code 12 = .ok (.putfield 10, 3) := by decide +kernel
theorem d2_15 : decode prog_5_method_1_code 15 = .ok (.aload_n 0, 1) := by decide +kernel
theorem d2_16 : decode prog_5_method_1_code 16 = .ok (.new 7, 3) := by decide +kernel
theorem d2_19 : decode prog_5_method_1_code 19 = .ok (.dup, 1) := by decide +kernel
theorem d2_20 : decode prog_5_method_1_code 20 = .ok (.invokespecial 9, 3) := by decide +kernel
theorem d2_23 : decode prog_5_method_1_code 23 = .ok (.putfield 16, 3) := by decide +kernel
theorem d2_26 : decode prog_5_method_1_code 26 = .ok (.aload_n 0, 1) := by decide +kernel
theorem d2_27 : decode prog_5_method_1_code 27 = .ok (.new 7, 3) := by decide +kernel
theorem d2_30 : decode prog_5_method_1_code 30 = .ok (.dup, 1) := by decide +kernel
theorem d2_31 : decode prog_5_method_1_code 31 = .ok (.invokespecial 9, 3) := by decide +kernel
theorem d2_34 : decode prog_5_method_1_code 34 = .ok (.putfield 19, 3) := by decide +kernel
theorem d2_37 : decode prog_5_method_1_code 37 = .ok (.return_, 1) := by decide +kernel
theorem d4_0 : decode jdk_38_method_2_code 0 = .ok (.aload_n 0, 1) := by decide +kernel
theorem d4_1 : decode jdk_38_method_2_code 1 = .ok (.invokespecial 1, 3) := by decide +kernel
theorem d4_4 : decode jdk_38_method_2_code 4 = .ok (.aload_n 0, 1) := by decide +kernel
theorem d4_5 : decode jdk_38_method_2_code 5 = .ok (.getstatic 39, 3) := by decide +kernel
theorem d4_8 : decode jdk_38_method_2_code 8 = .ok (.putfield 9, 3) := by decide +kernel
theorem d4_11 : decode jdk_38_method_2_code 11 = .ok (.return_, 1) := by decide +kernel
theorem d5_0 : decode jdk_39_method_1_code 0 = .ok (.aload_n 0, 1) := by decide +kernel
theorem d5_1 : decode jdk_39_method_1_code 1 = .ok (.invokespecial 1, 3) := by decide +kernel
theorem d5_4 : decode jdk_39_method_1_code 4 = .ok (.aload_n 0, 1) := by decide +kernel
theorem d5_5 : decode jdk_39_method_1_code 5 = .ok (.iconst 0, 1) := by decide +kernel
theorem d5_6 : decode jdk_39_method_1_code 6 = .ok (.putfield 7, 3) := by decide +kernel
theorem d5_9 : decode jdk_39_method_1_code 9 = .ok (.return_, 1) := by decide +kernel
theorem d6_0 : decode jdk_22_method_1_code 0 = .ok (.aload_n 0, 1) := by decide +kernel
theorem d6_1 : decode jdk_22_method_1_code 1 = .ok (.invokespecial 1, 3) := by decide +kernel
theorem d6_4 : decode jdk_22_method_1_code 4 = .ok (.return_, 1) := by decide +kernel
theorem d7_0 : decode prog_5_method_2_code 0 = .ok (.aload_n 0, 1) := by decide +kernel
theorem d7_1 : decode prog_5_method_2_code 1 = .ok (.getfield 10, 3) := by decide +kernel
theorem d7_4 : decode prog_5_method_2_code 4 = .ok (.lload_n 1, 1) := by decide +kernel
theorem d7_5 : decode prog_5_method_2_code 5 = .ok (.l2d, 1) := by decide +kernel
theorem d7_6 : decode prog_5_method_2_code 6 = .ok (.invokestatic 22, 3) := by decide +kernel
theorem d7_9 : decode prog_5_method_2_code 9 = .ok (.invokeinterface 28 2, 5) := by decide +kernel
theorem d7_14 : decode prog_5_method_2_code 14 = .ok (.pop, 1) := by decide +kernel
theorem d7_15 : decode prog_5_method_2_code 15 = .ok (.aload_n 0, 1) := by decide +kernel
theorem d7_16 : decode prog_5_method_2_code 16 = .ok (.getfield 16, 3) := by decide +kernel
theorem d7_19 : decode prog_5_method_2_code 19 = .ok (.lload_n 3, 1) := by decide +kernel
theorem d7_20 : decode prog_5_method_2_code 20 = .ok (.l2d, 1) := by decide +kernel
theorem d7_21 : decode prog_5_method_2_code 21 = .ok (.invokestatic 22, 3) := by decide +kernel
theorem d7_24 : decode prog_5_method_2_code 24 = .ok (.invokeinterface 28 2, 5) := by decide +kernel
theorem d7_29 : decode prog_5_method_2_code 29 = .ok (.pop, 1) := by decide +kernel
theorem d7_30 : decode prog_5_method_2_code 30 = .ok (.aload_n 0, 1) := by decide +kernel
theorem d7_31 : decode prog_5_method_2_code 31 = .ok (.getfield 19, 3) := by decide +kernel
theorem d7_34 : decode prog_5_method_2_code 34 = .ok (.lload_n 1, 1) := by decide +kernel
theorem d7_35 : decode prog_5_method_2_code 35 = .ok (.l2d, 1) := by decide +kernel
theorem d7_36 : decode prog_5_method_2_code 36 = .ok (.lload_n 3, 1) := by decide +kernel
theorem d7_37 : decode prog_5_method_2_code 37 = .ok (.l2d, 1) := by decide +kernel
theorem d7_38 : decode prog_5_method_2_code 38 = .ok (.ddiv, 1) := by decide +kernel
theorem d7_39 : decode prog_5_method_2_code 39 = .ok (.invokestatic 22, 3) := by decide +kernel
theorem d7_42 : decode prog_5_method_2_code 42 = .ok (.invokeinterface 28 2, 5) := by decide +kernel
theorem d7_47 : decode prog_5_method_2_code 47 = .ok (.pop, 1) := by decide +kernel
theorem d7_48 : decode prog_5_method_2_code 48 = .ok (.return_, 1) := by decide +kernel
theorem d8_0 : decode jdk_117_method_4_code 0 = .ok (.new 1, 3) := by decide +kernel
theorem d8_3 : decode jdk_117_method_4_code 3 = .ok (.dup, 1) := by decide +kernel
theorem d8_4 : decode jdk_117_method_4_code 4 = .ok (.dload_n 0, 1) := by decide +kernel
theorem d8_5 : decode jdk_117_method_4_code 5 = .ok (.invokespecial 105, 3) := by decide +kernel
theorem d8_8 : decode jdk_117_method_4_code 8 = .ok (.areturn, 1) := by decide +kernel
theorem d9_0 : decode jdk_117_method_9_code 0 = .ok (.aload_n 0, 1) := by decide +kernel
theorem d9_1 : decode jdk_117_method_9_code 1 = .ok (.invokespecial 113, 3) := by decide +kernel
theorem d9_4 : decode jdk_117_method_9_code 4 = .ok (.aload_n 0, 1) := by decide +kernel
theorem d9_5 : decode jdk_117_method_9_code 5 = .ok (.dload_n 1, 1) := by decide +kernel
theorem d9_6 : decode jdk_117_method_9_code 6 = .ok (.putfield 118, 3) := by decide +kernel
theorem d9_9 : decode jdk_117_method_9_code 9 = .ok (.return_, 1) := by decide +kernel
theorem d10_0 : decode jdk_18_method_1_code 0 = .ok (.aload_n 0, 1) := by decide +kernel
theorem d10_1 : decode jdk_18_method_1_code 1 = .ok (.invokespecial 1, 3) := by decide +kernel
theorem d10_4 : decode jdk_18_method_1_code 4 = .ok (.return_, 1) := by decide +kernel
theorem d11_0 : decode jdk_38_method_25_code 0 = .ok (.aload_n 0, 1) := by decide +kernel
theorem d11_1 : decode jdk_38_method_25_code 1 = .ok (.dup, 1) := by decide +kernel
theorem d11_2 : decode jdk_38_method_25_code 2 = .ok (.getfield 63, 3) := by decide +kernel
theorem d11_5 : decode jdk_38_method_25_code 5 = .ok (.iconst 1, 1) := by decide +kernel
theorem d11_6 : decode jdk_38_method_25_code 6 = .ok (.iadd, 1) := by decide +kernel
theorem d11_7 : decode jdk_38_method_25_code 7 = .ok (.putfield 63, 3) := by decide +kernel
theorem d11_10 : decode jdk_38_method_25_code 10 = .ok (.aload_n 0, 1) := by decide +kernel
theorem d11_11 : decode jdk_38_method_25_code 11 = .ok (.aload_n 1, 1) := by decide +kernel
theorem d11_12 : decode jdk_38_method_25_code 12 = .ok (.aload_n 0, 1) := by decide +kernel
theorem d11_13 : decode jdk_38_method_25_code 13 = .ok (.getfield 9, 3) := by decide +kernel
theorem d11_16 : decode jdk_38_method_25_code 16 = .ok (.aload_n 0, 1) := by decide +kernel
theorem d11_17 : decode jdk_38_method_25_code 17 = .ok (.getfield 48, 3) := by decide +kernel
theorem d11_20 : decode jdk_38_method_25_code 20 = .ok (.invokevirtual 131, 3) := by decide +kernel
theorem d11_23 : decode jdk_38_method_25_code 23 = .ok (.iconst 1, 1) := by decide +kernel
theorem d11_24 : decode jdk_38_method_25_code 24 = .ok (.ireturn, 1) := by decide +kernel
theorem d12_0 : decode jdk_38_method_24_code 0 = .ok (.iload_n 3, 1) := by decide +kernel
theorem d12_1 : decode jdk_38_method_24_code 1 = .ok (.aload_n 2, 1) := by decide +kernel
theorem d12_2 : decode jdk_38_method_24_code 2 = .ok (.arraylength, 1) := by decide +kernel
theorem d12_3 : decode jdk_38_method_24_code 3 = .ok (.if_icmp .ne 8, 3) := by decide +kernel
theorem d12_6 : decode jdk_38_method_24_code 6 = .ok (.aload_n 0, 1) := by decide +kernel
theorem d12_7 : decode jdk_38_method_24_code 7 = .ok (.invokevirtual 129, 3) := by decide +kernel
theorem d12_10 : decode jdk_38_method_24_code 10 = .ok (.astore_n 2, 1) := by decide +kernel
theorem d12_11 : decode jdk_38_method_24_code 11 = .ok (.aload_n 2, 1) := by decide +kernel
theorem d12_12 : decode jdk_38_method_24_code 12 = .ok (.iload_n 3, 1) := by decide +kernel
theorem d12_13 : decode jdk_38_method_24_code 13 = .ok (.aload_n 1, 1) := by decide +kernel
theorem d12_14 : decode jdk_38_method_24_code 14 = .ok (.aastore, 1) := by decide +kernel
theorem d12_15 : decode jdk_38_method_24_code 15 = .ok (.aload_n 0, 1) := by decide +kernel
theorem d12_16 : decode jdk_38_method_24_code 16 = .ok (.iload_n 3, 1) := by decide +kernel
theorem d12_17 : decode jdk_38_method_24_code 17 = .ok (.iconst 1, 1) := by decide +kernel
theorem d12_18 : decode jdk_38_method_24_code 18 = .ok (.iadd, 1) := by decide +kernel
theorem d12_19 : decode jdk_38_method_24_code 19 = .ok (.putfield 48, 3) := by decide +kernel
theorem d12_22 : decode jdk_38_method_24_code 22 = .ok (.return_, 1) := by decide +kernel
theorem d13_0 : decode jdk_38_method_7_code 0 = .ok (.aload_n 0, 1) := by decide +kernel
theorem d13_1 : decode jdk_38_method_7_code 1 = .ok (.aload_n 0, 1) := by decide +kernel
theorem d13_2 : decode jdk_38_method_7_code 2 = .ok (.getfield 48, 3) := by decide +kernel
theorem d13_5 : decode jdk_38_method_7_code 5 = .ok (.iconst 1, 1) := by decide +kernel
theorem d13_6 : decode jdk_38_method_7_code 6 = .ok (.iadd, 1) := by decide +kernel
theorem d13_7 : decode jdk_38_method_7_code 7 = .ok (.invokevirtual 69, 3) := by decide +kernel
theorem d13_10 : decode jdk_38_method_7_code 10 = .ok (.areturn, 1) := by decide +kernel
theorem d14_0 : decode jdk_38_method_6_code 0 = .ok (.aload_n 0, 1) := by decide +kernel
theorem d14_1 : decode jdk_38_method_6_code 1 = .ok (.getfield 9, 3) := by decide +kernel
theorem d14_4 : decode jdk_38_method_6_code 4 = .ok (.arraylength, 1) := by decide +kernel
theorem d14_5 : decode jdk_38_method_6_code 5 = .ok (.istore_n 2, 1) := by decide +kernel
theorem d14_6 : decode jdk_38_method_6_code 6 = .ok (.iload_n 2, 1) := by decide +kernel
theorem d14_7 : decode jdk_38_method_6_code 7 = .ok (.ifCond .gt 13, 3) := by decide +kernel
theorem d14_10 : decode jdk_38_method_6_code 10 = .ok (.aload_n 0, 1) := by decide +kernel
theorem d14_11 : decode jdk_38_method_6_code 11 = .ok (.getfield 9, 3) := by decide +kernel
theorem d14_14 : decode jdk_38_method_6_code 14 = .ok (.getstatic 39, 3) := by decide +kernel
theorem d14_17 : decode jdk_38_method_6_code 17 = .ok (.if_acmp .eq 28, 3) := by decide +kernel
theorem d14_45 : decode jdk_38_method_6_code 45 = .ok (.aload_n 0, 1) := by decide +kernel
theorem d14_46 : decode jdk_38_method_6_code 46 = .ok (.bipush 10, 2) := by decide +kernel
theorem d14_48 : decode jdk_38_method_6_code 48 = .ok (.iload_n 1, 1) := by decide +kernel
theorem d14_49 : decode jdk_38_method_6_code 49 = .ok (.invokestatic 79, 3) := by decide +kernel
theorem d14_52 : decode jdk_38_method_6_code 52 = .ok (.anewarray 7, 3) := by decide +kernel
theorem d14_55 : decode jdk_38_method_6_code 55 = .ok (.dup_x1, 1) := by decide +kernel
theorem d14_56 : decode jdk_38_method_6_code 56 = .ok (.putfield 9, 3) := by decide +kernel
theorem d14_59 : decode jdk_38_method_6_code 59 = .ok (.areturn, 1) := by decide +kernel
theorem d15_0 : decode jdk_29_method_65_code 0 = .ok (.iload_n 0, 1) := by decide +kernel
theorem d15_1 : decode jdk_29_method_65_code 1 = .ok (.iload_n 1, 1) := by decide +kernel
theorem d15_2 : decode jdk_29_method_65_code 2 = .ok (.if_icmp .lt 7, 3) := by decide +kernel
theorem d15_5 : decode jdk_29_method_65_code 5 = .ok (.iload_n 0, 1) := by decide +kernel
theorem d15_6 : decode jdk_29_method_65_code 6 = .ok (.goto 4, 3) := by decide +kernel
theorem d15_10 : decode jdk_29_method_65_code 10 = .ok (.ireturn, 1) := by decide +kernel
theorem d16_0 : decode prog_5_method_7_code 0 = .ok (.aload_n 0, 1) := by decide +kernel
theorem d16_1 : decode prog_5_method_7_code 1 = .ok (.getfield 19, 3) := by decide +kernel
theorem d16_4 : decode prog_5_method_7_code 4 = .ok (.invokestatic 50, 3) := by decide +kernel
theorem d16_7 : decode prog_5_method_7_code 7 = .ok (.checkcast 23, 3) := by decide +kernel
theorem d16_10 : decode prog_5_method_7_code 10 = .ok (.invokevirtual 46, 3) := by decide +kernel
theorem d16_13 : decode prog_5_method_7_code 13 = .ok (.dreturn, 1) := by decide +kernel
theorem d17_0 : decode jdk_79_method_21_code 0 = .ok (.aload_n 0, 1) := by decide +kernel
theorem d17_1 : decode jdk_79_method_21_code 1 = .ok (.invokeinterface 119 1, 5) := by decide +kernel
theorem d17_6 : decode jdk_79_method_21_code 6 = .ok (.astore_n 1, 1) := by decide +kernel
theorem d17_7 : decode jdk_79_method_21_code 7 = .ok (.aload_n 1, 1) := by decide +kernel
theorem d17_8 : decode jdk_79_method_21_code 8 = .ok (.invokeinterface 125 1, 5) := by decide +kernel
theorem d17_13 : decode jdk_79_method_21_code 13 = .ok (.astore_n 2, 1) := by decide +kernel
theorem d17_14 : decode jdk_79_method_21_code 14 = .ok (.aload_n 1, 1) := by decide +kernel
theorem d17_15 : decode jdk_79_method_21_code 15 = .ok (.invokeinterface 128 1, 5) := by decide +kernel
theorem d17_20 : decode jdk_79_method_21_code 20 = .ok (.ifCond .eq 28, 3) := by decide +kernel
theorem d17_23 : decode jdk_79_method_21_code 23 = .ok (.aload_n 1, 1) := by decide +kernel
theorem d17_24 : decode jdk_79_method_21_code 24 = .ok (.invokeinterface 125 1, 5) := by decide +kernel
theorem d17_29 : decode jdk_79_method_21_code 29 = .ok (.astore_n 3, 1) := by decide +kernel
theorem d17_30 : decode jdk_79_method_21_code 30 = .ok (.aload_n 3, 1) := by decide +kernel
theorem d17_31 : decode jdk_79_method_21_code 31 = .ok (.checkcast 32, 3) := by decide +kernel
theorem d17_34 : decode jdk_79_method_21_code 34 = .ok (.aload_n 2, 1) := by decide +kernel
theorem d17_35 : decode jdk_79_method_21_code 35 = .ok (.invokeinterface 34 2, 5) := by decide +kernel
theorem d17_40 : decode jdk_79_method_21_code 40 = .ok (.ifCond .le 5, 3) := by decide +kernel
theorem d17_43 : decode jdk_79_method_21_code 43 = .ok (.aload_n 3, 1) := by decide +kernel
theorem d17_44 : decode jdk_79_method_21_code 44 = .ok (.astore_n 2, 1) := by decide +kernel
theorem d17_45 : decode jdk_79_method_21_code 45 = .ok (.goto (-31), 3) := by decide +kernel
theorem d17_48 : decode jdk_79_method_21_code 48 = .ok (.aload_n 2, 1) := by decide +kernel
theorem d17_49 : decode jdk_79_method_21_code 49 = .ok (.areturn, 1) := by decide +kernel
theorem d18_0 : decode jdk_38_method_55_code 0 = .ok (.new 267, 3) := by decide +kernel
theorem d18_3 : decode jdk_38_method_55_code 3 = .ok (.dup, 1) := by decide +kernel
theorem d18_4 : decode jdk_38_method_55_code 4 = .ok (.aload_n 0, 1) := by decide +kernel
theorem d18_5 : decode jdk_38_method_55_code 5 = .ok (.invokespecial 269, 3) := by decide +kernel
theorem d18_8 : decode jdk_38_method_55_code 8 = .ok (.areturn, 1) := by decide +kernel
theorem d19_0 : decode jdk_49_method_1_code 0 = .ok (.aload_n 0, 1) := by decide +kernel
theorem d19_1 : decode jdk_49_method_1_code 1 = .ok (.aload_n 1, 1) := by decide +kernel
theorem d19_2 : decode jdk_49_method_1_code 2 = .ok (.putfield 1, 3) := by decide +kernel
theorem d19_5 : decode jdk_49_method_1_code 5 = .ok (.aload_n 0, 1) := by decide +kernel
theorem d19_6 : decode jdk_49_method_1_code 6 = .ok (.invokespecial 7, 3) := by decide +kernel
theorem d19_9 : decode jdk_49_method_1_code 9 = .ok (.aload_n 0, 1) := by decide +kernel
theorem d19_10 : decode jdk_49_method_1_code 10 = .ok (.iconst (-1), 1) := by decide +kernel
theorem d19_11 : decode jdk_49_method_1_code 11 = .ok (.putfield 13, 3) := by decide +kernel
theorem d19_14 : decode jdk_49_method_1_code 14 = .ok (.aload_n 0, 1) := by decide +kernel
theorem d19_15 : decode jdk_49_method_1_code 15 = .ok (.aload_n 0, 1) := by decide +kernel
theorem d19_16 : decode jdk_49_method_1_code 16 = .ok (.getfield 1, 3) := by decide +kernel
theorem d19_19 : decode jdk_49_method_1_code 19 = .ok (.getfield 17, 3) := by decide +kernel
theorem d19_22 : decode jdk_49_method_1_code 22 = .ok (.putfield 22, 3) := by decide +kernel
theorem d19_25 : decode jdk_49_method_1_code 25 = .ok (.return_, 1) := by decide +kernel
theorem d20_0 : decode jdk_49_method_3_code 0 = .ok (.aload_n 0, 1) := by decide +kernel
theorem d20_1 : decode jdk_49_method_3_code 1 = .ok (.invokevirtual 31, 3) := by decide +kernel
theorem d20_4 : decode jdk_49_method_3_code 4 = .ok (.aload_n 0, 1) := by decide +kernel
theorem d20_5 : decode jdk_49_method_3_code 5 = .ok (.getfield 25, 3) := by decide +kernel
theorem d20_8 : decode jdk_49_method_3_code 8 = .ok (.istore_n 1, 1) := by decide +kernel
theorem d20_9 : decode jdk_49_method_3_code 9 = .ok (.iload_n 1, 1) := by decide +kernel
theorem d20_10 : decode jdk_49_method_3_code 10 = .ok (.aload_n 0, 1) := by decide +kernel
theorem d20_11 : decode jdk_49_method_3_code 11 = .ok (.getfield 1, 3) := by decide +kernel
theorem d20_14 : decode jdk_49_method_3_code 14 = .ok (.getfield 28, 3) := by decide +kernel
theorem d20_17 : decode jdk_49_method_3_code 17 = .ok (.if_icmp .lt 11, 3) := by decide +kernel
theorem d20_28 : decode jdk_49_method_3_code 28 = .ok (.aload_n 0, 1) := by decide +kernel
theorem d20_29 : decode jdk_49_method_3_code 29 = .ok (.getfield 1, 3) := by decide +kernel
theorem d20_32 : decode jdk_49_method_3_code 32 = .ok (.getfield 37, 3) := by decide +kernel
theorem d20_35 : decode jdk_49_method_3_code 35 = .ok (.astore_n 2, 1) := by decide +kernel
theorem d20_36 : decode jdk_49_method_3_code 36 = .ok (.iload_n 1, 1) := by decide +kernel
theorem d20_37 : decode jdk_49_method_3_code 37 = .ok (.aload_n 2, 1) := by decide +kernel
theorem d20_38 : decode jdk_49_method_3_code 38 = .ok (.arraylength, 1) := by decide +kernel
theorem d20_39 : decode jdk_49_method_3_code 39 = .ok (.if_icmp .lt 11, 3) := by decide +kernel
theorem d20_50 : decode jdk_49_method_3_code 50 = .ok (.aload_n 0, 1) := by decide +kernel
theorem d20_51 : decode jdk_49_method_3_code 51 = .ok (.iload_n 1, 1) := by decide +kernel
theorem d20_52 : decode jdk_49_method_3_code 52 = .ok (.iconst 1, 1) := by decide +kernel
theorem d20_53 : decode jdk_49_method_3_code 53 = .ok (.iadd, 1) := by decide +kernel
theorem d20_54 : decode jdk_49_method_3_code 54 = .ok (.putfield 25, 3) := by decide +kernel
theorem d20_57 : decode jdk_49_method_3_code 57 = .ok (.aload_n 2, 1) := by decide +kernel
theorem d20_58 : decode jdk_49_method_3_code 58 = .ok (.aload_n 0, 1) := by decide +kernel
theorem d20_59 : decode jdk_49_method_3_code 59 = .ok (.iload_n 1, 1) := by decide +kernel
theorem d20_60 : decode jdk_49_method_3_code 60 = .ok (.dup_x1, 1) := by decide +kernel
theorem d20_61 : decode jdk_49_method_3_code 61 = .ok (.putfield 13, 3) := by decide +kernel
theorem d20_64 : decode jdk_49_method_3_code 64 = .ok (.aaload, 1) := by decide +kernel
theorem d20_65 : decode jdk_49_method_3_code 65 = .ok (.areturn, 1) := by decide +kernel
theorem d21_0 : decode jdk_49_method_6_code 0 = .ok (.aload_n 0, 1) := by decide +kernel
theorem d21_1 : decode jdk_49_method_6_code 1 = .ok (.getfield 1, 3) := by decide +kernel
theorem d21_4 : decode jdk_49_method_6_code 4 = .ok (.getfield 17, 3) := by decide +kernel
theorem d21_7 : decode jdk_49_method_6_code 7 = .ok (.aload_n 0, 1) := by decide +kernel
theorem d21_8 : decode jdk_49_method_6_code 8 = .ok (.getfield 22, 3) := by decide +kernel
theorem d21_11 : decode jdk_49_method_6_code 11 = .ok (.if_icmp .eq 11, 3) := by decide +kernel
theorem d21_22 : decode jdk_49_method_6_code 22 = .ok (.return_, 1) := by decide +kernel
theorem d22_0 : decode jdk_49_method_2_code 0 = .ok (.aload_n 0, 1) := by decide +kernel
theorem d22_1 : decode jdk_49_method_2_code 1 = .ok (.getfield 25, 3) := by decide +kernel
theorem d22_4 : decode jdk_49_method_2_code 4 = .ok (.aload_n 0, 1) := by decide +kernel
theorem d22_5 : decode jdk_49_method_2_code 5 = .ok (.getfield 1, 3) := by decide +kernel
theorem d22_8 : decode jdk_49_method_2_code 8 = .ok (.getfield 28, 3) := by decide +kernel
theorem d22_11 : decode jdk_49_method_2_code 11 = .ok (.if_icmp .eq 7, 3) := by decide +kernel
theorem d22_14 : decode jdk_49_method_2_code 14 = .ok (.iconst 1, 1) := by decide +kernel
theorem d22_15 : decode jdk_49_method_2_code 15 = .ok (.goto 4, 3) := by decide +kernel
theorem d22_18 : decode jdk_49_method_2_code 18 = .ok (.iconst 0, 1) := by decide +kernel
theorem d22_19 : decode jdk_49_method_2_code 19 = .ok (.ireturn, 1) := by decide +kernel
theorem d23_0 : decode jdk_117_method_19_code 0 = .ok (.aload_n 0, 1) := by decide +kernel
theorem d23_1 : decode jdk_117_method_19_code 1 = .ok (.getfield 118, 3) := by decide +kernel
theorem d23_4 : decode jdk_117_method_19_code 4 = .ok (.dreturn, 1) := by decide +kernel
theorem d24_0 : decode jdk_117_method_33_code 0 = .ok (.aload_n 0, 1) := by decide +kernel
theorem d24_1 : decode jdk_117_method_33_code 1 = .ok (.aload_n 1, 1) := by decide +kernel
theorem d24_2 : decode jdk_117_method_33_code 2 = .ok (.checkcast 1, 3) := by decide +kernel
theorem d24_5 : decode jdk_117_method_33_code 5 = .ok (.invokevirtual 155, 3) := by decide +kernel
theorem d24_8 : decode jdk_117_method_33_code 8 = .ok (.ireturn, 1) := by decide +kernel
theorem d25_0 : decode jdk_117_method_26_code 0 = .ok (.aload_n 0, 1) := by decide +kernel
theorem d25_1 : decode jdk_117_method_26_code 1 = .ok (.getfield 118, 3) := by decide +kernel
theorem d25_4 : decode jdk_117_method_26_code 4 = .ok (.aload_n 1, 1) := by decide +kernel
theorem d25_5 : decode jdk_117_method_26_code 5 = .ok (.getfield 118, 3) := by decide +kernel
theorem d25_8 : decode jdk_117_method_26_code 8 = .ok (.invokestatic 139, 3) := by decide +kernel
theorem d25_11 : decode jdk_117_method_26_code 11 = .ok (.ireturn, 1) := by decide +kernel
theorem d26_0 : decode jdk_117_method_27_code 0 = .ok (.dload_n 0, 1) := by decide +kernel
theorem d26_1 : decode jdk_117_method_27_code 1 = .ok (.dload_n 2, 1) := by decide +kernel
theorem d26_2 : decode jdk_117_method_27_code 2 = .ok (.dcmp .g, 1) := by decide +kernel
theorem d26_3 : decode jdk_117_method_27_code 3 = .ok (.ifCond .ge 5, 3) := by decide +kernel
theorem d26_6 : decode jdk_117_method_27_code 6 = .ok (.iconst (-1), 1) := by decide +kernel
theorem d26_7 : decode jdk_117_method_27_code 7 = .ok (.ireturn, 1) := by decide +kernel
theorem d26_8 : decode jdk_117_method_27_code 8 = .ok (.dload_n 0, 1) := by decide +kernel
theorem d26_9 : decode jdk_117_method_27_code 9 = .ok (.dload_n 2, 1) := by decide +kernel
theorem d26_10 : decode jdk_117_method_27_code 10 = .ok (.dcmp .l, 1) := by decide +kernel
theorem d26_11 : decode jdk_117_method_27_code 11 = .ok (.ifCond .le 5, 3) := by decide +kernel
theorem d26_14 : decode jdk_117_method_27_code 14 = .ok (.iconst 1, 1) := by decide +kernel
theorem d26_15 : decode jdk_117_method_27_code 15 = .ok (.ireturn, 1) := by decide +kernel
theorem d26_16 : decode jdk_117_method_27_code 16 = .ok (.dload_n 0, 1) := by decide +kernel
theorem d26_17 : decode jdk_117_method_27_code 17 = .ok (.invokestatic 46, 3) := by decide +kernel
theorem d26_20 : decode jdk_117_method_27_code 20 = .ok (.lstore 4, 2) := by decide +kernel
theorem d26_22 : decode jdk_117_method_27_code 22 = .ok (.dload_n 2, 1) := by decide +kernel
theorem d26_23 : decode jdk_117_method_27_code 23 = .ok (.invokestatic 46, 3) := by decide +kernel
theorem d26_26 : decode jdk_117_method_27_code 26 = .ok (.lstore 6, 2) := by decide +kernel
theorem d26_28 : decode jdk_117_method_27_code 28 = .ok (.lload 4, 2) := by decide +kernel
theorem d26_30 : decode jdk_117_method_27_code 30 = .ok (.lload 6, 2) := by decide +kernel
theorem d26_32 : decode jdk_117_method_27_code 32 = .ok (.lcmp, 1) := by decide +kernel
theorem d26_33 : decode jdk_117_method_27_code 33 = .ok (.ifCond .ne 7, 3) := by decide +kernel
theorem d26_36 : decode jdk_117_method_27_code 36 = .ok (.iconst 0, 1) := by decide +kernel
theorem d26_37 : decode jdk_117_method_27_code 37 = .ok (.goto 16, 3) := by decide +kernel
theorem d26_40 : decode jdk_117_method_27_code 40 = .ok (.lload 4, 2) := by decide +kernel
theorem d26_42 : decode jdk_117_method_27_code 42 = .ok (.lload 6, 2) := by decide +kernel
theorem d26_44 : decode jdk_117_method_27_code 44 = .ok (.lcmp, 1) := by decide +kernel
theorem d26_45 : decode jdk_117_method_27_code 45 = .ok (.ifCond .ge 7, 3) := by decide +kernel
theorem d26_48 : decode jdk_117_method_27_code 48 = .ok (.iconst (-1), 1) := by decide +kernel
theorem d26_49 : decode jdk_117_method_27_code 49 = .ok (.goto 4, 3) := by decide +kernel
theorem d26_52 : decode jdk_117_method_27_code 52 = .ok (.iconst 1, 1) := by decide +kernel
theorem d26_53 : decode jdk_117_method_27_code 53 = .ok (.ireturn, 1) := by decide +kernel
theorem d27_0 : decode jdk_117_method_23_code 0 = .ok (.dload_n 0, 1) := by decide +kernel
theorem d27_1 : decode jdk_117_method_23_code 1 = .ok (.invokestatic 122, 3) := by decide +kernel
theorem d27_4 : decode jdk_117_method_23_code 4 = .ok (.ifCond .ne 8, 3) := by decide +kernel
theorem d27_7 : decode jdk_117_method_23_code 7 = .ok (.dload_n 0, 1) := by decide +kernel
theorem d27_8 : decode jdk_117_method_23_code 8 = .ok (.invokestatic 134, 3) := by decide +kernel
theorem d27_11 : decode jdk_117_method_23_code 11 = .ok (.lreturn, 1) := by decide +kernel
theorem d28_0 : decode jdk_117_method_6_code 0 = .ok (.dload_n 0, 1) := by decide +kernel
theorem d28_1 : decode jdk_117_method_6_code 1 = .ok (.dload_n 0, 1) := by decide +kernel
theorem d28_2 : decode jdk_117_method_6_code 2 = .ok (.dcmp .l, 1) := by decide +kernel
theorem d28_3 : decode jdk_117_method_6_code 3 = .ok (.ifCond .eq 7, 3) := by decide +kernel
theorem d28_10 : decode jdk_117_method_6_code 10 = .ok (.iconst 0, 1) := by decide +kernel
theorem d28_11 : decode jdk_117_method_6_code 11 = .ok (.ireturn, 1) := by decide +kernel
theorem pd_0 : parseMethodDescriptor "()V" = some ⟨[], none⟩ := by decide +kernel
theorem pd_1 : parseMethodDescriptor "(D)V" = some ⟨[.double], none⟩ := by decide +kernel
theorem pd_2 : parseMethodDescriptor "(II)I" = some ⟨[.int, .int], some .int⟩ := by decide +kernel
theorem pd_3 : parseMethodDescriptor "(I)[Ljava/lang/Object;" = some ⟨[.int], some (.array (.object "java/lang/Object"))⟩ := by decide +kernel
theorem pd_4 : parseMethodDescriptor "()[Ljava/lang/Object;" = some ⟨[], some (.array (.object "java/lang/Object"))⟩ := by decide +kernel
theorem pd_5 : parseMethodDescriptor "(Ljava/lang/Object;[Ljava/lang/Object;I)V" = some ⟨[(.object "java/lang/Object"), (.array (.object "java/lang/Object")), .int], none⟩ := by decide +kernel
theorem pd_6 : parseMethodDescriptor "(D)Ljava/lang/Double;" = some ⟨[.double], some (.object "java/lang/Double")⟩ := by decide +kernel
theorem pd_7 : parseMethodDescriptor "(Ljava/lang/Object;)Z" = some ⟨[(.object "java/lang/Object")], some .boolean⟩ := by decide +kernel
theorem pd_8 : parseMethodDescriptor "(Ljava/util/ArrayList;)V" = some ⟨[(.object "java/util/ArrayList")], none⟩ := by decide +kernel
theorem pd_9 : parseMethodDescriptor "(D)Z" = some ⟨[.double], some .boolean⟩ := by decide +kernel
theorem pd_10 : parseMethodDescriptor "(D)J" = some ⟨[.double], some .long⟩ := by decide +kernel
theorem pd_11 : parseMethodDescriptor "(DD)I" = some ⟨[.double, .double], some .int⟩ := by decide +kernel
theorem pd_12 : parseMethodDescriptor "(Ljava/lang/Double;)I" = some ⟨[(.object "java/lang/Double")], some .int⟩ := by decide +kernel
theorem pd_13 : parseMethodDescriptor "()Z" = some ⟨[], some .boolean⟩ := by decide +kernel
theorem pd_14 : parseMethodDescriptor "()Ljava/lang/Object;" = some ⟨[], some (.object "java/lang/Object")⟩ := by decide +kernel
theorem pd_15 : parseMethodDescriptor "(Ljava/lang/Object;)I" = some ⟨[(.object "java/lang/Object")], some .int⟩ := by decide +kernel
theorem pd_16 : parseMethodDescriptor "()Ljava/util/Iterator;" = some ⟨[], some (.object "java/util/Iterator")⟩ := by decide +kernel
theorem pd_17 : parseMethodDescriptor "(Ljava/util/Collection;)Ljava/lang/Object;" = some ⟨[(.object "java/util/Collection")], some (.object "java/lang/Object")⟩ := by decide +kernel
theorem pd_18 : parseMethodDescriptor "()D" = some ⟨[], some .double⟩ := by decide +kernel
theorem pd_19 : parseMethodDescriptor "(J)J" = some ⟨[.long], some .long⟩ := by decide +kernel
theorem pd_20 : parseMethodDescriptor "(JJ)V" = some ⟨[.long, .long], none⟩ := by decide +kernel
theorem pn_0 : plainName "java/util/AbstractCollection" = true := by first | (simp [plainName, overriddenIn]; done) | decide +kernel
theorem pn_1 : plainName "java/util/AbstractList" = true := by first | (simp [plainName, overriddenIn]; done) | decide +kernel
theorem pn_2 : plainName "java/util/ArrayList" = true := by first | (simp [plainName, overriddenIn]; done) | decide +kernel
theorem pn_3 : plainName "java/lang/Number" = true := by first | (simp [plainName, overriddenIn]; done) | decide +kernel
theorem pn_4 : plainName "java/lang/Double" = true := by first | (simp [plainName, overriddenIn]; done) | decide +kernel
theorem pn_5 : plainName "com/example/quadwarden/quadwarden/cli/PairedTimings" = true := by first | (simp [plainName, overriddenIn]; done) | decide +kernel
theorem pn_6 : plainName "java/util/ArrayList$Itr" = true := by first | (simp [plainName, overriddenIn]; done) | decide +kernel
theorem pn_7 : plainName "java/util/Collections" = true := by first | (simp [plainName, overriddenIn]; done) | decide +kernel
theorem pn_8 : plainName "com/example/quadwarden/quadwarden/cli/PairedTimingsRatioMaxPinLaw" = true := by first | (simp [plainName, overriddenIn]; done) | decide +kernel

variable {Z : State} {h h' : Heap} {a b t : Addr} {w : UInt64} {mo n : Int32} {vs : List Value} {ws : List Addr} {sl : Nat} {v : Value}
def Bx (Z : State) (h : Heap) (b : Addr) (w : UInt64) : Prop := Exa Z h b "java/lang/Double" ∧ Fld Z h b "java/lang/Double" "value" "D" (.double w)
theorem Bx.keep (B : Bx Z h b w) (K : Keep h h' ws) (q : b ∉ ws) : Bx Z h' b w := ⟨B.1.keep K, B.2.keep K q⟩
theorem Bx.ext (B : Bx Z h b w) (E : Ext h h') : Bx Z h' b w := ⟨B.1.ext E, B.2.ext E⟩
theorem Bx.wr (B : Bx Z h b w) (W : Wr h h' a sl v) (q : b ≠ a) : Bx Z h' b w := ⟨B.1.wr W, B.2.other W (Or.inl q)⟩
/-- an Object[10] and what it holds -/
def OA (Z : State) (h : Heap) (t : Addr) (vs : List Value) : Prop := ∃ k, Arv Z h t k (.object "java/lang/Object") (10 : Int32) vs .null ∧ vs.length = 10 ∧ Ovr Z k "java/lang/Object"
theorem OA.keep (B : OA Z h t vs) (K : Keep h h' ws) (q : t ∉ ws) : OA Z h' t vs := by obtain ⟨k, A, r⟩ := B; exact ⟨k, A.keep K q, r⟩
theorem OA.ext (B : OA Z h t vs) (E : Ext h h') : OA Z h' t vs := by obtain ⟨k, A, r⟩ := B; exact ⟨k, A.ext E, r⟩
theorem OA.wr (B : OA Z h t vs) (W : Wr h h' a sl v) (q : t ≠ a) : OA Z h' t vs := by obtain ⟨k, A, r⟩ := B; exact ⟨k, A.other W q, r⟩
theorem OA.lt (B : OA Z h t vs) : t < h.size := by obtain ⟨k, A, r⟩ := B; exact A.lt
theorem OA.new {k : ClassId} (A : Arr Z h t (newA k (.object "java/lang/Object") (10 : Int32)) (.object "java/lang/Object")) (O : Ovr Z k "java/lang/Object") : OA Z h t (List.replicate 10 .null) :=
  ⟨k, (Arv.new A (by decide)).pad (fun i => by rw [List.getD_eq_getElem?_getD, List.getElem?_replicate]; split <;> rfl), rfl, O⟩
theorem OA.ne {C : String} {a0 : Array Value} {k : Nat} (B : OA Z h t vs) (E : Exa Z h a C) (w : (Cond.instantiable C k).before a0 Z = true) : a ≠ t := by obtain ⟨k, A, r⟩ := B; exact E.neArv A w
theorem OA.set {j : Int32} {i : Nat} (B : OA Z h t vs) (W : Wr h h' t j.toNatClampNeg (.ref b)) (hj : j.toNatClampNeg = i) (hi : i < 10) : OA Z h' t (vs.set i (.ref b)) := by
  obtain ⟨k, ⟨c, A, q1, S, q3, H, G⟩, r, O⟩ := B
  exact ⟨k, Arv.set A q1 S q3 H G rfl W i hj (by omega), by rw [List.length_set, r], O⟩
/-- an ArrayList with its room of ten -/
def LS (Z : State) (h : Heap) (a : Addr) (mo n : Int32) (t : Addr) (vs : List Value) : Prop := Exa Z h a "java/util/ArrayList" ∧ Fld Z h a "java/util/AbstractList" "modCount" "I" (.int mo) ∧ Fld Z h a "java/util/ArrayList" "size" "I" (.int n) ∧ Fld Z h a "java/util/ArrayList" "elementData" "[Ljava/lang/Object;" (.ref t) ∧ OA Z h t vs
theorem LS.keep (B : LS Z h a mo n t vs) (K : Keep h h' ws) (q : a ∉ ws) (r : t ∉ ws) : LS Z h' a mo n t vs := ⟨B.1.keep K, B.2.1.keep K q, B.2.2.1.keep K q, B.2.2.2.1.keep K q, B.2.2.2.2.keep K r⟩
theorem LS.ext (B : LS Z h a mo n t vs) (E : Ext h h') : LS Z h' a mo n t vs := ⟨B.1.ext E, B.2.1.ext E, B.2.2.1.ext E, B.2.2.2.1.ext E, B.2.2.2.2.ext E⟩
theorem LS.wr (B : LS Z h a mo n t vs) (W : Wr h h' b sl v) (q : a ≠ b) (r : t ≠ b) : LS Z h' a mo n t vs := ⟨B.1.wr W, B.2.1.other W (Or.inl q), B.2.2.1.other W (Or.inl q), B.2.2.2.1.other W (Or.inl q), B.2.2.2.2.wr W r⟩
/-- an ArrayList that nothing was added to -/
def L0 (Z : State) (h : Heap) (a : Addr) (mo : Int32) (w3 : Addr) : Prop := Exa Z h a "java/util/ArrayList" ∧ Fld Z h a "java/util/AbstractList" "modCount" "I" (.int mo) ∧ Fld Z h a "java/util/ArrayList" "size" "I" (.int 0) ∧ Fld Z h a "java/util/ArrayList" "elementData" "[Ljava/lang/Object;" (.ref w3)
theorem L0.keep {w3 : Addr} (B : L0 Z h a mo w3) (K : Keep h h' ws) (q : a ∉ ws) : L0 Z h' a mo w3 := ⟨B.1.keep K, B.2.1.keep K q, B.2.2.1.keep K q, B.2.2.2.keep K q⟩
theorem L0.ext {w3 : Addr} (B : L0 Z h a mo w3) (E : Ext h h') : L0 Z h' a mo w3 := ⟨B.1.ext E, B.2.1.ext E, B.2.2.1.ext E, B.2.2.2.ext E⟩
/-- the empty array of ArrayList's class -/
def EA (Z : State) (w3 : Addr) : Prop := (Sta Z Z.heap "java/util/ArrayList" "DEFAULTCAPACITY_EMPTY_ELEMENTDATA" "[Ljava/lang/Object;" (.ref w3)) ∧ ∃ c, Arr Z Z.heap w3 c (.object "java/lang/Object") ∧ c.slots.size.toInt32 = 0
theorem clampA {j : Int32} {i : Nat} (hj : j.toInt = i) : j.toNatClampNeg = i := by simp [Int32.toNatClampNeg, hj]
theorem inA {c : Cell} {j : Int32} {i : Nat} (hj : j.toInt = i) (hi : i < 10) (S : c.slots.size = (10 : Int32).toNatClampNeg) : ¬ (j < 0 ∨ c.slots.size ≤ j.toNatClampNeg) := by
  rw [S, clampA hj, Int32.lt_iff_toInt_lt, hj, show (10 : Int32).toNatClampNeg = 10 from rfl, show (0 : Int32).toInt = 0 from rfl]; omega
theorem succA {j : Int32} {i : Nat} (hj : j.toInt = i) (hi : i < 10) : (j + 1).toInt = (i + 1 : Nat) := by
  have q := c_iadd j 1
  have r := rng32 (j + 1)
  rw [hj, show (1 : Int32).toInt = 1 from rfl] at q; omega
theorem atA {c : Cell} {j : Int32} {i : Nat} (H : Has c vs .null) (S : c.slots.size = (10 : Int32).toNatClampNeg) (hj : j.toInt = i) (hi : i < 10) (q : vs.getD i .null = .ref b) : c.slots[j.toNatClampNeg]? = some (.ref b) := by rw [clampA hj, H i (by rw [S]; exact hi), q]
/-- the iterator -/
def IT (Z : State) (h : Heap) (it lc : Addr) (ci mo : Int32) : Prop := Exa Z h it "java/util/ArrayList$Itr" ∧ Fld Z h it "java/util/ArrayList$Itr" "this$0" "Ljava/util/ArrayList;" (.ref lc) ∧ Fld Z h it "java/util/ArrayList$Itr" "cursor" "I" (.int ci) ∧ (∃ r, Fld Z h it "java/util/ArrayList$Itr" "lastRet" "I" (.int r)) ∧ Fld Z h it "java/util/ArrayList$Itr" "expectedModCount" "I" (.int mo)
theorem IT.keep {it lc : Addr} {ci : Int32} (B : IT Z h it lc ci mo) (K : Keep h h' ws) (q : it ∉ ws) : IT Z h' it lc ci mo := by
  obtain ⟨B1, B2, B3, ⟨r, B4⟩, B5⟩ := B
  exact ⟨B1.keep K, B2.keep K q, B3.keep K q, ⟨r, B4.keep K q⟩, B5.keep K q⟩
def QC (wx wy : UInt64) (h0 : Heap) (n0 : Nat) (v : Option Value) (h : Heap) (L : List Loc) : Prop := ∃ r : Int32, v = some (.int r) ∧ Fr n0 L ∧ h = h0 ∧ (Jvm.Own.z wx < Jvm.Own.z wy → r.toInt < 0) ∧ (Jvm.Own.z wy < Jvm.Own.z wx → 0 < r.toInt)
theorem pfMax : plainFor (⟨"java/lang/Math", "max", "(II)I"⟩ : MethodName) = true := by decide +kernel
theorem memS (x : Addr) {L : List Addr} : x ∈ x :: L := List.mem_cons_self ..

def QV (h0 : Heap) (n0 : Nat) (v : Option Value) (h : Heap) (L : List Loc) : Prop := v = none ∧ Fr n0 L ∧ h = h0
theorem ef_rmAC (m : MethodId) (a : Addr) : entryFrame m #[(.ref a)] 1 = mkF m 0 #[.val (.ref a)] [] := by first | (simp [entryFrame, mkF, argsToLocals, Value.category]; done) | rfl
set_option maxRecDepth 65536 in
set_option maxHeartbeats 40000000 in
theorem rmAC (l : Launch) (Z : State) (a0 : Array Value) (hw : ∀ d ∈ tables_1, d.before a0 Z = true) (ws : List Jvm.Cond) (a : Addr) (h0 : Heap) (n0 : Nat) (Z0 : n0 ≤ h0.size)  :
    MetFree l (⟨"java/util/AbstractCollection", "<init>", "()V"⟩ : MethodName) (head1 (Jvm.Cond.code (⟨"java/util/AbstractCollection", "<init>", "()V"⟩ : MethodName) jdk_22_method_1_code 1 none :: ws) ({ frames := 1, cells := 0, slots := 0, locals := 12 } : Room)) (fun a_ U_ => a_ = #[(.ref a)] ∧ Z.Warmed39 U_.vm ∧ U_.heap = h0) (fun _ _ _ _ _ => True) (fun _ U_ o_ V_ => ∃ v_ L_, o_ = .returned v_ ∧ QV h0 n0 v_ V_.heap L_ ∧ FrameEnd U_ o_ V_ L_ ({ frames := 1, cells := 0, slots := 0, locals := 12 } : Room).cells ({ frames := 1, cells := 0, slots := 0, locals := 12 } : Room).slots) := by
  refine MetFree.of_bodySF (plainFor_of_name pn_0) hisR ?_
  intro p e s m args below meth c s₁ Bd hml0 hP hK
  obtain ⟨rfl, hZ, hh⟩ := hP
  have hx := Bd.exec
  have hby := Bd.bytes
  have hml : c.maxLocals = 1 := hml0
  have hown : s.vm.findClass "java/util/AbstractCollection" = some m.cls := findClass_of_methodNamed Bd.named
  have hnm := (name_of_methodNamed Bd.named Bd.method).1
  have X0 : Stand p l e ({ frames := 1, cells := 0, slots := 0, locals := 12 } : Room) s m #[(.ref a)] below meth c s₁ [] 0 0 := Stand.of_body Bd
  have e0 : s₁.heap = h0 := by rw [← hh, Bd.state]; rfl
  have N0 := Fr.nil n0
  have pre0 : ∀ t_1, Steps p.tables e below (s₁.setTop (mkF m 0 #[.val (.ref a)] [])) t_1 → Steps p.tables e below (s₁.setTop (entryFrame m #[(.ref a)] 1)) t_1 := fun t_ k_ => castTop (ef_rmAC m a) k_
  obtain ⟨T1, X1, e1, st1⟩ := initO X0 hx hZ hown (hw _ (List.mem_of_getElem? (i := 32) rfl)) (hw _ (List.mem_of_getElem? (i := 12) rfl)) (hw _ (List.mem_of_getElem? (i := 13) rfl)) e0 (g := (mkF m 1 #[.val (.ref a)] [(.ref a)])) rfl (by rw [hml]; rfl) rfl (hb hby d6_1) (by decide) (W := 0) (by show 2 * 0 + _ ≤ _; exact Nat.le_of_eq rfl) (by decide)
  obtain ⟨fs, hr, hrun, hended, hW, hsame⟩ := X1.leave (v := none) (fun _ => rfl)
  refine ⟨_, _, pre0 _ ?_, hrun, hended, _, _, rfl, ?_, ⟨_, rfl⟩, hW, hsame.mono (by decide) (by decide)⟩
  · show Steps p.tables e below (s₁.setTop (mkF m 0 #[.val (.ref a)] [])) _
    refine XS.aloadN X0.here hx rfl (hb hby d6_0) rfl rfl ?_
    show Steps p.tables e below (s₁.setTop (mkF m 1 #[.val (.ref a)] [(.ref a)])) _
    refine st1 _ ?_
    show Steps p.tables e below (T1.setTop (mkF m 4 #[.val (.ref a)] [])) _
    exact X1.returnOut hx Bd.returns (hb hby d6_4) hr
  · show QV h0 n0 _ T1.heap _
    rw [e1]
    exact ⟨rfl, N0, rfl⟩
def QB (Z : State) (a : Addr) (h0 : Heap) (n0 : Nat) (v : Option Value) (h : Heap) (L : List Loc) : Prop := v = none ∧ Fr n0 L ∧ Keep h0 h [a] ∧ Exa Z h a "java/util/ArrayList" ∧ Fld Z h a "java/util/ArrayList" "elementData" "[Ljava/lang/Object;" .null ∧ Fld Z h a "java/util/AbstractList" "modCount" "I" (.int 0) ∧ Fld Z h a "java/util/ArrayList" "size" "I" (.int 0)
theorem ef_rmAB (m : MethodId) (a : Addr) : entryFrame m #[(.ref a)] 1 = mkF m 0 #[.val (.ref a)] [] := by first | (simp [entryFrame, mkF, argsToLocals, Value.category]; done) | rfl
set_option maxRecDepth 65536 in
set_option maxHeartbeats 40000000 in
theorem rmAB (l : Launch) (Z : State) (a0 : Array Value) (hw : ∀ d ∈ tables_1, d.before a0 Z = true) (ws : List Jvm.Cond) (a : Addr) (h0 : Heap) (n0 : Nat) (Z0 : n0 ≤ h0.size) (E : Exa Z h0 a "java/util/ArrayList") (ga : n0 ≤ a) (F1 : Fld Z h0 a "java/util/ArrayList" "elementData" "[Ljava/lang/Object;" .null) (F2 : Fld Z h0 a "java/util/AbstractList" "modCount" "I" (.int 0)) (F3 : Fld Z h0 a "java/util/ArrayList" "size" "I" (.int 0)) :
    MetFree l (⟨"java/util/AbstractList", "<init>", "()V"⟩ : MethodName) (head1 (Jvm.Cond.code (⟨"java/util/AbstractList", "<init>", "()V"⟩ : MethodName) jdk_39_method_1_code 1 none :: ws) ({ frames := 2, cells := 0, slots := 0, locals := 24 } : Room)) (fun a_ U_ => a_ = #[(.ref a)] ∧ Z.Warmed39 U_.vm ∧ U_.heap = h0) (fun _ _ _ _ _ => True) (fun _ U_ o_ V_ => ∃ v_ L_, o_ = .returned v_ ∧ QB Z a h0 n0 v_ V_.heap L_ ∧ FrameEnd U_ o_ V_ L_ ({ frames := 2, cells := 0, slots := 0, locals := 24 } : Room).cells ({ frames := 2, cells := 0, slots := 0, locals := 24 } : Room).slots) := by
  refine MetFree.of_bodySF (plainFor_of_name pn_1) hisR ?_
  intro p e s m args below meth c s₁ Bd hml0 hP hK
  obtain ⟨rfl, hZ, hh⟩ := hP
  have hx := Bd.exec
  have hby := Bd.bytes
  have hml : c.maxLocals = 1 := hml0
  have hown : s.vm.findClass "java/util/AbstractList" = some m.cls := findClass_of_methodNamed Bd.named
  have hnm := (name_of_methodNamed Bd.named Bd.method).1
  have X0 : Stand p l e ({ frames := 2, cells := 0, slots := 0, locals := 24 } : Room) s m #[(.ref a)] below meth c s₁ [] 0 0 := Stand.of_body Bd
  have e0 : s₁.heap = h0 := by rw [← hh, Bd.state]; rfl
  have N0 := Fr.nil n0
  have pre0 : ∀ t_1, Steps p.tables e below (s₁.setTop (mkF m 0 #[.val (.ref a)] [])) t_1 → Steps p.tables e below (s₁.setTop (entryFrame m #[(.ref a)] 1)) t_1 := fun t_ k_ => castTop (ef_rmAB m a) k_
  obtain ⟨_, _, ⟨T1, L1, k1, n1⟩, -, X1, ⟨Lc1, hQ1, l1, y1, z1⟩, st1⟩ := X0.specialBack hx (y := (⟨"java/util/AbstractCollection", "<init>", "()V"⟩ : MethodName)) rfl hown (mvT hZ (hw _ (List.mem_of_getElem? (i := 26) rfl))) (mvT hZ (hw _ (List.mem_of_getElem? (i := 27) rfl))) (mvT hZ (hw _ (List.mem_of_getElem? (i := 31) rfl))) (by decide) (backOf (W := 0) (rmAC l Z a0 hw [] a h0 n0 Z0) hZ (hw _ (List.mem_of_getElem? (i := 31) rfl)) (hw _ (List.mem_of_getElem? (i := 30) rfl)) (by decide) (by decide)) (g := (mkF m 1 #[.val (.ref a)] [(.ref a)])) rfl (by rw [hml]; rfl) (Steps.refl _) (a := a) (argsL := []) (rest := []) (lenOf pd_0 rfl) rfl (by show 2 * 0 + _ ≤ _; exact Nat.le_of_eq rfl) (hb hby d5_1) (fun _ _ => ⟨rfl, e0, (by decide : 0 + 0 ≤ _), (by decide : 0 + 0 ≤ _)⟩)
  dsimp only [Pt.U, Pt.locs, Pt.cells, Pt.slots] at X1 l1 y1 z1 st1 hQ1
  subst l1 y1 z1
  obtain ⟨rfl, N1, e1⟩ := hQ1
  obtain ⟨T2, h2, X2, e2, W2, st2⟩ := putF X1 hx hZ hown (host := "") (Or.inl (hw _ (List.mem_of_getElem? (i := 33) rfl))) Via.refl e1 F2 E (Or.inl (hw _ (List.mem_of_getElem? (i := 34) rfl))) (hw _ (List.mem_of_getElem? (i := 15) rfl)) (ty := .int) (by decide) rfl rfl (g := (mkF m 6 #[.val (.ref a)] [(.int (0 : Int32)), (.ref a)])) rfl rfl (hb hby d5_6)
  have K2 : Keep h0 h2 [a] := (Keep.refl h0 [a]).wr W2 (Or.inl (List.mem_of_getElem? (i := 0) rfl))
  have M2 := Fr.snoc X2 (Fr.app N0 N1) ga
  have G1 : Fld Z h2 a "java/util/ArrayList" "elementData" "[Ljava/lang/Object;" .null := F1.other W2 (Or.inr (slot_ne (Or.inl (hw _ (List.mem_of_getElem? (i := 37) rfl))) (Or.inl (hw _ (List.mem_of_getElem? (i := 34) rfl))) (by decide) (t := (.array (.object "java/lang/Object"))) (t' := .int) (by decide) (by decide)))
  have G2 : Fld Z h2 a "java/util/AbstractList" "modCount" "I" (.int 0) := F2.same W2
  have G3 : Fld Z h2 a "java/util/ArrayList" "size" "I" (.int 0) := F3.other W2 (Or.inr (slot_ne (Or.inl (hw _ (List.mem_of_getElem? (i := 80) rfl))) (Or.inl (hw _ (List.mem_of_getElem? (i := 34) rfl))) (by decide) (t := .int) (t' := .int) (by decide) (by decide)))
  obtain ⟨fs, hr, hrun, hended, hW, hsame⟩ := X2.leave (v := none) (fun _ => rfl)
  refine ⟨_, _, pre0 _ ?_, hrun, hended, _, _, rfl, ?_, ⟨_, rfl⟩, hW, hsame.mono (by decide) (by decide)⟩
  · show Steps p.tables e below (s₁.setTop (mkF m 0 #[.val (.ref a)] [])) _
    refine XS.aloadN X0.here hx rfl (hb hby d5_0) rfl rfl ?_
    show Steps p.tables e below (s₁.setTop (mkF m 1 #[.val (.ref a)] [(.ref a)])) _
    refine st1.trans ?_
    show Steps p.tables e below (T1.setTop (mkF m 4 #[.val (.ref a)] [])) _
    refine XS.aloadN X1.here hx rfl (hb hby d5_4) rfl rfl ?_
    show Steps p.tables e below (T1.setTop (mkF m 5 #[.val (.ref a)] [(.ref a)])) _
    refine XS.iconst X1.here hx rfl (hb hby d5_5) ?_
    show Steps p.tables e below (T1.setTop (mkF m 6 #[.val (.ref a)] [(.int (0 : Int32)), (.ref a)])) _
    refine st2 _ ?_
    show Steps p.tables e below (T2.setTop (mkF m 9 #[.val (.ref a)] [])) _
    exact X2.returnOut hx Bd.returns (hb hby d5_9) hr
  · show QB Z a h0 n0 _ T2.heap _
    rw [e2]
    exact ⟨rfl, M2, K2, E.wr W2, G1, G2, G3⟩
def QA (Z : State) (a w3 : Addr) (h0 : Heap) (n0 : Nat) (v : Option Value) (h : Heap) (L : List Loc) : Prop := v = none ∧ Fr n0 L ∧ Keep h0 h [a] ∧ Exa Z h a "java/util/ArrayList" ∧ Fld Z h a "java/util/ArrayList" "elementData" "[Ljava/lang/Object;" (.ref w3) ∧ Fld Z h a "java/util/AbstractList" "modCount" "I" (.int 0) ∧ Fld Z h a "java/util/ArrayList" "size" "I" (.int 0)
theorem ef_rmAL (m : MethodId) (a : Addr) : entryFrame m #[(.ref a)] 1 = mkF m 0 #[.val (.ref a)] [] := by first | (simp [entryFrame, mkF, argsToLocals, Value.category]; done) | rfl
set_option maxRecDepth 65536 in
set_option maxHeartbeats 40000000 in
theorem rmAL (l : Launch) (Z : State) (a0 : Array Value) (hw : ∀ d ∈ tables_1, d.before a0 Z = true) (ws : List Jvm.Cond) (a : Addr) (h0 : Heap) (n0 : Nat) (Z0 : n0 ≤ h0.size) (w3 : Addr) (O : Old Z n0 h0) (S : Sta Z Z.heap "java/util/ArrayList" "DEFAULTCAPACITY_EMPTY_ELEMENTDATA" "[Ljava/lang/Object;" (.ref w3)) (E : Exa Z h0 a "java/util/ArrayList") (ga : n0 ≤ a) (F1 : Fld Z h0 a "java/util/ArrayList" "elementData" "[Ljava/lang/Object;" .null) (F2 : Fld Z h0 a "java/util/AbstractList" "modCount" "I" (.int 0)) (F3 : Fld Z h0 a "java/util/ArrayList" "size" "I" (.int 0)) :
    MetFree l (⟨"java/util/ArrayList", "<init>", "()V"⟩ : MethodName) (head1 (Jvm.Cond.code (⟨"java/util/ArrayList", "<init>", "()V"⟩ : MethodName) jdk_38_method_2_code 1 none :: ws) ({ frames := 3, cells := 0, slots := 0, locals := 36 } : Room)) (fun a_ U_ => a_ = #[(.ref a)] ∧ Z.Warmed39 U_.vm ∧ U_.heap = h0) (fun _ _ _ _ _ => True) (fun _ U_ o_ V_ => ∃ v_ L_, o_ = .returned v_ ∧ QA Z a w3 h0 n0 v_ V_.heap L_ ∧ FrameEnd U_ o_ V_ L_ ({ frames := 3, cells := 0, slots := 0, locals := 36 } : Room).cells ({ frames := 3, cells := 0, slots := 0, locals := 36 } : Room).slots) := by
  refine MetFree.of_bodySF (plainFor_of_name pn_2) hisR ?_
  intro p e s m args below meth c s₁ Bd hml0 hP hK
  obtain ⟨rfl, hZ, hh⟩ := hP
  have hx := Bd.exec
  have hby := Bd.bytes
  have hml : c.maxLocals = 1 := hml0
  have hown : s.vm.findClass "java/util/ArrayList" = some m.cls := findClass_of_methodNamed Bd.named
  have hnm := (name_of_methodNamed Bd.named Bd.method).1
  have X0 : Stand p l e ({ frames := 3, cells := 0, slots := 0, locals := 36 } : Room) s m #[(.ref a)] below meth c s₁ [] 0 0 := Stand.of_body Bd
  have e0 : s₁.heap = h0 := by rw [← hh, Bd.state]; rfl
  have N0 := Fr.nil n0
  have pre0 : ∀ t_1, Steps p.tables e below (s₁.setTop (mkF m 0 #[.val (.ref a)] [])) t_1 → Steps p.tables e below (s₁.setTop (entryFrame m #[(.ref a)] 1)) t_1 := fun t_ k_ => castTop (ef_rmAL m a) k_
  obtain ⟨_, _, ⟨T1, L1, k1, n1⟩, -, X1, ⟨Lc1, hQ1, l1, y1, z1⟩, st1⟩ := X0.specialBack hx (y := (⟨"java/util/AbstractList", "<init>", "()V"⟩ : MethodName)) rfl hown (mvT hZ (hw _ (List.mem_of_getElem? (i := 20) rfl))) (mvT hZ (hw _ (List.mem_of_getElem? (i := 21) rfl))) (mvT hZ (hw _ (List.mem_of_getElem? (i := 25) rfl))) (by decide) (backOf (W := 0) (rmAB l Z a0 hw [] a h0 n0 Z0 E ga F1 F2 F3) hZ (hw _ (List.mem_of_getElem? (i := 25) rfl)) (hw _ (List.mem_of_getElem? (i := 24) rfl)) (by decide) (by decide)) (g := (mkF m 1 #[.val (.ref a)] [(.ref a)])) rfl (by rw [hml]; rfl) (Steps.refl _) (a := a) (argsL := []) (rest := []) (lenOf pd_0 rfl) rfl (by show 2 * 0 + _ ≤ _; exact Nat.le_of_eq rfl) (hb hby d4_1) (fun _ _ => ⟨rfl, e0, (by decide : 0 + 0 ≤ _), (by decide : 0 + 0 ≤ _)⟩)
  dsimp only [Pt.U, Pt.locs, Pt.cells, Pt.slots] at X1 l1 y1 z1 st1 hQ1
  subst l1 y1 z1
  obtain ⟨rfl, N1, K1, E1, G1, G2, G3⟩ := hQ1
  have O1 := O.keep K1 (allS ga all0)
  obtain ⟨T2, X2, e2, st2⟩ := getS2 X1 hx hZ hown (host := "") (Or.inl (hw _ (List.mem_of_getElem? (i := 35) rfl))) Via.refl rfl (S.ext O1.2) (g := (mkF m 5 #[.val (.ref a)] [(.ref a)])) rfl (hb hby d4_5)
  obtain ⟨T3, h3, X3, e3, W3, st3⟩ := putF X2 hx hZ hown (host := "") (Or.inl (hw _ (List.mem_of_getElem? (i := 36) rfl))) Via.refl e2 G1 E1 (Or.inl (hw _ (List.mem_of_getElem? (i := 37) rfl))) (hw _ (List.mem_of_getElem? (i := 15) rfl)) (ty := (.array (.object "java/lang/Object"))) (by decide) rfl rfl (g := (mkF m 8 #[.val (.ref a)] [(.ref w3), (.ref a)])) rfl rfl (hb hby d4_8)
  have K3 : Keep h0 h3 [a] := K1.wr W3 (Or.inl (List.mem_of_getElem? (i := 0) rfl))
  have M3 := Fr.snoc X3 (Fr.app N0 N1) ga
  have H1 : Fld Z h3 a "java/util/ArrayList" "elementData" "[Ljava/lang/Object;" (.ref w3) := G1.same W3
  have H2 : Fld Z h3 a "java/util/AbstractList" "modCount" "I" (.int 0) := G2.other W3 (Or.inr (slot_ne (Or.inl (hw _ (List.mem_of_getElem? (i := 34) rfl))) (Or.inl (hw _ (List.mem_of_getElem? (i := 37) rfl))) (by decide) (t := .int) (t' := (.array (.object "java/lang/Object"))) (by decide) (by decide)))
  have H3 : Fld Z h3 a "java/util/ArrayList" "size" "I" (.int 0) := G3.other W3 (Or.inr (slot_ne (Or.inl (hw _ (List.mem_of_getElem? (i := 80) rfl))) (Or.inl (hw _ (List.mem_of_getElem? (i := 37) rfl))) (by decide) (t := .int) (t' := (.array (.object "java/lang/Object"))) (by decide) (by decide)))
  obtain ⟨fs, hr, hrun, hended, hW, hsame⟩ := X3.leave (v := none) (fun _ => rfl)
  refine ⟨_, _, pre0 _ ?_, hrun, hended, _, _, rfl, ?_, ⟨_, rfl⟩, hW, hsame.mono (by decide) (by decide)⟩
  · show Steps p.tables e below (s₁.setTop (mkF m 0 #[.val (.ref a)] [])) _
    refine XS.aloadN X0.here hx rfl (hb hby d4_0) rfl rfl ?_
    show Steps p.tables e below (s₁.setTop (mkF m 1 #[.val (.ref a)] [(.ref a)])) _
    refine st1.trans ?_
    show Steps p.tables e below (T1.setTop (mkF m 4 #[.val (.ref a)] [])) _
    refine XS.aloadN X1.here hx rfl (hb hby d4_4) rfl rfl ?_
    show Steps p.tables e below (T1.setTop (mkF m 5 #[.val (.ref a)] [(.ref a)])) _
    refine st2 _ ?_
    show Steps p.tables e below (T2.setTop (mkF m 8 #[.val (.ref a)] [(.ref w3), (.ref a)])) _
    refine st3 _ ?_
    show Steps p.tables e below (T3.setTop (mkF m 11 #[.val (.ref a)] [])) _
    exact X3.returnOut hx Bd.returns (hb hby d4_11) hr
  · show QA Z a w3 h0 n0 _ T3.heap _
    rw [e3]
    exact ⟨rfl, M3, K3, E1.wr W3, H1, H2, H3⟩
theorem ef_rmNb (m : MethodId) (a : Addr) : entryFrame m #[(.ref a)] 1 = mkF m 0 #[.val (.ref a)] [] := by first | (simp [entryFrame, mkF, argsToLocals, Value.category]; done) | rfl
set_option maxRecDepth 65536 in
set_option maxHeartbeats 40000000 in
theorem rmNb (l : Launch) (Z : State) (a0 : Array Value) (hw : ∀ d ∈ tables_1, d.before a0 Z = true) (ws : List Jvm.Cond) (a : Addr) (h0 : Heap) (n0 : Nat) (Z0 : n0 ≤ h0.size)  :
    MetFree l (⟨"java/lang/Number", "<init>", "()V"⟩ : MethodName) (head1 (Jvm.Cond.code (⟨"java/lang/Number", "<init>", "()V"⟩ : MethodName) jdk_18_method_1_code 1 none :: ws) ({ frames := 1, cells := 0, slots := 0, locals := 12 } : Room)) (fun a_ U_ => a_ = #[(.ref a)] ∧ Z.Warmed39 U_.vm ∧ U_.heap = h0) (fun _ _ _ _ _ => True) (fun _ U_ o_ V_ => ∃ v_ L_, o_ = .returned v_ ∧ QV h0 n0 v_ V_.heap L_ ∧ FrameEnd U_ o_ V_ L_ ({ frames := 1, cells := 0, slots := 0, locals := 12 } : Room).cells ({ frames := 1, cells := 0, slots := 0, locals := 12 } : Room).slots) := by
  refine MetFree.of_bodySF (plainFor_of_name pn_3) hisR ?_
  intro p e s m args below meth c s₁ Bd hml0 hP hK
  obtain ⟨rfl, hZ, hh⟩ := hP
  have hx := Bd.exec
  have hby := Bd.bytes
  have hml : c.maxLocals = 1 := hml0
  have hown : s.vm.findClass "java/lang/Number" = some m.cls := findClass_of_methodNamed Bd.named
  have hnm := (name_of_methodNamed Bd.named Bd.method).1
  have X0 : Stand p l e ({ frames := 1, cells := 0, slots := 0, locals := 12 } : Room) s m #[(.ref a)] below meth c s₁ [] 0 0 := Stand.of_body Bd
  have e0 : s₁.heap = h0 := by rw [← hh, Bd.state]; rfl
  have N0 := Fr.nil n0
  have pre0 : ∀ t_1, Steps p.tables e below (s₁.setTop (mkF m 0 #[.val (.ref a)] [])) t_1 → Steps p.tables e below (s₁.setTop (entryFrame m #[(.ref a)] 1)) t_1 := fun t_ k_ => castTop (ef_rmNb m a) k_
  obtain ⟨T1, X1, e1, st1⟩ := initO X0 hx hZ hown (hw _ (List.mem_of_getElem? (i := 65) rfl)) (hw _ (List.mem_of_getElem? (i := 12) rfl)) (hw _ (List.mem_of_getElem? (i := 13) rfl)) e0 (g := (mkF m 1 #[.val (.ref a)] [(.ref a)])) rfl (by rw [hml]; rfl) rfl (hb hby d10_1) (by decide) (W := 0) (by show 2 * 0 + _ ≤ _; exact Nat.le_of_eq rfl) (by decide)
  obtain ⟨fs, hr, hrun, hended, hW, hsame⟩ := X1.leave (v := none) (fun _ => rfl)
  refine ⟨_, _, pre0 _ ?_, hrun, hended, _, _, rfl, ?_, ⟨_, rfl⟩, hW, hsame.mono (by decide) (by decide)⟩
  · show Steps p.tables e below (s₁.setTop (mkF m 0 #[.val (.ref a)] [])) _
    refine XS.aloadN X0.here hx rfl (hb hby d10_0) rfl rfl ?_
    show Steps p.tables e below (s₁.setTop (mkF m 1 #[.val (.ref a)] [(.ref a)])) _
    refine st1 _ ?_
    show Steps p.tables e below (T1.setTop (mkF m 4 #[.val (.ref a)] [])) _
    exact X1.returnOut hx Bd.returns (hb hby d10_4) hr
  · show QV h0 n0 _ T1.heap _
    rw [e1]
    exact ⟨rfl, N0, rfl⟩
def QDi (Z : State) (a : Addr) (w : UInt64) (h0 : Heap) (n0 : Nat) (v : Option Value) (h : Heap) (L : List Loc) : Prop := v = none ∧ Fr n0 L ∧ Keep h0 h [a] ∧ Bx Z h a w
theorem ef_rmDi (m : MethodId) (a : Addr) (w : UInt64) : entryFrame m #[(.ref a), (.double w)] 3 = mkF m 0 #[.val (.ref a), .val (.double w), .second] [] := by first | (simp [entryFrame, mkF, argsToLocals, Value.category]; done) | rfl
set_option maxRecDepth 65536 in
set_option maxHeartbeats 40000000 in
theorem rmDi (l : Launch) (Z : State) (a0 : Array Value) (hw : ∀ d ∈ tables_1, d.before a0 Z = true) (ws : List Jvm.Cond) (a : Addr) (w : UInt64) (h0 : Heap) (n0 : Nat) (Z0 : n0 ≤ h0.size) (ga : n0 ≤ a) (B : Bx Z h0 a 0) :
    MetFree l (⟨"java/lang/Double", "<init>", "(D)V"⟩ : MethodName) (head1 (Jvm.Cond.code (⟨"java/lang/Double", "<init>", "(D)V"⟩ : MethodName) jdk_117_method_9_code 3 none :: ws) ({ frames := 2, cells := 0, slots := 0, locals := 24 } : Room)) (fun a_ U_ => a_ = #[(.ref a), (.double w)] ∧ Z.Warmed39 U_.vm ∧ U_.heap = h0) (fun _ _ _ _ _ => True) (fun _ U_ o_ V_ => ∃ v_ L_, o_ = .returned v_ ∧ QDi Z a w h0 n0 v_ V_.heap L_ ∧ FrameEnd U_ o_ V_ L_ ({ frames := 2, cells := 0, slots := 0, locals := 24 } : Room).cells ({ frames := 2, cells := 0, slots := 0, locals := 24 } : Room).slots) := by
  refine MetFree.of_bodySF (plainFor_of_name pn_4) hisR ?_
  intro p e s m args below meth c s₁ Bd hml0 hP hK
  obtain ⟨rfl, hZ, hh⟩ := hP
  have hx := Bd.exec
  have hby := Bd.bytes
  have hml : c.maxLocals = 3 := hml0
  have hown : s.vm.findClass "java/lang/Double" = some m.cls := findClass_of_methodNamed Bd.named
  have hnm := (name_of_methodNamed Bd.named Bd.method).1
  have X0 : Stand p l e ({ frames := 2, cells := 0, slots := 0, locals := 24 } : Room) s m #[(.ref a), (.double w)] below meth c s₁ [] 0 0 := Stand.of_body Bd
  have e0 : s₁.heap = h0 := by rw [← hh, Bd.state]; rfl
  have N0 := Fr.nil n0
  have pre0 : ∀ t_1, Steps p.tables e below (s₁.setTop (mkF m 0 #[.val (.ref a), .val (.double w), .second] [])) t_1 → Steps p.tables e below (s₁.setTop (entryFrame m #[(.ref a), (.double w)] 3)) t_1 := fun t_ k_ => castTop (ef_rmDi m a w) k_
  obtain ⟨_, _, ⟨T1, L1, k1, n1⟩, -, X1, ⟨Lc1, hQ1, l1, y1, z1⟩, st1⟩ := X0.specialBack hx (y := (⟨"java/lang/Number", "<init>", "()V"⟩ : MethodName)) rfl hown (mvT hZ (hw _ (List.mem_of_getElem? (i := 59) rfl))) (mvT hZ (hw _ (List.mem_of_getElem? (i := 60) rfl))) (mvT hZ (hw _ (List.mem_of_getElem? (i := 64) rfl))) (by decide) (backOf (W := 0) (rmNb l Z a0 hw [] a h0 n0 Z0) hZ (hw _ (List.mem_of_getElem? (i := 64) rfl)) (hw _ (List.mem_of_getElem? (i := 63) rfl)) (by decide) (by decide)) (g := (mkF m 1 #[.val (.ref a), .val (.double w), .second] [(.ref a)])) rfl (by rw [hml]; rfl) (Steps.refl _) (a := a) (argsL := []) (rest := []) (lenOf pd_0 rfl) rfl (by show 2 * 0 + _ ≤ _; exact Nat.le_of_eq rfl) (hb hby d9_1) (fun _ _ => ⟨rfl, e0, (by decide : 0 + 0 ≤ _), (by decide : 0 + 0 ≤ _)⟩)
  dsimp only [Pt.U, Pt.locs, Pt.cells, Pt.slots] at X1 l1 y1 z1 st1 hQ1
  subst l1 y1 z1
  obtain ⟨rfl, N1, e1⟩ := hQ1
  obtain ⟨T2, h2, X2, e2, W2, st2⟩ := putF X1 hx hZ hown (host := "") (Or.inl (hw _ (List.mem_of_getElem? (i := 66) rfl))) Via.refl e1 B.2 B.1 (Or.inr ⟨(hw _ (List.mem_of_getElem? (i := 67) rfl)), rfl, hnm⟩) (hw _ (List.mem_of_getElem? (i := 54) rfl)) (ty := .double) (by decide) rfl rfl (g := (mkF m 6 #[.val (.ref a), .val (.double w), .second] [(.double w), (.ref a)])) rfl rfl (hb hby d9_6)
  have K2 : Keep h0 h2 [a] := (Keep.refl h0 [a]).wr W2 (Or.inl (memS a))
  have M2 := Fr.snoc X2 (Fr.app N0 N1) ga
  obtain ⟨fs, hr, hrun, hended, hW, hsame⟩ := X2.leave (v := none) (fun _ => rfl)
  refine ⟨_, _, pre0 _ ?_, hrun, hended, _, _, rfl, ?_, ⟨_, rfl⟩, hW, hsame.mono (by decide) (by decide)⟩
  · show Steps p.tables e below (s₁.setTop (mkF m 0 #[.val (.ref a), .val (.double w), .second] [])) _
    refine XS.aloadN X0.here hx rfl (hb hby d9_0) rfl rfl ?_
    show Steps p.tables e below (s₁.setTop (mkF m 1 #[.val (.ref a), .val (.double w), .second] [(.ref a)])) _
    refine st1.trans ?_
    show Steps p.tables e below (T1.setTop (mkF m 4 #[.val (.ref a), .val (.double w), .second] [])) _
    refine XS.aloadN X1.here hx rfl (hb hby d9_4) rfl rfl ?_
    show Steps p.tables e below (T1.setTop (mkF m 5 #[.val (.ref a), .val (.double w), .second] [(.ref a)])) _
    refine XS.dloadN X1.here hx rfl (hb hby d9_5) rfl ?_
    show Steps p.tables e below (T1.setTop (mkF m 6 #[.val (.ref a), .val (.double w), .second] [(.double w), (.ref a)])) _
    refine st2 _ ?_
    show Steps p.tables e below (T2.setTop (mkF m 9 #[.val (.ref a), .val (.double w), .second] [])) _
    exact X2.returnOut hx Bd.returns (hb hby d9_9) hr
  · show QDi Z a w h0 n0 _ T2.heap _
    rw [e2]
    exact ⟨rfl, M2, K2, B.1.wr W2, B.2.same W2⟩
def QBv (Z : State) (w : UInt64) (h0 : Heap) (n0 : Nat) (v : Option Value) (h : Heap) (L : List Loc) : Prop := ∃ b, v = some (.ref b) ∧ Fr n0 L ∧ Keep h0 h [] ∧ Bx Z h b w ∧ h0.size ≤ b
theorem ef_rmBv (m : MethodId) (w : UInt64) : entryFrame m #[(.double w)] 2 = mkF m 0 #[.val (.double w), .second] [] := by first | (simp [entryFrame, mkF, argsToLocals, Value.category]; done) | rfl
set_option maxRecDepth 65536 in
set_option maxHeartbeats 40000000 in
theorem rmBv (l : Launch) (Z : State) (a0 : Array Value) (hw : ∀ d ∈ tables_1, d.before a0 Z = true) (ws : List Jvm.Cond) (w : UInt64) (h0 : Heap) (n0 : Nat) (Z0 : n0 ≤ h0.size)  :
    MetFree l (⟨"java/lang/Double", "valueOf", "(D)Ljava/lang/Double;"⟩ : MethodName) (head1 (Jvm.Cond.code (⟨"java/lang/Double", "valueOf", "(D)Ljava/lang/Double;"⟩ : MethodName) jdk_117_method_4_code 2 (some (.object "java/lang/Double")) :: ws) ({ frames := 3, cells := 1, slots := 1, locals := 40 } : Room)) (fun a_ U_ => a_ = #[(.double w)] ∧ Z.Warmed39 U_.vm ∧ U_.heap = h0) (fun _ _ _ _ _ => True) (fun _ U_ o_ V_ => ∃ v_ L_, o_ = .returned v_ ∧ QBv Z w h0 n0 v_ V_.heap L_ ∧ FrameEnd U_ o_ V_ L_ ({ frames := 3, cells := 1, slots := 1, locals := 40 } : Room).cells ({ frames := 3, cells := 1, slots := 1, locals := 40 } : Room).slots) := by
  refine MetFree.of_bodySF (plainFor_of_name pn_4) hisR ?_
  intro p e s m args below meth c s₁ Bd hml0 hP hK
  obtain ⟨rfl, hZ, hh⟩ := hP
  have hx := Bd.exec
  have hby := Bd.bytes
  have hml : c.maxLocals = 2 := hml0
  have hown : s.vm.findClass "java/lang/Double" = some m.cls := findClass_of_methodNamed Bd.named
  have hnm := (name_of_methodNamed Bd.named Bd.method).1
  have X0 : Stand p l e ({ frames := 3, cells := 1, slots := 1, locals := 40 } : Room) s m #[(.double w)] below meth c s₁ [] 0 0 := Stand.of_body Bd
  have e0 : s₁.heap = h0 := by rw [← hh, Bd.state]; rfl
  have N0 := Fr.nil n0
  have pre0 : ∀ t_1, Steps p.tables e below (s₁.setTop (mkF m 0 #[.val (.double w), .second] [])) t_1 → Steps p.tables e below (s₁.setTop (entryFrame m #[(.double w)] 2)) t_1 := fun t_ k_ => castTop (ef_rmBv m w) k_
  obtain ⟨T1, h1, X1, e1, E1, A1, D1, -, st1⟩ := newO X0 hx hZ hown (hw _ (List.mem_of_getElem? (i := 53) rfl)) (hw _ (List.mem_of_getElem? (i := 54) rfl)) (hw _ (List.mem_of_getElem? (i := 51) rfl)) e0 (g := (mkF m 0 #[.val (.double w), .second] [])) rfl (hb hby d8_0) (by decide) (by decide)
  obtain ⟨a1, g1⟩ : ∃ z, z = h0.size := ⟨_, rfl⟩
  rw [← g1] at A1 D1 st1
  have D_0 := D1 (Or.inr (hw _ (List.mem_of_getElem? (i := 67) rfl))) (ty := .double) (by decide)
  have gb : n0 ≤ a1 := Nat.le_trans Z0 (Nat.le_of_eq g1.symm)
  have Z1 : n0 ≤ h1.size := Nat.le_trans Z0 E1.1
  obtain ⟨_, _, ⟨T2, L2, k2, n2⟩, -, X2, ⟨Lc2, hQ2, l2, y2, z2⟩, st2⟩ := X1.specialBack hx (y := (⟨"java/lang/Double", "<init>", "(D)V"⟩ : MethodName)) rfl hown (mvT hZ (hw _ (List.mem_of_getElem? (i := 55) rfl))) (mvT hZ (hw _ (List.mem_of_getElem? (i := 56) rfl))) (mvT hZ (hw _ (List.mem_of_getElem? (i := 58) rfl))) (by decide) (backOf (W := 1) (rmDi l Z a0 hw [] a1 w h1 n0 Z1 gb ⟨A1, D_0⟩) hZ (hw _ (List.mem_of_getElem? (i := 58) rfl)) (hw _ (List.mem_of_getElem? (i := 51) rfl)) (by decide) (by decide)) (g := (mkF m 5 #[.val (.double w), .second] [(.double w), (.ref a1), (.ref a1)])) rfl (by rw [hml]; rfl) (Steps.refl _) (a := a1) (argsL := [(.double w)]) (rest := [(.ref a1)]) (lenOf pd_1 rfl) rfl (by show 2 * 0 + _ ≤ _; exact Nat.le_of_eq rfl) (hb hby d8_5) (fun _ _ => ⟨rfl, e1, (by decide : 1 + 0 ≤ _), (by decide : 1 + 0 ≤ _)⟩)
  dsimp only [Pt.U, Pt.locs, Pt.cells, Pt.slots] at X2 l2 y2 z2 st2 hQ2
  subst l2 y2 z2
  obtain ⟨rfl, N2, K2, B2⟩ := hQ2
  have K3 : Keep h0 T2.heap [] := ((Keep.refl h0 []).ext E1).trans K2 (allS (Or.inr (Nat.le_of_eq g1.symm)) all0)
  obtain ⟨fs, hr, hrun, hended, hW, hsame⟩ := X2.leave (v := some (.ref a1)) (fun h => by rw [Bd.returns] at h; cases h)
  refine ⟨_, _, pre0 _ ?_, hrun, hended, _, _, rfl, ?_, ⟨_, rfl⟩, hW, hsame.mono (by decide) (by decide)⟩
  · show Steps p.tables e below (s₁.setTop (mkF m 0 #[.val (.double w), .second] [])) _
    refine st1 _ ?_
    show Steps p.tables e below (T1.setTop (mkF m 3 #[.val (.double w), .second] [(.ref a1)])) _
    refine XS.dup X1.here hx rfl (hb hby d8_3) rfl rfl ?_
    show Steps p.tables e below (T1.setTop (mkF m 4 #[.val (.double w), .second] [(.ref a1), (.ref a1)])) _
    refine XS.dloadN X1.here hx rfl (hb hby d8_4) rfl ?_
    show Steps p.tables e below (T1.setTop (mkF m 5 #[.val (.double w), .second] [(.double w), (.ref a1), (.ref a1)])) _
    refine st2.trans ?_
    show Steps p.tables e below (T2.setTop (mkF m 8 #[.val (.double w), .second] [(.ref a1)])) _
    exact X2.areturnOut hx rfl Bd.returns rfl (hb hby d8_8) hr
  · show QBv Z w h0 n0 _ T2.heap _
    exact ⟨a1, rfl, Fr.app N0 N2, K3, B2, Nat.le_of_eq g1.symm⟩
theorem ef_rmMx (m : MethodId) (u : Int32) (u2 : Int32) : entryFrame m #[(.int u), (.int u2)] 2 = mkF m 0 #[.val (.int u), .val (.int u2)] [] := by first | (simp [entryFrame, mkF, argsToLocals, Value.category]; done) | rfl
set_option maxRecDepth 65536 in
set_option maxHeartbeats 40000000 in
theorem rmMx (l : Launch) (Z : State) (a0 : Array Value) (hw : ∀ d ∈ tables_1, d.before a0 Z = true) (ws : List Jvm.Cond) (u : Int32) (u2 : Int32) (h0 : Heap) (n0 : Nat) (Z0 : n0 ≤ h0.size) (hu : u2.toInt ≤ u.toInt) :
    MetFree l (⟨"java/lang/Math", "max", "(II)I"⟩ : MethodName) (head1 (Jvm.Cond.code (⟨"java/lang/Math", "max", "(II)I"⟩ : MethodName) jdk_29_method_65_code 2 (some .int) :: ws) ({ frames := 0, cells := 0, slots := 0, locals := 0 } : Room)) (fun a_ U_ => a_ = #[(.int u), (.int u2)] ∧ Z.Warmed39 U_.vm ∧ U_.heap = h0) (fun _ _ _ _ _ => True) (fun _ U_ o_ V_ => ∃ v_ L_, o_ = .returned v_ ∧ QP (.int u) h0 n0 v_ V_.heap L_ ∧ FrameEnd U_ o_ V_ L_ ({ frames := 0, cells := 0, slots := 0, locals := 0 } : Room).cells ({ frames := 0, cells := 0, slots := 0, locals := 0 } : Room).slots) := by
  refine MetFree.of_bodySF pfMax hisR ?_
  intro p e s m args below meth c s₁ Bd hml0 hP hK
  obtain ⟨rfl, hZ, hh⟩ := hP
  have hx := Bd.exec
  have hby := Bd.bytes
  have hml : c.maxLocals = 2 := hml0
  have hown : s.vm.findClass "java/lang/Math" = some m.cls := findClass_of_methodNamed Bd.named
  have hnm := (name_of_methodNamed Bd.named Bd.method).1
  have X0 : Stand p l e ({ frames := 0, cells := 0, slots := 0, locals := 0 } : Room) s m #[(.int u), (.int u2)] below meth c s₁ [] 0 0 := Stand.of_body Bd
  have e0 : s₁.heap = h0 := by rw [← hh, Bd.state]; rfl
  have N0 := Fr.nil n0
  have pre0 : ∀ t_1, Steps p.tables e below (s₁.setTop (mkF m 0 #[.val (.int u), .val (.int u2)] [])) t_1 → Steps p.tables e below (s₁.setTop (entryFrame m #[(.int u), (.int u2)] 2)) t_1 := fun t_ k_ => castTop (ef_rmMx m u u2) k_
  obtain ⟨fs, hr, hrun, hended, hW, hsame⟩ := X0.leave (v := some (.int u)) (fun h => by rw [Bd.returns] at h; cases h)
  refine ⟨_, _, pre0 _ ?_, hrun, hended, _, _, rfl, ?_, ⟨_, rfl⟩, hW, hsame.mono (by decide) (by decide)⟩
  · show Steps p.tables e below (s₁.setTop (mkF m 0 #[.val (.int u), .val (.int u2)] [])) _
    refine XS.iloadN X0.here hx rfl (hb hby d15_0) rfl ?_
    show Steps p.tables e below (s₁.setTop (mkF m 1 #[.val (.int u), .val (.int u2)] [(.int u)])) _
    refine XS.iloadN X0.here hx rfl (hb hby d15_1) rfl ?_
    show Steps p.tables e below (s₁.setTop (mkF m 2 #[.val (.int u), .val (.int u2)] [(.int u2), (.int u)])) _
    refine XS.icmpNo X0.here hx rfl (hb hby d15_2) rfl ((Jvm.Own.holdsII _ _ _).trans (Jvm.Own.dF (by omega))) ?_
    show Steps p.tables e below (s₁.setTop (mkF m 5 #[.val (.int u), .val (.int u2)] [])) _
    refine XS.iloadN X0.here hx rfl (hb hby d15_5) rfl ?_
    show Steps p.tables e below (s₁.setTop (mkF m 6 #[.val (.int u), .val (.int u2)] [(.int u)])) _
    refine XS.goto X0.here hx rfl (pc0 := 6) (pc' := 10) rfl (hb hby d15_6) (by decide) (by decide) ?_
    show Steps p.tables e below (s₁.setTop (mkF m 10 #[.val (.int u), .val (.int u2)] [(.int u)])) _
    exact Jvm.RoadKit.retI X0 hx Bd.returns (hb hby d15_10) hr
  · show QP (.int u) h0 n0 _ s₁.heap _
    rw [e0]
    exact ⟨rfl, N0, rfl⟩
def QG (Z : State) (a : Addr) (mo : Int32) (h0 : Heap) (n0 : Nat) (v : Option Value) (h : Heap) (L : List Loc) : Prop := ∃ t, v = some (.ref t) ∧ Fr n0 L ∧ Keep h0 h [a] ∧ LS Z h a mo 0 t (List.replicate 10 .null) ∧ h0.size ≤ t
theorem ef_rmG1 (m : MethodId) (a : Addr) (mc : Int32) : entryFrame m #[(.ref a), (.int mc)] 4 = mkF m 0 #[.val (.ref a), .val (.int mc), .unset, .unset] [] := by first | (simp [entryFrame, mkF, argsToLocals, Value.category]; done) | rfl
set_option maxRecDepth 65536 in
set_option maxHeartbeats 40000000 in
theorem rmG1 (l : Launch) (Z : State) (a0 : Array Value) (hw : ∀ d ∈ tables_1, d.before a0 Z = true) (ws : List Jvm.Cond) (a : Addr) (mc : Int32) (h0 : Heap) (n0 : Nat) (Z0 : n0 ≤ h0.size) (mo : Int32) (w3 : Addr) (O : Old Z n0 h0) (S : EA Z w3) (ga : n0 ≤ a) (B : L0 Z h0 a mo w3) (hmc : mc.toInt ≤ (10 : Int32).toInt) :
    MetFree l (⟨"java/util/ArrayList", "grow", "(I)[Ljava/lang/Object;"⟩ : MethodName) (head1 (Jvm.Cond.code (⟨"java/util/ArrayList", "grow", "(I)[Ljava/lang/Object;"⟩ : MethodName) jdk_38_method_6_code 4 (some (.array (.object "java/lang/Object"))) :: ws) ({ frames := 1, cells := 1, slots := 10, locals := 14 } : Room)) (fun a_ U_ => a_ = #[(.ref a), (.int mc)] ∧ Z.Warmed39 U_.vm ∧ U_.heap = h0) (fun _ _ _ _ _ => True) (fun _ U_ o_ V_ => ∃ v_ L_, o_ = .returned v_ ∧ QG Z a mo h0 n0 v_ V_.heap L_ ∧ FrameEnd U_ o_ V_ L_ ({ frames := 1, cells := 1, slots := 10, locals := 14 } : Room).cells ({ frames := 1, cells := 1, slots := 10, locals := 14 } : Room).slots) := by
  refine MetFree.of_bodySF (plainFor_of_name pn_2) hisR ?_
  intro p e s m args below meth c s₁ Bd hml0 hP hK
  obtain ⟨rfl, hZ, hh⟩ := hP
  have hx := Bd.exec
  have hby := Bd.bytes
  have hml : c.maxLocals = 4 := hml0
  have hown : s.vm.findClass "java/util/ArrayList" = some m.cls := findClass_of_methodNamed Bd.named
  have hnm := (name_of_methodNamed Bd.named Bd.method).1
  have X0 : Stand p l e ({ frames := 1, cells := 1, slots := 10, locals := 14 } : Room) s m #[(.ref a), (.int mc)] below meth c s₁ [] 0 0 := Stand.of_body Bd
  have e0 : s₁.heap = h0 := by rw [← hh, Bd.state]; rfl
  have N0 := Fr.nil n0
  have pre0 : ∀ t_1, Steps p.tables e below (s₁.setTop (mkF m 0 #[.val (.ref a), .val (.int mc), .unset, .unset] [])) t_1 → Steps p.tables e below (s₁.setTop (entryFrame m #[(.ref a), (.int mc)] 4)) t_1 := fun t_ k_ => castTop (ef_rmG1 m a mc) k_
  obtain ⟨S1, c0, A0, Sz⟩ := S
  obtain ⟨T1, X1, e1, st1⟩ := getF X0 hx hZ hown (host := "") (Or.inl (hw _ (List.mem_of_getElem? (i := 36) rfl))) Via.refl e0 B.2.2.2 (g := (mkF m 1 #[.val (.ref a), .val (.int mc), .unset, .unset] [(.ref a)])) rfl rfl (hb hby d14_1)
  obtain ⟨T2, X2, e2, st2⟩ := getF X1 hx hZ hown (host := "") (Or.inl (hw _ (List.mem_of_getElem? (i := 36) rfl))) Via.refl e1 B.2.2.2 (g := (mkF m 11 #[.val (.ref a), .val (.int mc), .val (.int (0 : Int32)), .unset] [(.ref a)])) rfl rfl (hb hby d14_11)
  obtain ⟨T3, X3, e3, st3⟩ := getS2 X2 hx hZ hown (host := "") (Or.inl (hw _ (List.mem_of_getElem? (i := 35) rfl))) Via.refl e2 (S1.ext O.2) (g := (mkF m 14 #[.val (.ref a), .val (.int mc), .val (.int (0 : Int32)), .unset] [(.ref w3)])) rfl (hb hby d14_14)
  obtain ⟨_, _, ⟨T4, L4, k4, n4⟩, -, X4, ⟨Lc4, hQ4, l4, y4, z4⟩, st4⟩ := Jvm.LawKit.callS X3 hx (y := (⟨"java/lang/Math", "max", "(II)I"⟩ : MethodName)) hown (mvT hZ (hw _ (List.mem_of_getElem? (i := 96) rfl))) (mvT hZ (hw _ (List.mem_of_getElem? (i := 97) rfl))) (mvT hZ (hw _ (List.mem_of_getElem? (i := 98) rfl))) (mvT hZ (hw _ (List.mem_of_getElem? (i := 99) rfl))) (by decide) (backOf (W := 1) (rmMx l Z a0 hw [] (10 : Int32) mc h0 n0 Z0 hmc) hZ (hw _ (List.mem_of_getElem? (i := 99) rfl)) (hw _ (List.mem_of_getElem? (i := 98) rfl)) (by decide) (by decide)) (g := (mkF m 49 #[.val (.ref a), .val (.int mc), .val (.int (0 : Int32)), .unset] [(.int mc), (.int (10 : Int32)), (.ref a)])) rfl (by rw [hml]; rfl) (argsL := [(.int (10 : Int32)), (.int mc)]) (rest := [(.ref a)]) (lenOf pd_2 rfl) rfl (by show 2 * 0 + _ ≤ _; exact Nat.le_of_eq rfl) (hb hby d14_49) (fun _ _ => ⟨rfl, e3, (by decide : 0 + 0 ≤ _), (by decide : 0 + 0 ≤ _)⟩)
  dsimp only [Pt.U, Pt.locs, Pt.cells, Pt.slots] at X4 l4 y4 z4 st4 hQ4
  subst l4 y4 z4
  obtain ⟨rfl, N4, e4⟩ := hQ4
  obtain ⟨T5, h5, k5, X5, e5, E5, A5, O5, st5⟩ := newR X4 hx hZ hown (hw _ (List.mem_of_getElem? (i := 100) rfl)) (hw _ (List.mem_of_getElem? (i := 101) rfl)) e4 (g := (mkF m 52 #[.val (.ref a), .val (.int mc), .val (.int (0 : Int32)), .unset] [(.int (10 : Int32)), (.ref a)])) rfl (hb hby d14_52) rfl (by decide) (cap := 10) (by decide) (by decide) (by decide) (by decide)
  obtain ⟨a5, g5⟩ : ∃ z, z = h0.size := ⟨_, rfl⟩
  rw [← g5] at A5 st5
  have V5 := OA.new A5 O5
  obtain ⟨T6, h6, X6, e6, W6, st6⟩ := putF X5 hx hZ hown (host := "") (Or.inl (hw _ (List.mem_of_getElem? (i := 36) rfl))) Via.refl e5 (B.2.2.2.ext E5) (B.1.ext E5) (Or.inl (hw _ (List.mem_of_getElem? (i := 37) rfl))) (hw _ (List.mem_of_getElem? (i := 15) rfl)) (ty := (.array (.object "java/lang/Object"))) (by decide) rfl rfl (g := (mkF m 56 #[.val (.ref a), .val (.int mc), .val (.int (0 : Int32)), .unset] [(.ref a5), (.ref a), (.ref a5)])) rfl rfl (hb hby d14_56)
  have ne5 : a5 ≠ a := Nat.ne_of_gt (Nat.lt_of_lt_of_le B.1.lt (Nat.le_of_eq g5.symm))
  have K6 : Keep h0 h6 [a] := ((Keep.refl h0 [a]).ext E5).wr W6 (Or.inl (memS a))
  have M6 := Fr.snoc X6 (Fr.app N0 N4) ga
  have R6 : LS Z h6 a mo 0 a5 (List.replicate 10 .null) := ⟨(B.1.ext E5).wr W6, (B.2.1.ext E5).other W6 (Or.inr (slot_ne (Or.inl (hw _ (List.mem_of_getElem? (i := 34) rfl))) (Or.inl (hw _ (List.mem_of_getElem? (i := 37) rfl))) (by decide) (t := .int) (t' := (.array (.object "java/lang/Object"))) (by decide) (by decide))), (B.2.2.1.ext E5).other W6 (Or.inr (slot_ne (Or.inl (hw _ (List.mem_of_getElem? (i := 80) rfl))) (Or.inl (hw _ (List.mem_of_getElem? (i := 37) rfl))) (by decide) (t := .int) (t' := (.array (.object "java/lang/Object"))) (by decide) (by decide))), (B.2.2.2.ext E5).same W6, V5.wr W6 ne5⟩
  obtain ⟨fs, hr, hrun, hended, hW, hsame⟩ := X6.leave (v := some (.ref a5)) (fun h => by rw [Bd.returns] at h; cases h)
  refine ⟨_, _, pre0 _ ?_, hrun, hended, _, _, rfl, ?_, ⟨_, rfl⟩, hW, hsame.mono (by decide) (by decide)⟩
  · show Steps p.tables e below (s₁.setTop (mkF m 0 #[.val (.ref a), .val (.int mc), .unset, .unset] [])) _
    refine XS.aloadN X0.here hx rfl (hb hby d14_0) rfl rfl ?_
    show Steps p.tables e below (s₁.setTop (mkF m 1 #[.val (.ref a), .val (.int mc), .unset, .unset] [(.ref a)])) _
    refine st1 _ ?_
    show Steps p.tables e below (T1.setTop (mkF m 4 #[.val (.ref a), .val (.int mc), .unset, .unset] [(.ref w3)])) _
    refine X1.arraylength hx (cell := c0) (by rw [e1]; exact (A0.ext O.2).1) (State.isArrayOf_alike hZ.alike (A0.ext O.2).2.1) (g := (mkF m 4 #[.val (.ref a), .val (.int mc), .unset, .unset] [(.ref w3)])) rfl (rest := []) rfl (hb hby d14_4) _ ?_
    rw [Sz]
    show Steps p.tables e below (T1.setTop (mkF m 5 #[.val (.ref a), .val (.int mc), .unset, .unset] [(.int (0 : Int32))])) _
    refine XS.istoreN X1.here hx rfl (hb hby d14_5) rfl (l' := #[.val (.ref a), .val (.int mc), .val (.int (0 : Int32)), .unset]) rfl ?_
    show Steps p.tables e below (T1.setTop (mkF m 6 #[.val (.ref a), .val (.int mc), .val (.int (0 : Int32)), .unset] [])) _
    refine XS.iloadN X1.here hx rfl (hb hby d14_6) rfl ?_
    show Steps p.tables e below (T1.setTop (mkF m 7 #[.val (.ref a), .val (.int mc), .val (.int (0 : Int32)), .unset] [(.int (0 : Int32))])) _
    refine XS.ifNo X1.here hx rfl (hb hby d14_7) rfl rfl ?_
    show Steps p.tables e below (T1.setTop (mkF m 10 #[.val (.ref a), .val (.int mc), .val (.int (0 : Int32)), .unset] [])) _
    refine XS.aloadN X1.here hx rfl (hb hby d14_10) rfl rfl ?_
    show Steps p.tables e below (T1.setTop (mkF m 11 #[.val (.ref a), .val (.int mc), .val (.int (0 : Int32)), .unset] [(.ref a)])) _
    refine st2 _ ?_
    show Steps p.tables e below (T2.setTop (mkF m 14 #[.val (.ref a), .val (.int mc), .val (.int (0 : Int32)), .unset] [(.ref w3)])) _
    refine st3 _ ?_
    show Steps p.tables e below (T3.setTop (mkF m 17 #[.val (.ref a), .val (.int mc), .val (.int (0 : Int32)), .unset] [(.ref w3), (.ref w3)])) _
    refine Jvm.RoadKit.acmp (g := (mkF m 17 #[.val (.ref a), .val (.int mc), .val (.int (0 : Int32)), .unset] [(.ref w3), (.ref w3)])) X3 hx rfl rfl rfl (pc0 := 17) (pc' := 45) (same := true) rfl (hb hby d14_17) rfl (decide_eq_true rfl) (by decide) (by decide) ?_
    show Steps p.tables e below (T3.setTop (mkF m 45 #[.val (.ref a), .val (.int mc), .val (.int (0 : Int32)), .unset] [])) _
    refine XS.aloadN X3.here hx rfl (hb hby d14_45) rfl rfl ?_
    show Steps p.tables e below (T3.setTop (mkF m 46 #[.val (.ref a), .val (.int mc), .val (.int (0 : Int32)), .unset] [(.ref a)])) _
    refine XS.bipush X3.here hx rfl (hb hby d14_46) ?_
    show Steps p.tables e below (T3.setTop (mkF m 48 #[.val (.ref a), .val (.int mc), .val (.int (0 : Int32)), .unset] [(.int (10 : Int32)), (.ref a)])) _
    refine XS.iloadN X3.here hx rfl (hb hby d14_48) rfl ?_
    show Steps p.tables e below (T3.setTop (mkF m 49 #[.val (.ref a), .val (.int mc), .val (.int (0 : Int32)), .unset] [(.int mc), (.int (10 : Int32)), (.ref a)])) _
    refine st4 _ ?_
    show Steps p.tables e below (T4.setTop (mkF m 52 #[.val (.ref a), .val (.int mc), .val (.int (0 : Int32)), .unset] [(.int (10 : Int32)), (.ref a)])) _
    refine st5 _ ?_
    show Steps p.tables e below (T5.setTop (mkF m 55 #[.val (.ref a), .val (.int mc), .val (.int (0 : Int32)), .unset] [(.ref a5), (.ref a)])) _
    refine XS.dupX1 X5.here hx rfl (hb hby d14_55) rfl rfl rfl ?_
    show Steps p.tables e below (T5.setTop (mkF m 56 #[.val (.ref a), .val (.int mc), .val (.int (0 : Int32)), .unset] [(.ref a5), (.ref a), (.ref a5)])) _
    refine st6 _ ?_
    show Steps p.tables e below (T6.setTop (mkF m 59 #[.val (.ref a), .val (.int mc), .val (.int (0 : Int32)), .unset] [(.ref a5)])) _
    exact X6.areturnOut hx rfl Bd.returns rfl (hb hby d14_59) hr
  · show QG Z a mo h0 n0 _ T6.heap _
    rw [e6]
    exact ⟨a5, rfl, M6, K6, R6, Nat.le_of_eq g5.symm⟩
theorem ef_rmG0 (m : MethodId) (a : Addr) : entryFrame m #[(.ref a)] 1 = mkF m 0 #[.val (.ref a)] [] := by first | (simp [entryFrame, mkF, argsToLocals, Value.category]; done) | rfl
set_option maxRecDepth 65536 in
set_option maxHeartbeats 40000000 in
theorem rmG0 (l : Launch) (Z : State) (a0 : Array Value) (hw : ∀ d ∈ tables_1, d.before a0 Z = true) (ws : List Jvm.Cond) (a : Addr) (h0 : Heap) (n0 : Nat) (Z0 : n0 ≤ h0.size) (mo : Int32) (w3 : Addr) (O : Old Z n0 h0) (S : EA Z w3) (ga : n0 ≤ a) (B : L0 Z h0 a mo w3) :
    MetFree l (⟨"java/util/ArrayList", "grow", "()[Ljava/lang/Object;"⟩ : MethodName) (head1 (Jvm.Cond.code (⟨"java/util/ArrayList", "grow", "()[Ljava/lang/Object;"⟩ : MethodName) jdk_38_method_7_code 1 (some (.array (.object "java/lang/Object"))) :: ws) ({ frames := 2, cells := 1, slots := 10, locals := 30 } : Room)) (fun a_ U_ => a_ = #[(.ref a)] ∧ Z.Warmed39 U_.vm ∧ U_.heap = h0) (fun _ _ _ _ _ => True) (fun _ U_ o_ V_ => ∃ v_ L_, o_ = .returned v_ ∧ QG Z a mo h0 n0 v_ V_.heap L_ ∧ FrameEnd U_ o_ V_ L_ ({ frames := 2, cells := 1, slots := 10, locals := 30 } : Room).cells ({ frames := 2, cells := 1, slots := 10, locals := 30 } : Room).slots) := by
  refine MetFree.of_bodySF (plainFor_of_name pn_2) hisR ?_
  intro p e s m args below meth c s₁ Bd hml0 hP hK
  obtain ⟨rfl, hZ, hh⟩ := hP
  have hx := Bd.exec
  have hby := Bd.bytes
  have hml : c.maxLocals = 1 := hml0
  have hown : s.vm.findClass "java/util/ArrayList" = some m.cls := findClass_of_methodNamed Bd.named
  have hnm := (name_of_methodNamed Bd.named Bd.method).1
  have X0 : Stand p l e ({ frames := 2, cells := 1, slots := 10, locals := 30 } : Room) s m #[(.ref a)] below meth c s₁ [] 0 0 := Stand.of_body Bd
  have e0 : s₁.heap = h0 := by rw [← hh, Bd.state]; rfl
  have N0 := Fr.nil n0
  have pre0 : ∀ t_1, Steps p.tables e below (s₁.setTop (mkF m 0 #[.val (.ref a)] [])) t_1 → Steps p.tables e below (s₁.setTop (entryFrame m #[(.ref a)] 1)) t_1 := fun t_ k_ => castTop (ef_rmG0 m a) k_
  obtain ⟨T1, X1, e1, st1⟩ := getF X0 hx hZ hown (host := "") (Or.inl (hw _ (List.mem_of_getElem? (i := 79) rfl))) Via.refl e0 B.2.2.1 (g := (mkF m 2 #[.val (.ref a)] [(.ref a), (.ref a)])) rfl rfl (hb hby d13_2)
  obtain ⟨cq2, q2, q2'⟩ := (B.1).cell
  obtain ⟨_, _, ⟨T2, L2, k2, n2⟩, -, X2, ⟨Lc2, hQ2, l2, y2, z2⟩, st2⟩ := X1.privateBack hx (y := (⟨"java/util/ArrayList", "grow", "(I)[Ljava/lang/Object;"⟩ : MethodName)) hown (mvT hZ (hw _ (List.mem_of_getElem? (i := 91) rfl))) (mvT hZ (hw _ (List.mem_of_getElem? (i := 92) rfl))) (mvT hZ (hw _ (List.mem_of_getElem? (i := 94) rfl))) (Cond.privateMethod_at (mvP hZ (hw _ (List.mem_of_getElem? (i := 93) rfl)) (args := #[]))) (mvT hZ (hw _ (List.mem_of_getElem? (i := 95) rfl))) (by decide) (backOf (W := 0) (rmG1 l Z a0 hw [] a ((0 : Int32) + (1 : Int32)) h0 n0 Z0 mo w3 O S ga B (by decide)) hZ (hw _ (List.mem_of_getElem? (i := 95) rfl)) (hw _ (List.mem_of_getElem? (i := 16) rfl)) (by decide) (by decide)) (g := (mkF m 7 #[.val (.ref a)] [(.int ((0 : Int32) + (1 : Int32))), (.ref a)])) rfl (by rw [hml]; rfl) (Steps.refl _) (a := a) (by rw [e1]; exact q2) q2' (argsL := [(.int ((0 : Int32) + (1 : Int32)))]) (rest := []) (lenOf pd_3 rfl) rfl (by show 2 * 0 + _ ≤ _; exact Nat.le_of_eq rfl) (hb hby d13_7) (fun _ _ => ⟨rfl, e1, (by decide : 0 + 1 ≤ _), (by decide : 0 + 10 ≤ _)⟩)
  dsimp only [Pt.U, Pt.locs, Pt.cells, Pt.slots] at X2 l2 y2 z2 st2 hQ2
  subst l2 y2 z2
  obtain ⟨t2, rfl, N2, K2, R2, s2⟩ := hQ2
  obtain ⟨fs, hr, hrun, hended, hW, hsame⟩ := X2.leave (v := some (.ref t2)) (fun h => by rw [Bd.returns] at h; cases h)
  refine ⟨_, _, pre0 _ ?_, hrun, hended, _, _, rfl, ?_, ⟨_, rfl⟩, hW, hsame.mono (by decide) (by decide)⟩
  · show Steps p.tables e below (s₁.setTop (mkF m 0 #[.val (.ref a)] [])) _
    refine XS.aloadN X0.here hx rfl (hb hby d13_0) rfl rfl ?_
    show Steps p.tables e below (s₁.setTop (mkF m 1 #[.val (.ref a)] [(.ref a)])) _
    refine XS.aloadN X0.here hx rfl (hb hby d13_1) rfl rfl ?_
    show Steps p.tables e below (s₁.setTop (mkF m 2 #[.val (.ref a)] [(.ref a), (.ref a)])) _
    refine st1 _ ?_
    show Steps p.tables e below (T1.setTop (mkF m 5 #[.val (.ref a)] [(.int (0 : Int32)), (.ref a)])) _
    refine XS.iconst X1.here hx rfl (hb hby d13_5) ?_
    show Steps p.tables e below (T1.setTop (mkF m 6 #[.val (.ref a)] [(.int (1 : Int32)), (.int (0 : Int32)), (.ref a)])) _
    refine XS.iadd X1.here hx rfl (hb hby d13_6) rfl ?_
    show Steps p.tables e below (T1.setTop (mkF m 7 #[.val (.ref a)] [(.int ((0 : Int32) + (1 : Int32))), (.ref a)])) _
    refine st2.trans ?_
    show Steps p.tables e below (T2.setTop (mkF m 10 #[.val (.ref a)] [(.ref t2)])) _
    exact X2.areturnOut hx rfl Bd.returns rfl (hb hby d13_10) hr
  · show QG Z a mo h0 n0 _ T2.heap _
    exact ⟨t2, rfl, Fr.app N0 N2, K2, R2, s2⟩
def QF (Z : State) (a b : Addr) (mo j : Int32) (h0 : Heap) (n0 : Nat) (v : Option Value) (h : Heap) (L : List Loc) : Prop := v = none ∧ Fr n0 L ∧ ∃ t, Keep h0 h [a] ∧ LS Z h a mo (j + 1) t ((List.replicate 10 .null).set 0 (.ref b)) ∧ h0.size ≤ t
theorem ef_rmA3f (m : MethodId) (a : Addr) (b : Addr) (w3 : Addr) (j : Int32) : entryFrame m #[(.ref a), (.ref b), (.ref w3), (.int j)] 4 = mkF m 0 #[.val (.ref a), .val (.ref b), .val (.ref w3), .val (.int j)] [] := by first | (simp [entryFrame, mkF, argsToLocals, Value.category]; done) | rfl
set_option maxRecDepth 65536 in
set_option maxHeartbeats 40000000 in
theorem rmA3f (l : Launch) (Z : State) (a0 : Array Value) (hw : ∀ d ∈ tables_1, d.before a0 Z = true) (ws : List Jvm.Cond) (a : Addr) (b : Addr) (w3 : Addr) (j : Int32) (h0 : Heap) (n0 : Nat) (Z0 : n0 ≤ h0.size) (mo : Int32) (O : Old Z n0 h0) (S : EA Z w3) (ga : n0 ≤ a) (B : L0 Z h0 a mo w3) (hj : j = 0) (Eb : Exa Z h0 b "java/lang/Double") :
    MetFree l (⟨"java/util/ArrayList", "add", "(Ljava/lang/Object;[Ljava/lang/Object;I)V"⟩ : MethodName) (head1 (Jvm.Cond.code (⟨"java/util/ArrayList", "add", "(Ljava/lang/Object;[Ljava/lang/Object;I)V"⟩ : MethodName) jdk_38_method_24_code 4 none :: ws) ({ frames := 3, cells := 1, slots := 10, locals := 44 } : Room)) (fun a_ U_ => a_ = #[(.ref a), (.ref b), (.ref w3), (.int j)] ∧ Z.Warmed39 U_.vm ∧ U_.heap = h0) (fun _ _ _ _ _ => True) (fun _ U_ o_ V_ => ∃ v_ L_, o_ = .returned v_ ∧ QF Z a b mo j h0 n0 v_ V_.heap L_ ∧ FrameEnd U_ o_ V_ L_ ({ frames := 3, cells := 1, slots := 10, locals := 44 } : Room).cells ({ frames := 3, cells := 1, slots := 10, locals := 44 } : Room).slots) := by
  refine MetFree.of_bodySF (plainFor_of_name pn_2) hisR ?_
  intro p e s m args below meth c s₁ Bd hml0 hP hK
  obtain ⟨rfl, hZ, hh⟩ := hP
  have hx := Bd.exec
  have hby := Bd.bytes
  have hml : c.maxLocals = 4 := hml0
  have hown : s.vm.findClass "java/util/ArrayList" = some m.cls := findClass_of_methodNamed Bd.named
  have hnm := (name_of_methodNamed Bd.named Bd.method).1
  have X0 : Stand p l e ({ frames := 3, cells := 1, slots := 10, locals := 44 } : Room) s m #[(.ref a), (.ref b), (.ref w3), (.int j)] below meth c s₁ [] 0 0 := Stand.of_body Bd
  have e0 : s₁.heap = h0 := by rw [← hh, Bd.state]; rfl
  have N0 := Fr.nil n0
  have pre0 : ∀ t_1, Steps p.tables e below (s₁.setTop (mkF m 0 #[.val (.ref a), .val (.ref b), .val (.ref w3), .val (.int j)] [])) t_1 → Steps p.tables e below (s₁.setTop (entryFrame m #[(.ref a), (.ref b), (.ref w3), (.int j)] 4)) t_1 := fun t_ k_ => castTop (ef_rmA3f m a b w3 j) k_
  obtain ⟨c0, A0, Sz⟩ := S.2
  obtain ⟨cq1, q1, q1'⟩ := (B.1).cell
  obtain ⟨_, _, ⟨T1, L1, k1, n1⟩, -, X1, ⟨Lc1, hQ1, l1, y1, z1⟩, st1⟩ := X0.privateBack hx (y := (⟨"java/util/ArrayList", "grow", "()[Ljava/lang/Object;"⟩ : MethodName)) hown (mvT hZ (hw _ (List.mem_of_getElem? (i := 86) rfl))) (mvT hZ (hw _ (List.mem_of_getElem? (i := 87) rfl))) (mvT hZ (hw _ (List.mem_of_getElem? (i := 89) rfl))) (Cond.privateMethod_at (mvP hZ (hw _ (List.mem_of_getElem? (i := 88) rfl)) (args := #[]))) (mvT hZ (hw _ (List.mem_of_getElem? (i := 90) rfl))) (by decide) (backOf (W := 0) (rmG0 l Z a0 hw [] a h0 n0 Z0 mo w3 O S ga B) hZ (hw _ (List.mem_of_getElem? (i := 90) rfl)) (hw _ (List.mem_of_getElem? (i := 16) rfl)) (by decide) (by decide)) (g := (mkF m 7 #[.val (.ref a), .val (.ref b), .val (.ref w3), .val (.int j)] [(.ref a)])) rfl (by rw [hml]; rfl) (Steps.refl _) (a := a) (by rw [e0]; exact q1) q1' (argsL := []) (rest := []) (lenOf pd_4 rfl) rfl (by show 2 * 0 + _ ≤ _; exact Nat.le_of_eq rfl) (hb hby d12_7) (fun _ _ => ⟨rfl, e0, (by decide : 0 + 1 ≤ _), (by decide : 0 + 10 ≤ _)⟩)
  dsimp only [Pt.U, Pt.locs, Pt.cells, Pt.slots] at X1 l1 y1 z1 st1 hQ1
  subst l1 y1 z1
  obtain ⟨t1, rfl, N1, K1, R1, s1⟩ := hQ1
  obtain ⟨R11, R12, R13, R14, R15⟩ := R1
  have hj2 : j.toInt = (0 : Nat) := by rw [hj]; rfl
  have gt : n0 ≤ t1 := Nat.le_trans Z0 s1
  have Eb1 := Eb.keep K1
  have hi : 0 < 10 := by decide
  have KK : Keep h0 T1.heap [a] := K1
  have at_ : t1 ∈ [a] ∨ h0.size ≤ t1 := Or.inr s1
  have nat : a ≠ t1 := R15.ne R11 (hw _ (List.mem_of_getElem? (i := 15) rfl))
  obtain ⟨k6, ⟨c6, A6, q61, S6, q63, H6, G6⟩, r6, O6⟩ := id R15
  obtain ⟨T6, h6, X6, e6, W6, st6⟩ := stR X1 hx hZ rfl A6 (j := j) (inA hj2 hi S6) rfl (Sto.ofV A6 q61 O6 (Ins.of_exa Eb1 (hw _ (List.mem_of_getElem? (i := 102) rfl)))) (g := (mkF m 14 #[.val (.ref a), .val (.ref b), .val (.ref t1), .val (.int j)] [(.ref b), (.int j), (.ref t1)])) rfl rfl (hb hby d12_14)
  have N6 := Fr.snoc X6 (Fr.app N0 N1) gt
  have V6 := R15.set W6 (clampA hj2) hi
  obtain ⟨T7, h7, X7, e7, W7, st7⟩ := putF X6 hx hZ hown (host := "") (Or.inl (hw _ (List.mem_of_getElem? (i := 79) rfl))) Via.refl e6 (R13.other W6 (Or.inl nat)) (R11.wr W6) (Or.inl (hw _ (List.mem_of_getElem? (i := 80) rfl))) (hw _ (List.mem_of_getElem? (i := 15) rfl)) (ty := .int) (by decide) rfl rfl (g := (mkF m 19 #[.val (.ref a), .val (.ref b), .val (.ref t1), .val (.int j)] [(.int (j + (1 : Int32))), (.ref a)])) rfl rfl (hb hby d12_19)
  have N7 := Fr.snoc X7 N6 ga
  have K7 := (KK.wr W6 at_).wr W7 (Or.inl (memS a))
  have R7 : LS Z h7 a mo (j + 1) t1 ((List.replicate 10 .null).set 0 (.ref b)) := ⟨(R11.wr W6).wr W7, (R12.other W6 (Or.inl nat)).other W7 (Or.inr (slot_ne (Or.inl (hw _ (List.mem_of_getElem? (i := 34) rfl))) (Or.inl (hw _ (List.mem_of_getElem? (i := 80) rfl))) (by decide) (t := .int) (t' := .int) (by decide) (by decide))), (R13.other W6 (Or.inl nat)).same W7, (R14.other W6 (Or.inl nat)).other W7 (Or.inr (slot_ne (Or.inl (hw _ (List.mem_of_getElem? (i := 37) rfl))) (Or.inl (hw _ (List.mem_of_getElem? (i := 80) rfl))) (by decide) (t := (.array (.object "java/lang/Object"))) (t' := .int) (by decide) (by decide))), V6.wr W7 (Ne.symm nat)⟩
  obtain ⟨fs, hr, hrun, hended, hW, hsame⟩ := X7.leave (v := none) (fun _ => rfl)
  refine ⟨_, _, pre0 _ ?_, hrun, hended, _, _, rfl, ?_, ⟨_, rfl⟩, hW, hsame.mono (by decide) (by decide)⟩
  · show Steps p.tables e below (s₁.setTop (mkF m 0 #[.val (.ref a), .val (.ref b), .val (.ref w3), .val (.int j)] [])) _
    refine XS.iloadN X0.here hx rfl (hb hby d12_0) rfl ?_
    show Steps p.tables e below (s₁.setTop (mkF m 1 #[.val (.ref a), .val (.ref b), .val (.ref w3), .val (.int j)] [(.int j)])) _
    refine XS.aloadN X0.here hx rfl (hb hby d12_1) rfl rfl ?_
    show Steps p.tables e below (s₁.setTop (mkF m 2 #[.val (.ref a), .val (.ref b), .val (.ref w3), .val (.int j)] [(.ref w3), (.int j)])) _
    refine X0.arraylength hx (cell := c0) (by rw [e0]; exact (A0.ext O.2).1) (State.isArrayOf_alike hZ.alike (A0.ext O.2).2.1) (g := (mkF m 2 #[.val (.ref a), .val (.ref b), .val (.ref w3), .val (.int j)] [(.ref w3), (.int j)])) rfl (rest := [(.int j)]) rfl (hb hby d12_2) _ ?_
    rw [Sz]
    show Steps p.tables e below (s₁.setTop (mkF m 3 #[.val (.ref a), .val (.ref b), .val (.ref w3), .val (.int j)] [(.int (0 : Int32)), (.int j)])) _
    refine XS.icmpNo X0.here hx rfl (hb hby d12_3) rfl ((Jvm.Own.holdsII _ _ _).trans (Jvm.Own.dF (by rw [hj]; exact fun q => q rfl))) ?_
    show Steps p.tables e below (s₁.setTop (mkF m 6 #[.val (.ref a), .val (.ref b), .val (.ref w3), .val (.int j)] [])) _
    refine XS.aloadN X0.here hx rfl (hb hby d12_6) rfl rfl ?_
    show Steps p.tables e below (s₁.setTop (mkF m 7 #[.val (.ref a), .val (.ref b), .val (.ref w3), .val (.int j)] [(.ref a)])) _
    refine st1.trans ?_
    show Steps p.tables e below (T1.setTop (mkF m 10 #[.val (.ref a), .val (.ref b), .val (.ref w3), .val (.int j)] [(.ref t1)])) _
    refine XS.astoreN X1.here hx rfl (hb hby d12_10) rfl rfl (l' := #[.val (.ref a), .val (.ref b), .val (.ref t1), .val (.int j)]) rfl ?_
    show Steps p.tables e below (T1.setTop (mkF m 11 #[.val (.ref a), .val (.ref b), .val (.ref t1), .val (.int j)] [])) _
    refine XS.aloadN X1.here hx rfl (hb hby d12_11) rfl rfl ?_
    show Steps p.tables e below (T1.setTop (mkF m 12 #[.val (.ref a), .val (.ref b), .val (.ref t1), .val (.int j)] [(.ref t1)])) _
    refine XS.iloadN X1.here hx rfl (hb hby d12_12) rfl ?_
    show Steps p.tables e below (T1.setTop (mkF m 13 #[.val (.ref a), .val (.ref b), .val (.ref t1), .val (.int j)] [(.int j), (.ref t1)])) _
    refine XS.aloadN X1.here hx rfl (hb hby d12_13) rfl rfl ?_
    show Steps p.tables e below (T1.setTop (mkF m 14 #[.val (.ref a), .val (.ref b), .val (.ref t1), .val (.int j)] [(.ref b), (.int j), (.ref t1)])) _
    refine st6 _ ?_
    show Steps p.tables e below (T6.setTop (mkF m 15 #[.val (.ref a), .val (.ref b), .val (.ref t1), .val (.int j)] [])) _
    refine XS.aloadN X6.here hx rfl (hb hby d12_15) rfl rfl ?_
    show Steps p.tables e below (T6.setTop (mkF m 16 #[.val (.ref a), .val (.ref b), .val (.ref t1), .val (.int j)] [(.ref a)])) _
    refine XS.iloadN X6.here hx rfl (hb hby d12_16) rfl ?_
    show Steps p.tables e below (T6.setTop (mkF m 17 #[.val (.ref a), .val (.ref b), .val (.ref t1), .val (.int j)] [(.int j), (.ref a)])) _
    refine XS.iconst X6.here hx rfl (hb hby d12_17) ?_
    show Steps p.tables e below (T6.setTop (mkF m 18 #[.val (.ref a), .val (.ref b), .val (.ref t1), .val (.int j)] [(.int (1 : Int32)), (.int j), (.ref a)])) _
    refine XS.iadd X6.here hx rfl (hb hby d12_18) rfl ?_
    show Steps p.tables e below (T6.setTop (mkF m 19 #[.val (.ref a), .val (.ref b), .val (.ref t1), .val (.int j)] [(.int (j + (1 : Int32))), (.ref a)])) _
    refine st7 _ ?_
    show Steps p.tables e below (T7.setTop (mkF m 22 #[.val (.ref a), .val (.ref b), .val (.ref t1), .val (.int j)] [])) _
    exact X7.returnOut hx Bd.returns (hb hby d12_22) hr
  · show QF Z a b mo j h0 n0 _ T7.heap _
    rw [e7]
    exact ⟨rfl, N7, t1, K7, R7, s1⟩
def QS (Z : State) (a b t : Addr) (mo j : Int32) (i : Nat) (vs : List Value) (h0 : Heap) (n0 : Nat) (v : Option Value) (h : Heap) (L : List Loc) : Prop := v = none ∧ Fr n0 L ∧ Keep h0 h [a, t] ∧ LS Z h a mo (j + 1) t (vs.set i (.ref b))
theorem ef_rmA3 (m : MethodId) (a : Addr) (b : Addr) (t : Addr) (j : Int32) : entryFrame m #[(.ref a), (.ref b), (.ref t), (.int j)] 4 = mkF m 0 #[.val (.ref a), .val (.ref b), .val (.ref t), .val (.int j)] [] := by first | (simp [entryFrame, mkF, argsToLocals, Value.category]; done) | rfl
set_option maxRecDepth 65536 in
set_option maxHeartbeats 40000000 in
theorem rmA3 (l : Launch) (Z : State) (a0 : Array Value) (hw : ∀ d ∈ tables_1, d.before a0 Z = true) (ws : List Jvm.Cond) (a : Addr) (b : Addr) (t : Addr) (j : Int32) (h0 : Heap) (n0 : Nat) (Z0 : n0 ≤ h0.size) (mo : Int32) (i : Nat) (vs : List Value) (ga : n0 ≤ a) (gt : n0 ≤ t) (B : LS Z h0 a mo j t vs) (hj2 : j.toInt = i) (hi : i < 10) (Eb1 : Exa Z h0 b "java/lang/Double") :
    MetFree l (⟨"java/util/ArrayList", "add", "(Ljava/lang/Object;[Ljava/lang/Object;I)V"⟩ : MethodName) (head1 (Jvm.Cond.code (⟨"java/util/ArrayList", "add", "(Ljava/lang/Object;[Ljava/lang/Object;I)V"⟩ : MethodName) jdk_38_method_24_code 4 none :: ws) ({ frames := 3, cells := 0, slots := 0, locals := 44 } : Room)) (fun a_ U_ => a_ = #[(.ref a), (.ref b), (.ref t), (.int j)] ∧ Z.Warmed39 U_.vm ∧ U_.heap = h0) (fun _ _ _ _ _ => True) (fun _ U_ o_ V_ => ∃ v_ L_, o_ = .returned v_ ∧ QS Z a b t mo j i vs h0 n0 v_ V_.heap L_ ∧ FrameEnd U_ o_ V_ L_ ({ frames := 3, cells := 0, slots := 0, locals := 44 } : Room).cells ({ frames := 3, cells := 0, slots := 0, locals := 44 } : Room).slots) := by
  refine MetFree.of_bodySF (plainFor_of_name pn_2) hisR ?_
  intro p e s m args below meth c s₁ Bd hml0 hP hK
  obtain ⟨rfl, hZ, hh⟩ := hP
  have hx := Bd.exec
  have hby := Bd.bytes
  have hml : c.maxLocals = 4 := hml0
  have hown : s.vm.findClass "java/util/ArrayList" = some m.cls := findClass_of_methodNamed Bd.named
  have hnm := (name_of_methodNamed Bd.named Bd.method).1
  have X0 : Stand p l e ({ frames := 3, cells := 0, slots := 0, locals := 44 } : Room) s m #[(.ref a), (.ref b), (.ref t), (.int j)] below meth c s₁ [] 0 0 := Stand.of_body Bd
  have e0 : s₁.heap = h0 := by rw [← hh, Bd.state]; rfl
  have N0 := Fr.nil n0
  have pre0 : ∀ t_1, Steps p.tables e below (s₁.setTop (mkF m 0 #[.val (.ref a), .val (.ref b), .val (.ref t), .val (.int j)] [])) t_1 → Steps p.tables e below (s₁.setTop (entryFrame m #[(.ref a), (.ref b), (.ref t), (.int j)] 4)) t_1 := fun t_ k_ => castTop (ef_rmA3 m a b t j) k_
  obtain ⟨R11, R12, R13, R14, R15⟩ := B
  obtain ⟨k0, ⟨c0, A0, q00, S0, -⟩, -⟩ := id R15
  have Sz : c0.slots.size.toInt32 = (10 : Int32) := by rw [S0]; rfl
  have KK : Keep h0 h0 [a, t] := Keep.refl _ _
  have at_ : t ∈ [a, t] ∨ h0.size ≤ t := Or.inl (List.mem_cons_of_mem _ (memS t))
  have nat : a ≠ t := R15.ne R11 (hw _ (List.mem_of_getElem? (i := 15) rfl))
  obtain ⟨k6, ⟨c6, A6, q61, S6, q63, H6, G6⟩, r6, O6⟩ := id R15
  obtain ⟨T6, h6, X6, e6, W6, st6⟩ := stR X0 hx hZ e0 A6 (j := j) (inA hj2 hi S6) rfl (Sto.ofV A6 q61 O6 (Ins.of_exa Eb1 (hw _ (List.mem_of_getElem? (i := 102) rfl)))) (g := (mkF m 14 #[.val (.ref a), .val (.ref b), .val (.ref t), .val (.int j)] [(.ref b), (.int j), (.ref t)])) rfl rfl (hb hby d12_14)
  have N6 := Fr.snoc X6 N0 gt
  have V6 := R15.set W6 (clampA hj2) hi
  obtain ⟨T7, h7, X7, e7, W7, st7⟩ := putF X6 hx hZ hown (host := "") (Or.inl (hw _ (List.mem_of_getElem? (i := 79) rfl))) Via.refl e6 (R13.other W6 (Or.inl nat)) (R11.wr W6) (Or.inl (hw _ (List.mem_of_getElem? (i := 80) rfl))) (hw _ (List.mem_of_getElem? (i := 15) rfl)) (ty := .int) (by decide) rfl rfl (g := (mkF m 19 #[.val (.ref a), .val (.ref b), .val (.ref t), .val (.int j)] [(.int (j + (1 : Int32))), (.ref a)])) rfl rfl (hb hby d12_19)
  have N7 := Fr.snoc X7 N6 ga
  have K7 := (KK.wr W6 at_).wr W7 (Or.inl (memS a))
  have R7 : LS Z h7 a mo (j + 1) t (vs.set i (.ref b)) := ⟨(R11.wr W6).wr W7, (R12.other W6 (Or.inl nat)).other W7 (Or.inr (slot_ne (Or.inl (hw _ (List.mem_of_getElem? (i := 34) rfl))) (Or.inl (hw _ (List.mem_of_getElem? (i := 80) rfl))) (by decide) (t := .int) (t' := .int) (by decide) (by decide))), (R13.other W6 (Or.inl nat)).same W7, (R14.other W6 (Or.inl nat)).other W7 (Or.inr (slot_ne (Or.inl (hw _ (List.mem_of_getElem? (i := 37) rfl))) (Or.inl (hw _ (List.mem_of_getElem? (i := 80) rfl))) (by decide) (t := (.array (.object "java/lang/Object"))) (t' := .int) (by decide) (by decide))), V6.wr W7 (Ne.symm nat)⟩
  obtain ⟨fs, hr, hrun, hended, hW, hsame⟩ := X7.leave (v := none) (fun _ => rfl)
  refine ⟨_, _, pre0 _ ?_, hrun, hended, _, _, rfl, ?_, ⟨_, rfl⟩, hW, hsame.mono (by decide) (by decide)⟩
  · show Steps p.tables e below (s₁.setTop (mkF m 0 #[.val (.ref a), .val (.ref b), .val (.ref t), .val (.int j)] [])) _
    refine XS.iloadN X0.here hx rfl (hb hby d12_0) rfl ?_
    show Steps p.tables e below (s₁.setTop (mkF m 1 #[.val (.ref a), .val (.ref b), .val (.ref t), .val (.int j)] [(.int j)])) _
    refine XS.aloadN X0.here hx rfl (hb hby d12_1) rfl rfl ?_
    show Steps p.tables e below (s₁.setTop (mkF m 2 #[.val (.ref a), .val (.ref b), .val (.ref t), .val (.int j)] [(.ref t), (.int j)])) _
    refine X0.arraylength hx (cell := c0) (by rw [e0]; exact A0.1) (State.isArrayOf_alike hZ.alike A0.2.1) (g := (mkF m 2 #[.val (.ref a), .val (.ref b), .val (.ref t), .val (.int j)] [(.ref t), (.int j)])) rfl (rest := [(.int j)]) rfl (hb hby d12_2) _ ?_
    rw [Sz]
    show Steps p.tables e below (s₁.setTop (mkF m 3 #[.val (.ref a), .val (.ref b), .val (.ref t), .val (.int j)] [(.int (10 : Int32)), (.int j)])) _
    refine XS.icmpYes X0.here hx rfl (pc0 := 3) (pc' := 11) rfl (hb hby d12_3) rfl ((Jvm.Own.holdsII _ _ _).trans (Jvm.Own.dT (by rw [hj2, show (10 : Int32).toInt = 10 from rfl]; omega))) (by decide) (by decide) ?_
    show Steps p.tables e below (s₁.setTop (mkF m 11 #[.val (.ref a), .val (.ref b), .val (.ref t), .val (.int j)] [])) _
    refine XS.aloadN X0.here hx rfl (hb hby d12_11) rfl rfl ?_
    show Steps p.tables e below (s₁.setTop (mkF m 12 #[.val (.ref a), .val (.ref b), .val (.ref t), .val (.int j)] [(.ref t)])) _
    refine XS.iloadN X0.here hx rfl (hb hby d12_12) rfl ?_
    show Steps p.tables e below (s₁.setTop (mkF m 13 #[.val (.ref a), .val (.ref b), .val (.ref t), .val (.int j)] [(.int j), (.ref t)])) _
    refine XS.aloadN X0.here hx rfl (hb hby d12_13) rfl rfl ?_
    show Steps p.tables e below (s₁.setTop (mkF m 14 #[.val (.ref a), .val (.ref b), .val (.ref t), .val (.int j)] [(.ref b), (.int j), (.ref t)])) _
    refine st6 _ ?_
    show Steps p.tables e below (T6.setTop (mkF m 15 #[.val (.ref a), .val (.ref b), .val (.ref t), .val (.int j)] [])) _
    refine XS.aloadN X6.here hx rfl (hb hby d12_15) rfl rfl ?_
    show Steps p.tables e below (T6.setTop (mkF m 16 #[.val (.ref a), .val (.ref b), .val (.ref t), .val (.int j)] [(.ref a)])) _
    refine XS.iloadN X6.here hx rfl (hb hby d12_16) rfl ?_
    show Steps p.tables e below (T6.setTop (mkF m 17 #[.val (.ref a), .val (.ref b), .val (.ref t), .val (.int j)] [(.int j), (.ref a)])) _
    refine XS.iconst X6.here hx rfl (hb hby d12_17) ?_
    show Steps p.tables e below (T6.setTop (mkF m 18 #[.val (.ref a), .val (.ref b), .val (.ref t), .val (.int j)] [(.int (1 : Int32)), (.int j), (.ref a)])) _
    refine XS.iadd X6.here hx rfl (hb hby d12_18) rfl ?_
    show Steps p.tables e below (T6.setTop (mkF m 19 #[.val (.ref a), .val (.ref b), .val (.ref t), .val (.int j)] [(.int (j + (1 : Int32))), (.ref a)])) _
    refine st7 _ ?_
    show Steps p.tables e below (T7.setTop (mkF m 22 #[.val (.ref a), .val (.ref b), .val (.ref t), .val (.int j)] [])) _
    exact X7.returnOut hx Bd.returns (hb hby d12_22) hr
  · show QS Z a b t mo j i vs h0 n0 _ T7.heap _
    rw [e7]
    exact ⟨rfl, N7, K7, R7⟩
def QF1 (Z : State) (a b : Addr) (h0 : Heap) (n0 : Nat) (v : Option Value) (h : Heap) (L : List Loc) : Prop := v = some (.int 1) ∧ Fr n0 L ∧ ∃ t, Keep h0 h [a] ∧ LS Z h a (0 + 1) (0 + 1) t ((List.replicate 10 .null).set 0 (.ref b)) ∧ h0.size ≤ t
theorem ef_rmAf (m : MethodId) (a : Addr) (b : Addr) : entryFrame m #[(.ref a), (.ref b)] 2 = mkF m 0 #[.val (.ref a), .val (.ref b)] [] := by first | (simp [entryFrame, mkF, argsToLocals, Value.category]; done) | rfl
set_option maxRecDepth 65536 in
set_option maxHeartbeats 40000000 in
theorem rmAf (l : Launch) (Z : State) (a0 : Array Value) (hw : ∀ d ∈ tables_1, d.before a0 Z = true) (ws : List Jvm.Cond) (a : Addr) (b : Addr) (h0 : Heap) (n0 : Nat) (Z0 : n0 ≤ h0.size) (w3 : Addr) (O : Old Z n0 h0) (S : EA Z w3) (ga : n0 ≤ a) (B : L0 Z h0 a 0 w3) (Eb : Exa Z h0 b "java/lang/Double") :
    MetFree l (⟨"java/util/ArrayList", "add", "(Ljava/lang/Object;)Z"⟩ : MethodName) (head1 (Jvm.Cond.code (⟨"java/util/ArrayList", "add", "(Ljava/lang/Object;)Z"⟩ : MethodName) jdk_38_method_25_code 2 (some .boolean) :: ws) ({ frames := 4, cells := 1, slots := 10, locals := 60 } : Room)) (fun a_ U_ => a_ = #[(.ref a), (.ref b)] ∧ Z.Warmed39 U_.vm ∧ U_.heap = h0) (fun _ _ _ _ _ => True) (fun _ U_ o_ V_ => ∃ v_ L_, o_ = .returned v_ ∧ QF1 Z a b h0 n0 v_ V_.heap L_ ∧ FrameEnd U_ o_ V_ L_ ({ frames := 4, cells := 1, slots := 10, locals := 60 } : Room).cells ({ frames := 4, cells := 1, slots := 10, locals := 60 } : Room).slots) := by
  refine MetFree.of_bodySF (plainFor_of_name pn_2) hisR ?_
  intro p e s m args below meth c s₁ Bd hml0 hP hK
  obtain ⟨rfl, hZ, hh⟩ := hP
  have hx := Bd.exec
  have hby := Bd.bytes
  have hml : c.maxLocals = 2 := hml0
  have hown : s.vm.findClass "java/util/ArrayList" = some m.cls := findClass_of_methodNamed Bd.named
  have hnm := (name_of_methodNamed Bd.named Bd.method).1
  have X0 : Stand p l e ({ frames := 4, cells := 1, slots := 10, locals := 60 } : Room) s m #[(.ref a), (.ref b)] below meth c s₁ [] 0 0 := Stand.of_body Bd
  have e0 : s₁.heap = h0 := by rw [← hh, Bd.state]; rfl
  have N0 := Fr.nil n0
  have pre0 : ∀ t_1, Steps p.tables e below (s₁.setTop (mkF m 0 #[.val (.ref a), .val (.ref b)] [])) t_1 → Steps p.tables e below (s₁.setTop (entryFrame m #[(.ref a), (.ref b)] 2)) t_1 := fun t_ k_ => castTop (ef_rmAf m a b) k_
  obtain ⟨R1, R2, R3, R4⟩ := B
  obtain ⟨T1, X1, e1, st1⟩ := getF X0 hx hZ hown (host := "") (Or.inl (hw _ (List.mem_of_getElem? (i := 77) rfl))) (Via.of (hw _ (List.mem_of_getElem? (i := 78) rfl))) e0 R2 (g := (mkF m 2 #[.val (.ref a), .val (.ref b)] [(.ref a), (.ref a)])) rfl rfl (hb hby d11_2)
  obtain ⟨T2, h2, X2, e2, W2, st2⟩ := putF X1 hx hZ hown (host := "") (Or.inl (hw _ (List.mem_of_getElem? (i := 77) rfl))) (Via.of (hw _ (List.mem_of_getElem? (i := 78) rfl))) e1 R2 R1 (Or.inl (hw _ (List.mem_of_getElem? (i := 34) rfl))) (hw _ (List.mem_of_getElem? (i := 15) rfl)) (ty := .int) (by decide) rfl rfl (g := (mkF m 7 #[.val (.ref a), .val (.ref b)] [(.int ((0 : Int32) + (1 : Int32))), (.ref a)])) rfl rfl (hb hby d11_7)
  have G1 := R1.wr W2
  have G2 := R2.same W2
  have G3 := R3.other W2 (Or.inr (slot_ne (Or.inl (hw _ (List.mem_of_getElem? (i := 80) rfl))) (Or.inl (hw _ (List.mem_of_getElem? (i := 34) rfl))) (by decide) (t := .int) (t' := .int) (by decide) (by decide)))
  have G4 := R4.other W2 (Or.inr (slot_ne (Or.inl (hw _ (List.mem_of_getElem? (i := 37) rfl))) (Or.inl (hw _ (List.mem_of_getElem? (i := 34) rfl))) (by decide) (t := (.array (.object "java/lang/Object"))) (t' := .int) (by decide) (by decide)))
  have K2 : Keep h0 h2 [a] := (Keep.refl h0 [a]).wr W2 (Or.inl (memS a))
  have N2 := Fr.snoc X2 N0 ga
  have Z2 : n0 ≤ h2.size := Nat.le_trans Z0 K2.1
  obtain ⟨T3, X3, e3, st3⟩ := getF X2 hx hZ hown (host := "") (Or.inl (hw _ (List.mem_of_getElem? (i := 36) rfl))) Via.refl e2 G4 (g := (mkF m 13 #[.val (.ref a), .val (.ref b)] [(.ref a), (.ref b), (.ref a)])) rfl rfl (hb hby d11_13)
  obtain ⟨T4, X4, e4, st4⟩ := getF X3 hx hZ hown (host := "") (Or.inl (hw _ (List.mem_of_getElem? (i := 79) rfl))) Via.refl e3 G3 (g := (mkF m 17 #[.val (.ref a), .val (.ref b)] [(.ref a), (.ref w3), (.ref b), (.ref a)])) rfl rfl (hb hby d11_17)
  obtain ⟨cq5, q5, q5'⟩ := (G1).cell
  obtain ⟨_, _, ⟨T5, L5, k5, n5⟩, -, X5, ⟨Lc5, hQ5, l5, y5, z5⟩, st5⟩ := X4.privateBack hx (y := (⟨"java/util/ArrayList", "add", "(Ljava/lang/Object;[Ljava/lang/Object;I)V"⟩ : MethodName)) hown (mvT hZ (hw _ (List.mem_of_getElem? (i := 81) rfl))) (mvT hZ (hw _ (List.mem_of_getElem? (i := 82) rfl))) (mvT hZ (hw _ (List.mem_of_getElem? (i := 84) rfl))) (Cond.privateMethod_at (mvP hZ (hw _ (List.mem_of_getElem? (i := 83) rfl)) (args := #[]))) (mvT hZ (hw _ (List.mem_of_getElem? (i := 85) rfl))) (by decide) (backOf (W := 0) (rmA3f l Z a0 hw [] a b w3 (0 : Int32) h2 n0 Z2 ((0 : Int32) + 1) (O.keep K2 (allS ga all0)) S ga ⟨G1, G2, G3, G4⟩ rfl (Eb.keep K2)) hZ (hw _ (List.mem_of_getElem? (i := 85) rfl)) (hw _ (List.mem_of_getElem? (i := 16) rfl)) (by decide) (by decide)) (g := (mkF m 20 #[.val (.ref a), .val (.ref b)] [(.int (0 : Int32)), (.ref w3), (.ref b), (.ref a)])) rfl (by rw [hml]; rfl) (Steps.refl _) (a := a) (by rw [e4]; exact q5) q5' (argsL := [(.ref b), (.ref w3), (.int (0 : Int32))]) (rest := []) (lenOf pd_5 rfl) rfl (by show 2 * 0 + _ ≤ _; exact Nat.le_of_eq rfl) (hb hby d11_20) (fun _ _ => ⟨rfl, e4, (by decide : 0 + 1 ≤ _), (by decide : 0 + 10 ≤ _)⟩)
  dsimp only [Pt.U, Pt.locs, Pt.cells, Pt.slots] at X5 l5 y5 z5 st5 hQ5
  subst l5 y5 z5
  obtain ⟨rfl, N5, t5, K5, R5, s5⟩ := hQ5
  have K6 : Keep h0 T5.heap [a] := K2.trans K5 (allS (Or.inl (memS a)) all0)
  obtain ⟨fs, hr, hrun, hended, hW, hsame⟩ := X5.leave (v := some (.int (1 : Int32))) (fun h => by rw [Bd.returns] at h; cases h)
  refine ⟨_, _, pre0 _ ?_, hrun, hended, _, _, rfl, ?_, ⟨_, rfl⟩, hW, hsame.mono (by decide) (by decide)⟩
  · show Steps p.tables e below (s₁.setTop (mkF m 0 #[.val (.ref a), .val (.ref b)] [])) _
    refine XS.aloadN X0.here hx rfl (hb hby d11_0) rfl rfl ?_
    show Steps p.tables e below (s₁.setTop (mkF m 1 #[.val (.ref a), .val (.ref b)] [(.ref a)])) _
    refine XS.dup X0.here hx rfl (hb hby d11_1) rfl rfl ?_
    show Steps p.tables e below (s₁.setTop (mkF m 2 #[.val (.ref a), .val (.ref b)] [(.ref a), (.ref a)])) _
    refine st1 _ ?_
    show Steps p.tables e below (T1.setTop (mkF m 5 #[.val (.ref a), .val (.ref b)] [(.int (0 : Int32)), (.ref a)])) _
    refine XS.iconst X1.here hx rfl (hb hby d11_5) ?_
    show Steps p.tables e below (T1.setTop (mkF m 6 #[.val (.ref a), .val (.ref b)] [(.int (1 : Int32)), (.int (0 : Int32)), (.ref a)])) _
    refine XS.iadd X1.here hx rfl (hb hby d11_6) rfl ?_
    show Steps p.tables e below (T1.setTop (mkF m 7 #[.val (.ref a), .val (.ref b)] [(.int ((0 : Int32) + (1 : Int32))), (.ref a)])) _
    refine st2 _ ?_
    show Steps p.tables e below (T2.setTop (mkF m 10 #[.val (.ref a), .val (.ref b)] [])) _
    refine XS.aloadN X2.here hx rfl (hb hby d11_10) rfl rfl ?_
    show Steps p.tables e below (T2.setTop (mkF m 11 #[.val (.ref a), .val (.ref b)] [(.ref a)])) _
    refine XS.aloadN X2.here hx rfl (hb hby d11_11) rfl rfl ?_
    show Steps p.tables e below (T2.setTop (mkF m 12 #[.val (.ref a), .val (.ref b)] [(.ref b), (.ref a)])) _
    refine XS.aloadN X2.here hx rfl (hb hby d11_12) rfl rfl ?_
    show Steps p.tables e below (T2.setTop (mkF m 13 #[.val (.ref a), .val (.ref b)] [(.ref a), (.ref b), (.ref a)])) _
    refine st3 _ ?_
    show Steps p.tables e below (T3.setTop (mkF m 16 #[.val (.ref a), .val (.ref b)] [(.ref w3), (.ref b), (.ref a)])) _
    refine XS.aloadN X3.here hx rfl (hb hby d11_16) rfl rfl ?_
    show Steps p.tables e below (T3.setTop (mkF m 17 #[.val (.ref a), .val (.ref b)] [(.ref a), (.ref w3), (.ref b), (.ref a)])) _
    refine st4 _ ?_
    show Steps p.tables e below (T4.setTop (mkF m 20 #[.val (.ref a), .val (.ref b)] [(.int (0 : Int32)), (.ref w3), (.ref b), (.ref a)])) _
    refine st5.trans ?_
    show Steps p.tables e below (T5.setTop (mkF m 23 #[.val (.ref a), .val (.ref b)] [])) _
    refine XS.iconst X5.here hx rfl (hb hby d11_23) ?_
    show Steps p.tables e below (T5.setTop (mkF m 24 #[.val (.ref a), .val (.ref b)] [(.int (1 : Int32))])) _
    exact retN X5 hx (t := .boolean) Bd.returns (by simp) (hb hby d11_24) hr
  · show QF1 Z a b h0 n0 _ T5.heap _
    exact ⟨rfl, Fr.app N2 N5, t5, K6, R5, Nat.le_trans K2.1 s5⟩
def QS1 (Z : State) (a b t : Addr) (j : Int32) (i : Nat) (vs : List Value) (h0 : Heap) (n0 : Nat) (v : Option Value) (h : Heap) (L : List Loc) : Prop := v = some (.int 1) ∧ Fr n0 L ∧ Keep h0 h [a, t] ∧ LS Z h a (j + 1) (j + 1) t (vs.set i (.ref b))
theorem ef_rmAs (m : MethodId) (a : Addr) (b : Addr) : entryFrame m #[(.ref a), (.ref b)] 2 = mkF m 0 #[.val (.ref a), .val (.ref b)] [] := by first | (simp [entryFrame, mkF, argsToLocals, Value.category]; done) | rfl
set_option maxRecDepth 65536 in
set_option maxHeartbeats 40000000 in
theorem rmAs (l : Launch) (Z : State) (a0 : Array Value) (hw : ∀ d ∈ tables_1, d.before a0 Z = true) (ws : List Jvm.Cond) (a : Addr) (b : Addr) (h0 : Heap) (n0 : Nat) (Z0 : n0 ≤ h0.size) (t : Addr) (j : Int32) (i : Nat) (vs : List Value) (ga : n0 ≤ a) (gt : n0 ≤ t) (B : LS Z h0 a j j t vs) (hj2 : j.toInt = i) (hi : i < 10) (Eb : Exa Z h0 b "java/lang/Double") :
    MetFree l (⟨"java/util/ArrayList", "add", "(Ljava/lang/Object;)Z"⟩ : MethodName) (head1 (Jvm.Cond.code (⟨"java/util/ArrayList", "add", "(Ljava/lang/Object;)Z"⟩ : MethodName) jdk_38_method_25_code 2 (some .boolean) :: ws) ({ frames := 4, cells := 0, slots := 0, locals := 60 } : Room)) (fun a_ U_ => a_ = #[(.ref a), (.ref b)] ∧ Z.Warmed39 U_.vm ∧ U_.heap = h0) (fun _ _ _ _ _ => True) (fun _ U_ o_ V_ => ∃ v_ L_, o_ = .returned v_ ∧ QS1 Z a b t j i vs h0 n0 v_ V_.heap L_ ∧ FrameEnd U_ o_ V_ L_ ({ frames := 4, cells := 0, slots := 0, locals := 60 } : Room).cells ({ frames := 4, cells := 0, slots := 0, locals := 60 } : Room).slots) := by
  refine MetFree.of_bodySF (plainFor_of_name pn_2) hisR ?_
  intro p e s m args below meth c s₁ Bd hml0 hP hK
  obtain ⟨rfl, hZ, hh⟩ := hP
  have hx := Bd.exec
  have hby := Bd.bytes
  have hml : c.maxLocals = 2 := hml0
  have hown : s.vm.findClass "java/util/ArrayList" = some m.cls := findClass_of_methodNamed Bd.named
  have hnm := (name_of_methodNamed Bd.named Bd.method).1
  have X0 : Stand p l e ({ frames := 4, cells := 0, slots := 0, locals := 60 } : Room) s m #[(.ref a), (.ref b)] below meth c s₁ [] 0 0 := Stand.of_body Bd
  have e0 : s₁.heap = h0 := by rw [← hh, Bd.state]; rfl
  have N0 := Fr.nil n0
  have pre0 : ∀ t_1, Steps p.tables e below (s₁.setTop (mkF m 0 #[.val (.ref a), .val (.ref b)] [])) t_1 → Steps p.tables e below (s₁.setTop (entryFrame m #[(.ref a), (.ref b)] 2)) t_1 := fun t_ k_ => castTop (ef_rmAs m a b) k_
  obtain ⟨R1, R2, R3, R4, R5⟩ := B
  obtain ⟨T1, X1, e1, st1⟩ := getF X0 hx hZ hown (host := "") (Or.inl (hw _ (List.mem_of_getElem? (i := 77) rfl))) (Via.of (hw _ (List.mem_of_getElem? (i := 78) rfl))) e0 R2 (g := (mkF m 2 #[.val (.ref a), .val (.ref b)] [(.ref a), (.ref a)])) rfl rfl (hb hby d11_2)
  obtain ⟨T2, h2, X2, e2, W2, st2⟩ := putF X1 hx hZ hown (host := "") (Or.inl (hw _ (List.mem_of_getElem? (i := 77) rfl))) (Via.of (hw _ (List.mem_of_getElem? (i := 78) rfl))) e1 R2 R1 (Or.inl (hw _ (List.mem_of_getElem? (i := 34) rfl))) (hw _ (List.mem_of_getElem? (i := 15) rfl)) (ty := .int) (by decide) rfl rfl (g := (mkF m 7 #[.val (.ref a), .val (.ref b)] [(.int (j + (1 : Int32))), (.ref a)])) rfl rfl (hb hby d11_7)
  have G1 := R1.wr W2
  have G2 := R2.same W2
  have G3 := R3.other W2 (Or.inr (slot_ne (Or.inl (hw _ (List.mem_of_getElem? (i := 80) rfl))) (Or.inl (hw _ (List.mem_of_getElem? (i := 34) rfl))) (by decide) (t := .int) (t' := .int) (by decide) (by decide)))
  have G4 := R4.other W2 (Or.inr (slot_ne (Or.inl (hw _ (List.mem_of_getElem? (i := 37) rfl))) (Or.inl (hw _ (List.mem_of_getElem? (i := 34) rfl))) (by decide) (t := (.array (.object "java/lang/Object"))) (t' := .int) (by decide) (by decide)))
  have K2 : Keep h0 h2 [a] := (Keep.refl h0 [a]).wr W2 (Or.inl (memS a))
  have N2 := Fr.snoc X2 N0 ga
  have Z2 : n0 ≤ h2.size := Nat.le_trans Z0 K2.1
  have G5 := R5.wr W2 (Ne.symm (R5.ne R1 (hw _ (List.mem_of_getElem? (i := 15) rfl))))
  obtain ⟨T3, X3, e3, st3⟩ := getF X2 hx hZ hown (host := "") (Or.inl (hw _ (List.mem_of_getElem? (i := 36) rfl))) Via.refl e2 G4 (g := (mkF m 13 #[.val (.ref a), .val (.ref b)] [(.ref a), (.ref b), (.ref a)])) rfl rfl (hb hby d11_13)
  obtain ⟨T4, X4, e4, st4⟩ := getF X3 hx hZ hown (host := "") (Or.inl (hw _ (List.mem_of_getElem? (i := 79) rfl))) Via.refl e3 G3 (g := (mkF m 17 #[.val (.ref a), .val (.ref b)] [(.ref a), (.ref t), (.ref b), (.ref a)])) rfl rfl (hb hby d11_17)
  obtain ⟨cq5, q5, q5'⟩ := (G1).cell
  obtain ⟨_, _, ⟨T5, L5, k5, n5⟩, -, X5, ⟨Lc5, hQ5, l5, y5, z5⟩, st5⟩ := X4.privateBack hx (y := (⟨"java/util/ArrayList", "add", "(Ljava/lang/Object;[Ljava/lang/Object;I)V"⟩ : MethodName)) hown (mvT hZ (hw _ (List.mem_of_getElem? (i := 81) rfl))) (mvT hZ (hw _ (List.mem_of_getElem? (i := 82) rfl))) (mvT hZ (hw _ (List.mem_of_getElem? (i := 84) rfl))) (Cond.privateMethod_at (mvP hZ (hw _ (List.mem_of_getElem? (i := 83) rfl)) (args := #[]))) (mvT hZ (hw _ (List.mem_of_getElem? (i := 85) rfl))) (by decide) (backOf (W := 0) (rmA3 l Z a0 hw [] a b t j h2 n0 Z2 (j + 1) i vs ga gt ⟨G1, G2, G3, G4, G5⟩ hj2 hi (Eb.keep K2)) hZ (hw _ (List.mem_of_getElem? (i := 85) rfl)) (hw _ (List.mem_of_getElem? (i := 16) rfl)) (by decide) (by decide)) (g := (mkF m 20 #[.val (.ref a), .val (.ref b)] [(.int j), (.ref t), (.ref b), (.ref a)])) rfl (by rw [hml]; rfl) (Steps.refl _) (a := a) (by rw [e4]; exact q5) q5' (argsL := [(.ref b), (.ref t), (.int j)]) (rest := []) (lenOf pd_5 rfl) rfl (by show 2 * 0 + _ ≤ _; exact Nat.le_of_eq rfl) (hb hby d11_20) (fun _ _ => ⟨rfl, e4, (by decide : 0 + 0 ≤ _), (by decide : 0 + 0 ≤ _)⟩)
  dsimp only [Pt.U, Pt.locs, Pt.cells, Pt.slots] at X5 l5 y5 z5 st5 hQ5
  subst l5 y5 z5
  obtain ⟨rfl, N5, K5, R6⟩ := hQ5
  have K6 : Keep h0 T5.heap [a, t] := ((Keep.refl h0 [a, t]).wr W2 (Or.inl (memS a))).trans K5 (fun x hx_ => Or.inl hx_)
  obtain ⟨fs, hr, hrun, hended, hW, hsame⟩ := X5.leave (v := some (.int (1 : Int32))) (fun h => by rw [Bd.returns] at h; cases h)
  refine ⟨_, _, pre0 _ ?_, hrun, hended, _, _, rfl, ?_, ⟨_, rfl⟩, hW, hsame.mono (by decide) (by decide)⟩
  · show Steps p.tables e below (s₁.setTop (mkF m 0 #[.val (.ref a), .val (.ref b)] [])) _
    refine XS.aloadN X0.here hx rfl (hb hby d11_0) rfl rfl ?_
    show Steps p.tables e below (s₁.setTop (mkF m 1 #[.val (.ref a), .val (.ref b)] [(.ref a)])) _
    refine XS.dup X0.here hx rfl (hb hby d11_1) rfl rfl ?_
    show Steps p.tables e below (s₁.setTop (mkF m 2 #[.val (.ref a), .val (.ref b)] [(.ref a), (.ref a)])) _
    refine st1 _ ?_
    show Steps p.tables e below (T1.setTop (mkF m 5 #[.val (.ref a), .val (.ref b)] [(.int j), (.ref a)])) _
    refine XS.iconst X1.here hx rfl (hb hby d11_5) ?_
    show Steps p.tables e below (T1.setTop (mkF m 6 #[.val (.ref a), .val (.ref b)] [(.int (1 : Int32)), (.int j), (.ref a)])) _
    refine XS.iadd X1.here hx rfl (hb hby d11_6) rfl ?_
    show Steps p.tables e below (T1.setTop (mkF m 7 #[.val (.ref a), .val (.ref b)] [(.int (j + (1 : Int32))), (.ref a)])) _
    refine st2 _ ?_
    show Steps p.tables e below (T2.setTop (mkF m 10 #[.val (.ref a), .val (.ref b)] [])) _
    refine XS.aloadN X2.here hx rfl (hb hby d11_10) rfl rfl ?_
    show Steps p.tables e below (T2.setTop (mkF m 11 #[.val (.ref a), .val (.ref b)] [(.ref a)])) _
    refine XS.aloadN X2.here hx rfl (hb hby d11_11) rfl rfl ?_
    show Steps p.tables e below (T2.setTop (mkF m 12 #[.val (.ref a), .val (.ref b)] [(.ref b), (.ref a)])) _
    refine XS.aloadN X2.here hx rfl (hb hby d11_12) rfl rfl ?_
    show Steps p.tables e below (T2.setTop (mkF m 13 #[.val (.ref a), .val (.ref b)] [(.ref a), (.ref b), (.ref a)])) _
    refine st3 _ ?_
    show Steps p.tables e below (T3.setTop (mkF m 16 #[.val (.ref a), .val (.ref b)] [(.ref t), (.ref b), (.ref a)])) _
    refine XS.aloadN X3.here hx rfl (hb hby d11_16) rfl rfl ?_
    show Steps p.tables e below (T3.setTop (mkF m 17 #[.val (.ref a), .val (.ref b)] [(.ref a), (.ref t), (.ref b), (.ref a)])) _
    refine st4 _ ?_
    show Steps p.tables e below (T4.setTop (mkF m 20 #[.val (.ref a), .val (.ref b)] [(.int j), (.ref t), (.ref b), (.ref a)])) _
    refine st5.trans ?_
    show Steps p.tables e below (T5.setTop (mkF m 23 #[.val (.ref a), .val (.ref b)] [])) _
    refine XS.iconst X5.here hx rfl (hb hby d11_23) ?_
    show Steps p.tables e below (T5.setTop (mkF m 24 #[.val (.ref a), .val (.ref b)] [(.int (1 : Int32))])) _
    exact retN X5 hx (t := .boolean) Bd.returns (by simp) (hb hby d11_24) hr
  · show QS1 Z a b t j i vs h0 n0 _ T5.heap _
    exact ⟨rfl, Fr.app N2 N5, K6, R6⟩
def PX (Z : State) (h : Heap) (pt la lb lc : Addr) : Prop := Exa Z h pt "com/example/quadwarden/quadwarden/cli/PairedTimings" ∧ Fld Z h pt "com/example/quadwarden/quadwarden/cli/PairedTimings" "viewNanos" "Ljava/util/List;" (.ref la) ∧ Fld Z h pt "com/example/quadwarden/quadwarden/cli/PairedTimings" "subsetNanos" "Ljava/util/List;" (.ref lb) ∧ Fld Z h pt "com/example/quadwarden/quadwarden/cli/PairedTimings" "ratios" "Ljava/util/List;" (.ref lc)
theorem PX.keep {pt la lb lc : Addr} (B : PX Z h pt la lb lc) (K : Keep h h' ws) (q : pt ∉ ws) : PX Z h' pt la lb lc := ⟨B.1.keep K, B.2.1.keep K q, B.2.2.1.keep K q, B.2.2.2.keep K q⟩
def P0 (Z : State) (h : Heap) (n0 : Nat) (pt la lb lc w3 : Addr) : Prop := PX Z h pt la lb lc ∧ L0 Z h la 0 w3 ∧ L0 Z h lb 0 w3 ∧ L0 Z h lc 0 w3 ∧ la ≠ lb ∧ la ≠ lc ∧ lb ≠ lc ∧ n0 ≤ la ∧ n0 ≤ lb ∧ n0 ≤ lc
def P1 (Z : State) (h : Heap) (n0 : Nat) (pt la lb lc ta tb tc : Addr) (j : Int32) (vs : List Value) : Prop := PX Z h pt la lb lc ∧ (∃ va, LS Z h la j j ta va) ∧ (∃ vb, LS Z h lb j j tb vb) ∧ LS Z h lc j j tc vs ∧ (la ≠ lb ∧ la ≠ lc ∧ lb ≠ lc) ∧ (ta ≠ tb ∧ ta ≠ tc ∧ tb ≠ tc) ∧ (n0 ≤ la ∧ n0 ≤ lb ∧ n0 ≤ lc) ∧ n0 ≤ ta ∧ n0 ≤ tb ∧ n0 ≤ tc
def QPi (Z : State) (pt w3 : Addr) (h0 : Heap) (n0 : Nat) (v : Option Value) (h : Heap) (L : List Loc) : Prop := v = none ∧ Fr n0 L ∧ Keep h0 h [pt] ∧ ∃ la lb lc, P0 Z h n0 pt la lb lc w3
theorem ef_rmPi (m : MethodId) (pt : Addr) : entryFrame m #[(.ref pt)] 1 = mkF m 0 #[.val (.ref pt)] [] := by first | (simp [entryFrame, mkF, argsToLocals, Value.category]; done) | rfl
set_option maxRecDepth 65536 in
set_option maxHeartbeats 40000000 in
theorem rmPi (l : Launch) (Z : State) (a0 : Array Value) (hw : ∀ d ∈ tables_1, d.before a0 Z = true) (ws : List Jvm.Cond) (pt : Addr) (h0 : Heap) (n0 : Nat) (Z0 : n0 ≤ h0.size) (w3 : Addr) (O : Old Z n0 h0) (S : EA Z w3) (gp : n0 ≤ pt) (B : Exa Z h0 pt "com/example/quadwarden/quadwarden/cli/PairedTimings") (B1 : Fld Z h0 pt "com/example/quadwarden/quadwarden/cli/PairedTimings" "viewNanos" "Ljava/util/List;" .null) (B2 : Fld Z h0 pt "com/example/quadwarden/quadwarden/cli/PairedTimings" "subsetNanos" "Ljava/util/List;" .null) (B3 : Fld Z h0 pt "com/example/quadwarden/quadwarden/cli/PairedTimings" "ratios" "Ljava/util/List;" .null) :
    MetFree l (⟨"com/example/quadwarden/quadwarden/cli/PairedTimings", "<init>", "()V"⟩ : MethodName) (head1 (Jvm.Cond.code (⟨"com/example/quadwarden/quadwarden/cli/PairedTimings", "<init>", "()V"⟩ : MethodName) prog_5_method_1_code 1 none :: ws) ({ frames := 4, cells := 3, slots := 9, locals := 60 } : Room)) (fun a_ U_ => a_ = #[(.ref pt)] ∧ Z.Warmed39 U_.vm ∧ U_.heap = h0) (fun _ _ _ _ _ => True) (fun _ U_ o_ V_ => ∃ v_ L_, o_ = .returned v_ ∧ QPi Z pt w3 h0 n0 v_ V_.heap L_ ∧ FrameEnd U_ o_ V_ L_ ({ frames := 4, cells := 3, slots := 9, locals := 60 } : Room).cells ({ frames := 4, cells := 3, slots := 9, locals := 60 } : Room).slots) := by
  refine MetFree.of_bodySF (plainFor_of_name pn_5) hisR ?_
  intro p e s m args below meth c s₁ Bd hml0 hP hK
  obtain ⟨rfl, hZ, hh⟩ := hP
  have hx := Bd.exec
  have hby := Bd.bytes
  have hml : c.maxLocals = 1 := hml0
  have hown : s.vm.findClass "com/example/quadwarden/quadwarden/cli/PairedTimings" = some m.cls := findClass_of_methodNamed Bd.named
  have hnm := (name_of_methodNamed Bd.named Bd.method).1
  have X0 : Stand p l e ({ frames := 4, cells := 3, slots := 9, locals := 60 } : Room) s m #[(.ref pt)] below meth c s₁ [] 0 0 := Stand.of_body Bd
  have e0 : s₁.heap = h0 := by rw [← hh, Bd.state]; rfl
  have N0 := Fr.nil n0
  have pre0 : ∀ t_1, Steps p.tables e below (s₁.setTop (mkF m 0 #[.val (.ref pt)] [])) t_1 → Steps p.tables e below (s₁.setTop (entryFrame m #[(.ref pt)] 1)) t_1 := fun t_ k_ => castTop (ef_rmPi m pt) k_
  obtain ⟨T1, X1, e1, st1⟩ := initO X0 hx hZ hown (hw _ (List.mem_of_getElem? (i := 11) rfl)) (hw _ (List.mem_of_getElem? (i := 12) rfl)) (hw _ (List.mem_of_getElem? (i := 13) rfl)) e0 (g := (mkF m 1 #[.val (.ref pt)] [(.ref pt)])) rfl (by rw [hml]; rfl) rfl (hb hby d2_1) (by decide) (W := 0) (by show 2 * 0 + _ ≤ _; exact Nat.le_of_eq rfl) (by decide)
  obtain ⟨T22, h22, X22, e22, E22, A22, D22, -, st22⟩ := newO X1 hx hZ hown (hw _ (List.mem_of_getElem? (i := 14) rfl)) (hw _ (List.mem_of_getElem? (i := 15) rfl)) (hw _ (List.mem_of_getElem? (i := 16) rfl)) e1 (g := (mkF m 5 #[.val (.ref pt)] [(.ref pt)])) rfl (hb hby d2_5) (by decide) (by decide)
  obtain ⟨a22, g22⟩ : ∃ z, z = h0.size := ⟨_, rfl⟩
  rw [← g22] at A22 D22 st22
  have L22e := D22 (Or.inl (hw _ (List.mem_of_getElem? (i := 37) rfl))) (ty := (.array (.object "java/lang/Object"))) (by decide)
  have L22m := D22 (Or.inl (hw _ (List.mem_of_getElem? (i := 34) rfl))) (ty := .int) (by decide)
  have L22s := D22 (Or.inl (hw _ (List.mem_of_getElem? (i := 80) rfl))) (ty := .int) (by decide)
  have g_22 : n0 ≤ a22 := Nat.le_trans Z0 (Nat.le_of_eq g22.symm)
  have O22 := O.ext E22
  have Z22 : n0 ≤ h22.size := Nat.le_trans Z0 E22.1
  have nep22 : pt ≠ a22 := Nat.ne_of_lt (Nat.lt_of_lt_of_le (B).lt (Nat.le_of_eq g22.symm))
  obtain ⟨_, _, ⟨T23, L23, k23, n23⟩, -, X23, ⟨Lc23, hQ23, l23, y23, z23⟩, st23⟩ := X22.specialBack hx (y := (⟨"java/util/ArrayList", "<init>", "()V"⟩ : MethodName)) rfl hown (mvT hZ (hw _ (List.mem_of_getElem? (i := 17) rfl))) (mvT hZ (hw _ (List.mem_of_getElem? (i := 18) rfl))) (mvT hZ (hw _ (List.mem_of_getElem? (i := 19) rfl))) (by decide) (backOf (W := 2) (rmAL l Z a0 hw [] a22 h22 n0 Z22 w3 O22 S.1 A22 g_22 L22e L22m L22s) hZ (hw _ (List.mem_of_getElem? (i := 19) rfl)) (hw _ (List.mem_of_getElem? (i := 16) rfl)) (by decide) (by decide)) (g := (mkF m 9 #[.val (.ref pt)] [(.ref a22), (.ref a22), (.ref pt)])) rfl (by rw [hml]; rfl) (Steps.refl _) (a := a22) (argsL := []) (rest := [(.ref a22), (.ref pt)]) (lenOf pd_0 rfl) rfl (by show 2 * 0 + _ ≤ _; exact Nat.le_of_eq rfl) (hb hby d2_9) (fun _ _ => ⟨rfl, e22, (by decide : 1 + 0 ≤ _), (by decide : 3 + 0 ≤ _)⟩)
  dsimp only [Pt.U, Pt.locs, Pt.cells, Pt.slots] at X23 l23 y23 z23 st23 hQ23
  subst l23 y23 z23
  obtain ⟨rfl, N23, K23, H23e, H23d, H23m, H23s⟩ := hQ23
  have U22 : L0 Z T23.heap a22 0 w3 := ⟨H23e, H23m, H23s, H23d⟩
  have J23 : Keep h0 T23.heap [pt] := ((Keep.refl h0 [pt]).ext E22).trans K23 (allS (Or.inr (Nat.le_trans (show h0.size ≤ _ from (Keep.refl h0 [pt]).1) (Nat.le_of_eq g22.symm))) all0)
  have O23 := O22.keep K23 (allS g_22 all0)
  have Z23 : n0 ≤ T23.heap.size := Nat.le_trans Z22 K23.1
  have N_23 := Fr.app N0 N23
  have Ep23 := (B.ext E22).keep K23
  have Fp23_0 := (B1.ext E22).keep K23 (ninS nep22 nin0)
  have Fp23_1 := (B2.ext E22).keep K23 (ninS nep22 nin0)
  have Fp23_2 := (B3.ext E22).keep K23 (ninS nep22 nin0)
  obtain ⟨T24, h24, X24, e24, W24, st24⟩ := putF X23 hx hZ hown (host := "") (Or.inl (hw _ (List.mem_of_getElem? (i := 38) rfl))) Via.refl rfl Fp23_0 Ep23 (Or.inr ⟨(hw _ (List.mem_of_getElem? (i := 39) rfl)), rfl, hnm⟩) (hw _ (List.mem_of_getElem? (i := 6) rfl)) (ty := (.object "java/util/List")) (by decide) rfl rfl (g := (mkF m 12 #[.val (.ref pt)] [(.ref a22), (.ref pt)])) rfl rfl (hb hby d2_12)
  have J24 : Keep h0 h24 [pt] := J23.wr W24 (Or.inl (memS pt))
  have N_24 := Fr.snoc X24 N_23 gp
  have O24 := O23.wr W24 gp
  have Z24 : n0 ≤ h24.size := Nat.le_trans Z23 (Keep.of_wr W24).1
  have Fp24_0 := Fp23_0.same W24
  have Fp24_1 := Fp23_1.other W24 (Or.inr (slot_ne (Or.inr (hw _ (List.mem_of_getElem? (i := 41) rfl))) (Or.inr (hw _ (List.mem_of_getElem? (i := 39) rfl))) (by decide) (t := (.object "java/util/List")) (t' := (.object "java/util/List")) (by decide) (by decide)))
  have Fp24_2 := Fp23_2.other W24 (Or.inr (slot_ne (Or.inr (hw _ (List.mem_of_getElem? (i := 43) rfl))) (Or.inr (hw _ (List.mem_of_getElem? (i := 39) rfl))) (by decide) (t := (.object "java/util/List")) (t' := (.object "java/util/List")) (by decide) (by decide)))
  have Ep24 := Ep23.wr W24
  have U22_24 := U22.keep (Keep.of_wr W24) (ninS (Ne.symm nep22) nin0)
  obtain ⟨T32, h32, X32, e32, E32, A32, D32, -, st32⟩ := newO X24 hx hZ hown (hw _ (List.mem_of_getElem? (i := 14) rfl)) (hw _ (List.mem_of_getElem? (i := 15) rfl)) (hw _ (List.mem_of_getElem? (i := 16) rfl)) e24 (g := (mkF m 16 #[.val (.ref pt)] [(.ref pt)])) rfl (hb hby d2_16) (by decide) (by decide)
  obtain ⟨a32, g32⟩ : ∃ z, z = h24.size := ⟨_, rfl⟩
  rw [← g32] at A32 D32 st32
  have L32e := D32 (Or.inl (hw _ (List.mem_of_getElem? (i := 37) rfl))) (ty := (.array (.object "java/lang/Object"))) (by decide)
  have L32m := D32 (Or.inl (hw _ (List.mem_of_getElem? (i := 34) rfl))) (ty := .int) (by decide)
  have L32s := D32 (Or.inl (hw _ (List.mem_of_getElem? (i := 80) rfl))) (ty := .int) (by decide)
  have g_32 : n0 ≤ a32 := Nat.le_trans Z24 (Nat.le_of_eq g32.symm)
  have O32 := O24.ext E32
  have Z32 : n0 ≤ h32.size := Nat.le_trans Z24 E32.1
  have nep32 : pt ≠ a32 := Nat.ne_of_lt (Nat.lt_of_lt_of_le (Ep24).lt (Nat.le_of_eq g32.symm))
  have ne22_32 : a22 ≠ a32 := Nat.ne_of_lt (Nat.lt_of_lt_of_le (U22_24).1.lt (Nat.le_of_eq g32.symm))
  obtain ⟨_, _, ⟨T33, L33, k33, n33⟩, -, X33, ⟨Lc33, hQ33, l33, y33, z33⟩, st33⟩ := X32.specialBack hx (y := (⟨"java/util/ArrayList", "<init>", "()V"⟩ : MethodName)) rfl hown (mvT hZ (hw _ (List.mem_of_getElem? (i := 17) rfl))) (mvT hZ (hw _ (List.mem_of_getElem? (i := 18) rfl))) (mvT hZ (hw _ (List.mem_of_getElem? (i := 19) rfl))) (by decide) (backOf (W := 2) (rmAL l Z a0 hw [] a32 h32 n0 Z32 w3 O32 S.1 A32 g_32 L32e L32m L32s) hZ (hw _ (List.mem_of_getElem? (i := 19) rfl)) (hw _ (List.mem_of_getElem? (i := 16) rfl)) (by decide) (by decide)) (g := (mkF m 20 #[.val (.ref pt)] [(.ref a32), (.ref a32), (.ref pt)])) rfl (by rw [hml]; rfl) (Steps.refl _) (a := a32) (argsL := []) (rest := [(.ref a32), (.ref pt)]) (lenOf pd_0 rfl) rfl (by show 2 * 0 + _ ≤ _; exact Nat.le_of_eq rfl) (hb hby d2_20) (fun _ _ => ⟨rfl, e32, (by decide : 2 + 0 ≤ _), (by decide : 6 + 0 ≤ _)⟩)
  dsimp only [Pt.U, Pt.locs, Pt.cells, Pt.slots] at X33 l33 y33 z33 st33 hQ33
  subst l33 y33 z33
  obtain ⟨rfl, N33, K33, H33e, H33d, H33m, H33s⟩ := hQ33
  have U32 : L0 Z T33.heap a32 0 w3 := ⟨H33e, H33m, H33s, H33d⟩
  have J33 : Keep h0 T33.heap [pt] := (J24.ext E32).trans K33 (allS (Or.inr (Nat.le_trans (show h0.size ≤ _ from J24.1) (Nat.le_of_eq g32.symm))) all0)
  have O33 := O32.keep K33 (allS g_32 all0)
  have Z33 : n0 ≤ T33.heap.size := Nat.le_trans Z32 K33.1
  have N_33 := Fr.app N_24 N33
  have Ep33 := (Ep24.ext E32).keep K33
  have Fp33_0 := (Fp24_0.ext E32).keep K33 (ninS nep32 nin0)
  have Fp33_1 := (Fp24_1.ext E32).keep K33 (ninS nep32 nin0)
  have Fp33_2 := (Fp24_2.ext E32).keep K33 (ninS nep32 nin0)
  have U22_33 := (U22_24.ext E32).keep K33 (ninS ne22_32 nin0)
  obtain ⟨T34, h34, X34, e34, W34, st34⟩ := putF X33 hx hZ hown (host := "") (Or.inl (hw _ (List.mem_of_getElem? (i := 40) rfl))) Via.refl rfl Fp33_1 Ep33 (Or.inr ⟨(hw _ (List.mem_of_getElem? (i := 41) rfl)), rfl, hnm⟩) (hw _ (List.mem_of_getElem? (i := 6) rfl)) (ty := (.object "java/util/List")) (by decide) rfl rfl (g := (mkF m 23 #[.val (.ref pt)] [(.ref a32), (.ref pt)])) rfl rfl (hb hby d2_23)
  have J34 : Keep h0 h34 [pt] := J33.wr W34 (Or.inl (memS pt))
  have N_34 := Fr.snoc X34 N_33 gp
  have O34 := O33.wr W34 gp
  have Z34 : n0 ≤ h34.size := Nat.le_trans Z33 (Keep.of_wr W34).1
  have Fp34_0 := Fp33_0.other W34 (Or.inr (slot_ne (Or.inr (hw _ (List.mem_of_getElem? (i := 39) rfl))) (Or.inr (hw _ (List.mem_of_getElem? (i := 41) rfl))) (by decide) (t := (.object "java/util/List")) (t' := (.object "java/util/List")) (by decide) (by decide)))
  have Fp34_1 := Fp33_1.same W34
  have Fp34_2 := Fp33_2.other W34 (Or.inr (slot_ne (Or.inr (hw _ (List.mem_of_getElem? (i := 43) rfl))) (Or.inr (hw _ (List.mem_of_getElem? (i := 41) rfl))) (by decide) (t := (.object "java/util/List")) (t' := (.object "java/util/List")) (by decide) (by decide)))
  have Ep34 := Ep33.wr W34
  have U22_34 := U22_33.keep (Keep.of_wr W34) (ninS (Ne.symm nep22) nin0)
  have U32_34 := U32.keep (Keep.of_wr W34) (ninS (Ne.symm nep32) nin0)
  obtain ⟨T42, h42, X42, e42, E42, A42, D42, -, st42⟩ := newO X34 hx hZ hown (hw _ (List.mem_of_getElem? (i := 14) rfl)) (hw _ (List.mem_of_getElem? (i := 15) rfl)) (hw _ (List.mem_of_getElem? (i := 16) rfl)) e34 (g := (mkF m 27 #[.val (.ref pt)] [(.ref pt)])) rfl (hb hby d2_27) (by decide) (by decide)
  obtain ⟨a42, g42⟩ : ∃ z, z = h34.size := ⟨_, rfl⟩
  rw [← g42] at A42 D42 st42
  have L42e := D42 (Or.inl (hw _ (List.mem_of_getElem? (i := 37) rfl))) (ty := (.array (.object "java/lang/Object"))) (by decide)
  have L42m := D42 (Or.inl (hw _ (List.mem_of_getElem? (i := 34) rfl))) (ty := .int) (by decide)
  have L42s := D42 (Or.inl (hw _ (List.mem_of_getElem? (i := 80) rfl))) (ty := .int) (by decide)
  have g_42 : n0 ≤ a42 := Nat.le_trans Z34 (Nat.le_of_eq g42.symm)
  have O42 := O34.ext E42
  have Z42 : n0 ≤ h42.size := Nat.le_trans Z34 E42.1
  have nep42 : pt ≠ a42 := Nat.ne_of_lt (Nat.lt_of_lt_of_le (Ep34).lt (Nat.le_of_eq g42.symm))
  have ne22_42 : a22 ≠ a42 := Nat.ne_of_lt (Nat.lt_of_lt_of_le (U22_34).1.lt (Nat.le_of_eq g42.symm))
  have ne32_42 : a32 ≠ a42 := Nat.ne_of_lt (Nat.lt_of_lt_of_le (U32_34).1.lt (Nat.le_of_eq g42.symm))
  obtain ⟨_, _, ⟨T43, L43, k43, n43⟩, -, X43, ⟨Lc43, hQ43, l43, y43, z43⟩, st43⟩ := X42.specialBack hx (y := (⟨"java/util/ArrayList", "<init>", "()V"⟩ : MethodName)) rfl hown (mvT hZ (hw _ (List.mem_of_getElem? (i := 17) rfl))) (mvT hZ (hw _ (List.mem_of_getElem? (i := 18) rfl))) (mvT hZ (hw _ (List.mem_of_getElem? (i := 19) rfl))) (by decide) (backOf (W := 2) (rmAL l Z a0 hw [] a42 h42 n0 Z42 w3 O42 S.1 A42 g_42 L42e L42m L42s) hZ (hw _ (List.mem_of_getElem? (i := 19) rfl)) (hw _ (List.mem_of_getElem? (i := 16) rfl)) (by decide) (by decide)) (g := (mkF m 31 #[.val (.ref pt)] [(.ref a42), (.ref a42), (.ref pt)])) rfl (by rw [hml]; rfl) (Steps.refl _) (a := a42) (argsL := []) (rest := [(.ref a42), (.ref pt)]) (lenOf pd_0 rfl) rfl (by show 2 * 0 + _ ≤ _; exact Nat.le_of_eq rfl) (hb hby d2_31) (fun _ _ => ⟨rfl, e42, (by decide : 3 + 0 ≤ _), (by decide : 9 + 0 ≤ _)⟩)
  dsimp only [Pt.U, Pt.locs, Pt.cells, Pt.slots] at X43 l43 y43 z43 st43 hQ43
  subst l43 y43 z43
  obtain ⟨rfl, N43, K43, H43e, H43d, H43m, H43s⟩ := hQ43
  have U42 : L0 Z T43.heap a42 0 w3 := ⟨H43e, H43m, H43s, H43d⟩
  have J43 : Keep h0 T43.heap [pt] := (J34.ext E42).trans K43 (allS (Or.inr (Nat.le_trans (show h0.size ≤ _ from J34.1) (Nat.le_of_eq g42.symm))) all0)
  have O43 := O42.keep K43 (allS g_42 all0)
  have Z43 : n0 ≤ T43.heap.size := Nat.le_trans Z42 K43.1
  have N_43 := Fr.app N_34 N43
  have Ep43 := (Ep34.ext E42).keep K43
  have Fp43_0 := (Fp34_0.ext E42).keep K43 (ninS nep42 nin0)
  have Fp43_1 := (Fp34_1.ext E42).keep K43 (ninS nep42 nin0)
  have Fp43_2 := (Fp34_2.ext E42).keep K43 (ninS nep42 nin0)
  have U22_43 := (U22_34.ext E42).keep K43 (ninS ne22_42 nin0)
  have U32_43 := (U32_34.ext E42).keep K43 (ninS ne32_42 nin0)
  obtain ⟨T44, h44, X44, e44, W44, st44⟩ := putF X43 hx hZ hown (host := "") (Or.inl (hw _ (List.mem_of_getElem? (i := 42) rfl))) Via.refl rfl Fp43_2 Ep43 (Or.inr ⟨(hw _ (List.mem_of_getElem? (i := 43) rfl)), rfl, hnm⟩) (hw _ (List.mem_of_getElem? (i := 6) rfl)) (ty := (.object "java/util/List")) (by decide) rfl rfl (g := (mkF m 34 #[.val (.ref pt)] [(.ref a42), (.ref pt)])) rfl rfl (hb hby d2_34)
  have J44 : Keep h0 h44 [pt] := J43.wr W44 (Or.inl (memS pt))
  have N_44 := Fr.snoc X44 N_43 gp
  have O44 := O43.wr W44 gp
  have Z44 : n0 ≤ h44.size := Nat.le_trans Z43 (Keep.of_wr W44).1
  have Fp44_0 := Fp43_0.other W44 (Or.inr (slot_ne (Or.inr (hw _ (List.mem_of_getElem? (i := 39) rfl))) (Or.inr (hw _ (List.mem_of_getElem? (i := 43) rfl))) (by decide) (t := (.object "java/util/List")) (t' := (.object "java/util/List")) (by decide) (by decide)))
  have Fp44_1 := Fp43_1.other W44 (Or.inr (slot_ne (Or.inr (hw _ (List.mem_of_getElem? (i := 41) rfl))) (Or.inr (hw _ (List.mem_of_getElem? (i := 43) rfl))) (by decide) (t := (.object "java/util/List")) (t' := (.object "java/util/List")) (by decide) (by decide)))
  have Fp44_2 := Fp43_2.same W44
  have Ep44 := Ep43.wr W44
  have U22_44 := U22_43.keep (Keep.of_wr W44) (ninS (Ne.symm nep22) nin0)
  have U32_44 := U32_43.keep (Keep.of_wr W44) (ninS (Ne.symm nep32) nin0)
  have U42_44 := U42.keep (Keep.of_wr W44) (ninS (Ne.symm nep42) nin0)
  obtain ⟨fs, hr, hrun, hended, hW, hsame⟩ := X44.leave (v := none) (fun _ => rfl)
  refine ⟨_, _, pre0 _ ?_, hrun, hended, _, _, rfl, ?_, ⟨_, rfl⟩, hW, hsame.mono (by decide) (by decide)⟩
  · show Steps p.tables e below (s₁.setTop (mkF m 0 #[.val (.ref pt)] [])) _
    refine XS.aloadN X0.here hx rfl (hb hby d2_0) rfl rfl ?_
    show Steps p.tables e below (s₁.setTop (mkF m 1 #[.val (.ref pt)] [(.ref pt)])) _
    refine st1 _ ?_
    show Steps p.tables e below (T1.setTop (mkF m 4 #[.val (.ref pt)] [])) _
    refine XS.aloadN X1.here hx rfl (hb hby d2_4) rfl rfl ?_
    show Steps p.tables e below (T1.setTop (mkF m 5 #[.val (.ref pt)] [(.ref pt)])) _
    refine st22 _ ?_
    show Steps p.tables e below (T22.setTop (mkF m 8 #[.val (.ref pt)] [(.ref a22), (.ref pt)])) _
    refine XS.dup X22.here hx rfl (hb hby d2_8) rfl rfl ?_
    show Steps p.tables e below (T22.setTop (mkF m 9 #[.val (.ref pt)] [(.ref a22), (.ref a22), (.ref pt)])) _
    refine st23.trans ?_
    show Steps p.tables e below (T23.setTop (mkF m 12 #[.val (.ref pt)] [(.ref a22), (.ref pt)])) _
    refine st24 _ ?_
    show Steps p.tables e below (T24.setTop (mkF m 15 #[.val (.ref pt)] [])) _
    refine XS.aloadN X24.here hx rfl (hb hby d2_15) rfl rfl ?_
    show Steps p.tables e below (T24.setTop (mkF m 16 #[.val (.ref pt)] [(.ref pt)])) _
    refine st32 _ ?_
    show Steps p.tables e below (T32.setTop (mkF m 19 #[.val (.ref pt)] [(.ref a32), (.ref pt)])) _
    refine XS.dup X32.here hx rfl (hb hby d2_19) rfl rfl ?_
    show Steps p.tables e below (T32.setTop (mkF m 20 #[.val (.ref pt)] [(.ref a32), (.ref a32), (.ref pt)])) _
    refine st33.trans ?_
    show Steps p.tables e below (T33.setTop (mkF m 23 #[.val (.ref pt)] [(.ref a32), (.ref pt)])) _
    refine st34 _ ?_
    show Steps p.tables e below (T34.setTop (mkF m 26 #[.val (.ref pt)] [])) _
    refine XS.aloadN X34.here hx rfl (hb hby d2_26) rfl rfl ?_
    show Steps p.tables e below (T34.setTop (mkF m 27 #[.val (.ref pt)] [(.ref pt)])) _
    refine st42 _ ?_
    show Steps p.tables e below (T42.setTop (mkF m 30 #[.val (.ref pt)] [(.ref a42), (.ref pt)])) _
    refine XS.dup X42.here hx rfl (hb hby d2_30) rfl rfl ?_
    show Steps p.tables e below (T42.setTop (mkF m 31 #[.val (.ref pt)] [(.ref a42), (.ref a42), (.ref pt)])) _
    refine st43.trans ?_
    show Steps p.tables e below (T43.setTop (mkF m 34 #[.val (.ref pt)] [(.ref a42), (.ref pt)])) _
    refine st44 _ ?_
    show Steps p.tables e below (T44.setTop (mkF m 37 #[.val (.ref pt)] [])) _
    exact X44.returnOut hx Bd.returns (hb hby d2_37) hr
  · show QPi Z pt w3 h0 n0 _ T44.heap _
    rw [e44]
    exact ⟨rfl, N_44, J44, a22, a32, a42, ⟨Ep44, Fp44_0, Fp44_1, Fp44_2⟩, U22_44, U32_44, U42_44, ne22_32, ne22_42, ne32_42, g_22, g_32, g_42⟩
def QA1 (Z : State) (pt la lb lc : Addr) (w : UInt64) (h0 : Heap) (n0 : Nat) (v : Option Value) (h : Heap) (L : List Loc) : Prop := v = none ∧ Fr n0 L ∧ Keep h0 h [la, lb, lc] ∧ ∃ ta tb tc b, P1 Z h n0 pt la lb lc ta tb tc (0 + 1) ((List.replicate 10 .null).set 0 (.ref b)) ∧ Bx Z h b w
theorem ef_rmP1 (m : MethodId) (pt : Addr) (v1 : Int64) (v2 : Int64) : entryFrame m #[(.ref pt), (.long v1), (.long v2)] 5 = mkF m 0 #[.val (.ref pt), .val (.long v1), .second, .val (.long v2), .second] [] := by first | (simp [entryFrame, mkF, argsToLocals, Value.category]; done) | rfl
set_option maxRecDepth 65536 in
set_option maxHeartbeats 40000000 in
theorem rmP1 (l : Launch) (Z : State) (a0 : Array Value) (hw : ∀ d ∈ tables_1, d.before a0 Z = true) (ws : List Jvm.Cond) (pt : Addr) (v1 : Int64) (v2 : Int64) (h0 : Heap) (n0 : Nat) (Z0 : n0 ≤ h0.size) (la lb lc w3 : Addr) (O : Old Z n0 h0) (S : EA Z w3) (B : P0 Z h0 n0 pt la lb lc w3) (hn : Jvm.Free.Fl.NoNaN64 (FP.ddiv (FP.l2d v1) (FP.l2d v2))) :
    MetFree l (⟨"com/example/quadwarden/quadwarden/cli/PairedTimings", "add", "(JJ)V"⟩ : MethodName) (head1 (Jvm.Cond.code (⟨"com/example/quadwarden/quadwarden/cli/PairedTimings", "add", "(JJ)V"⟩ : MethodName) prog_5_method_2_code 5 none :: ws) ({ frames := 5, cells := 6, slots := 33, locals := 80 } : Room)) (fun a_ U_ => a_ = #[(.ref pt), (.long v1), (.long v2)] ∧ Z.Warmed39 U_.vm ∧ U_.heap = h0) (fun _ _ _ _ _ => True) (fun _ U_ o_ V_ => ∃ v_ L_, o_ = .returned v_ ∧ QA1 Z pt la lb lc (FP.ddiv (FP.l2d v1) (FP.l2d v2)) h0 n0 v_ V_.heap L_ ∧ FrameEnd U_ o_ V_ L_ ({ frames := 5, cells := 6, slots := 33, locals := 80 } : Room).cells ({ frames := 5, cells := 6, slots := 33, locals := 80 } : Room).slots) := by
  refine MetFree.of_bodySF (plainFor_of_name pn_5) hisR ?_
  intro p e s m args below meth c s₁ Bd hml0 hP hK
  obtain ⟨rfl, hZ, hh⟩ := hP
  have hx := Bd.exec
  have hby := Bd.bytes
  have hml : c.maxLocals = 5 := hml0
  have hown : s.vm.findClass "com/example/quadwarden/quadwarden/cli/PairedTimings" = some m.cls := findClass_of_methodNamed Bd.named
  have hnm := (name_of_methodNamed Bd.named Bd.method).1
  have X0 : Stand p l e ({ frames := 5, cells := 6, slots := 33, locals := 80 } : Room) s m #[(.ref pt), (.long v1), (.long v2)] below meth c s₁ [] 0 0 := Stand.of_body Bd
  have e0 : s₁.heap = h0 := by rw [← hh, Bd.state]; rfl
  have N0 := Fr.nil n0
  have pre0 : ∀ t_1, Steps p.tables e below (s₁.setTop (mkF m 0 #[.val (.ref pt), .val (.long v1), .second, .val (.long v2), .second] [])) t_1 → Steps p.tables e below (s₁.setTop (entryFrame m #[(.ref pt), (.long v1), (.long v2)] 5)) t_1 := fun t_ k_ => castTop (ef_rmP1 m pt v1 v2) k_
  obtain ⟨B0, B1, B2, B3, n12, n13, n23, g1_, g2_, g3_⟩ := B
  have o80 : pt ≠ la := B0.1.ne B1.1 (by decide)
  have o81 : pt ≠ lb := B0.1.ne B2.1 (by decide)
  have o82 : pt ≠ lc := B0.1.ne B3.1 (by decide)
  obtain ⟨T11, X11, e11, st11⟩ := getF X0 hx hZ hown (host := "") (Or.inl (hw _ (List.mem_of_getElem? (i := 38) rfl))) Via.refl e0 B0.2.1 (g := (mkF m 1 #[.val (.ref pt), .val (.long v1), .second, .val (.long v2), .second] [(.ref pt)])) rfl rfl (hb hby d7_1)
  obtain ⟨_, _, ⟨T12, L12, k12, n12⟩, -, X12, ⟨Lc12, hQ12, l12, y12, z12⟩, st12⟩ := Jvm.LawKit.callS X11 hx (y := (⟨"java/lang/Double", "valueOf", "(D)Ljava/lang/Double;"⟩ : MethodName)) hown (mvT hZ (hw _ (List.mem_of_getElem? (i := 49) rfl))) (mvT hZ (hw _ (List.mem_of_getElem? (i := 50) rfl))) (mvT hZ (hw _ (List.mem_of_getElem? (i := 51) rfl))) (mvT hZ (hw _ (List.mem_of_getElem? (i := 52) rfl))) (by decide) (backOf (W := 1) (rmBv l Z a0 hw [] (FP.l2d v1) h0 n0 Z0) hZ (hw _ (List.mem_of_getElem? (i := 52) rfl)) (hw _ (List.mem_of_getElem? (i := 51) rfl)) (by decide) (by decide)) (g := (mkF m 6 #[.val (.ref pt), .val (.long v1), .second, .val (.long v2), .second] [(.double (FP.l2d v1)), (.ref la)])) rfl (by rw [hml]; rfl) (argsL := [(.double (FP.l2d v1))]) (rest := [(.ref la)]) (lenOf pd_6 rfl) rfl (by show 2 * 0 + _ ≤ _; exact Nat.le_of_eq rfl) (hb hby d7_6) (fun _ _ => ⟨rfl, e11, (by decide : 0 + 1 ≤ _), (by decide : 0 + 1 ≤ _)⟩)
  dsimp only [Pt.U, Pt.locs, Pt.cells, Pt.slots] at X12 l12 y12 z12 st12 hQ12
  subst l12 y12 z12
  obtain ⟨b0, rfl, N12, K12, X_0, s_0⟩ := hQ12
  have J12 := (Keep.refl h0 [la, lb, lc]).trans K12 all0
  have la_1 := B1.keep K12 nin0
  have lb_1 := B2.keep K12 nin0
  have lc_1 := B3.keep K12 nin0
  have P_1 := B0.keep K12 nin0
  have Z12 : n0 ≤ T12.heap.size := Nat.le_trans Z0 K12.1
  have O12 := O.keep K12 all0
  have ob00 : b0 ≠ la := X_0.1.ne la_1.1 (by decide)
  have ob01 : b0 ≠ lb := X_0.1.ne lb_1.1 (by decide)
  have ob02 : b0 ≠ lc := X_0.1.ne lc_1.1 (by decide)
  obtain ⟨cq13, kq13, q13a, q13b, q13c⟩ := isOf hZ rfl la_1.1
  obtain ⟨_, _, ⟨T13, L13, k13, n13⟩, -, X13, ⟨Lc13, hQ13, l13, y13, z13⟩, st13⟩ := X12.interfaceBack hx (xi := (⟨"java/util/List", "add", "(Ljava/lang/Object;)Z"⟩ : MethodName)) (y := (⟨"java/util/ArrayList", "add", "(Ljava/lang/Object;)Z"⟩ : MethodName)) hown (mvT hZ (hw _ (List.mem_of_getElem? (i := 68) rfl))) (mvT hZ (hw _ (List.mem_of_getElem? (i := 69) rfl))) (mvT hZ (hw _ (List.mem_of_getElem? (i := 70) rfl))) (mvT hZ (hw _ (List.mem_of_getElem? (i := 71) rfl))) (mvT hZ (hw _ (List.mem_of_getElem? (i := 72) rfl))) (mvT hZ (hw _ (List.mem_of_getElem? (i := 73) rfl))) (mvT hZ (hw _ (List.mem_of_getElem? (i := 74) rfl))) (mvT hZ (hw _ (List.mem_of_getElem? (i := 75) rfl))) (by decide) (backOf (W := 0) (rmAf l Z a0 hw [] la b0 T12.heap n0 Z12 w3 O12 S g1_ la_1 X_0.1) hZ (hw _ (List.mem_of_getElem? (i := 76) rfl)) (hw _ (List.mem_of_getElem? (i := 16) rfl)) (by decide) (by decide)) q13a q13b q13c (g := (mkF m 9 #[.val (.ref pt), .val (.long v1), .second, .val (.long v2), .second] [(.ref b0), (.ref la)])) rfl (by rw [hml]; rfl) (Steps.refl _) (argsL := [(.ref b0)]) (rest := []) (lenOf pd_7 rfl) rfl (by show 2 * 0 + _ ≤ _; exact Nat.le_of_eq rfl) (hb hby d7_9) (fun _ _ => ⟨rfl, rfl, (by decide : 1 + 1 ≤ _), (by decide : 1 + 10 ≤ _)⟩)
  dsimp only [Pt.U, Pt.locs, Pt.cells, Pt.slots] at X13 l13 y13 z13 st13 hQ13
  subst l13 y13 z13
  obtain ⟨rfl, N13, ta, K13, R13, s13⟩ := hQ13
  have O13 := O12.keep K13 (allS g1_ all0)
  have J13 := J12.trans K13 (allS (Or.inl (List.mem_of_getElem? (i := 0) rfl)) all0)
  have Z13 : n0 ≤ T13.heap.size := Nat.le_trans Z12 K13.1
  have N_13 := Fr.app (Fr.app N0 N12) N13
  have u1_ : n0 ≤ ta := Nat.le_trans Z12 s13
  have lb_2 := lb_1.keep K13 (ninS (Ne.symm n12) nin0)
  have lc_2 := lc_1.keep K13 (ninS (Ne.symm n13) nin0)
  have P_2 := P_1.keep K13 (ninS o80 nin0)
  have X_2 := X_0.keep K13 (ninS ob00 nin0)
  have o00 : la ≠ ta := R13.2.2.2.2.ne R13.1 (hw _ (List.mem_of_getElem? (i := 15) rfl))
  have o10 : lb ≠ ta := R13.2.2.2.2.ne lb_2.1 (hw _ (List.mem_of_getElem? (i := 15) rfl))
  have o20 : lc ≠ ta := R13.2.2.2.2.ne lc_2.1 (hw _ (List.mem_of_getElem? (i := 15) rfl))
  have o90 : pt ≠ ta := R13.2.2.2.2.ne P_2.1 (hw _ (List.mem_of_getElem? (i := 6) rfl))
  obtain ⟨T21, X21, e21, st21⟩ := getF X13 hx hZ hown (host := "") (Or.inl (hw _ (List.mem_of_getElem? (i := 40) rfl))) Via.refl rfl P_2.2.2.1 (g := (mkF m 16 #[.val (.ref pt), .val (.long v1), .second, .val (.long v2), .second] [(.ref pt)])) rfl rfl (hb hby d7_16)
  obtain ⟨_, _, ⟨T22, L22, k22, n22⟩, -, X22, ⟨Lc22, hQ22, l22, y22, z22⟩, st22⟩ := Jvm.LawKit.callS X21 hx (y := (⟨"java/lang/Double", "valueOf", "(D)Ljava/lang/Double;"⟩ : MethodName)) hown (mvT hZ (hw _ (List.mem_of_getElem? (i := 49) rfl))) (mvT hZ (hw _ (List.mem_of_getElem? (i := 50) rfl))) (mvT hZ (hw _ (List.mem_of_getElem? (i := 51) rfl))) (mvT hZ (hw _ (List.mem_of_getElem? (i := 52) rfl))) (by decide) (backOf (W := 1) (rmBv l Z a0 hw [] (FP.l2d v2) T13.heap n0 Z13) hZ (hw _ (List.mem_of_getElem? (i := 52) rfl)) (hw _ (List.mem_of_getElem? (i := 51) rfl)) (by decide) (by decide)) (g := (mkF m 21 #[.val (.ref pt), .val (.long v1), .second, .val (.long v2), .second] [(.double (FP.l2d v2)), (.ref lb)])) rfl (by rw [hml]; rfl) (argsL := [(.double (FP.l2d v2))]) (rest := [(.ref lb)]) (lenOf pd_6 rfl) rfl (by show 2 * 0 + _ ≤ _; exact Nat.le_of_eq rfl) (hb hby d7_21) (fun _ _ => ⟨rfl, e21, (by decide : 2 + 1 ≤ _), (by decide : 11 + 1 ≤ _)⟩)
  dsimp only [Pt.U, Pt.locs, Pt.cells, Pt.slots] at X22 l22 y22 z22 st22 hQ22
  subst l22 y22 z22
  obtain ⟨b1, rfl, N22, K22, X_1, s_1⟩ := hQ22
  have J22 := J13.trans K22 all0
  have lb_3 := lb_2.keep K22 nin0
  have lc_3 := lc_2.keep K22 nin0
  have P_3 := P_2.keep K22 nin0
  have X_3 := X_2.keep K22 nin0
  have la_3 := R13.keep K22 nin0 nin0
  have Z22 : n0 ≤ T22.heap.size := Nat.le_trans Z13 K22.1
  have O22 := O13.keep K22 all0
  have ob10 : b1 ≠ la := X_1.1.ne la_3.1 (by decide)
  have ob11 : b1 ≠ lb := X_1.1.ne lb_3.1 (by decide)
  have ob12 : b1 ≠ lc := X_1.1.ne lc_3.1 (by decide)
  obtain ⟨cq23, kq23, q23a, q23b, q23c⟩ := isOf hZ rfl lb_3.1
  obtain ⟨_, _, ⟨T23, L23, k23, n23⟩, -, X23, ⟨Lc23, hQ23, l23, y23, z23⟩, st23⟩ := X22.interfaceBack hx (xi := (⟨"java/util/List", "add", "(Ljava/lang/Object;)Z"⟩ : MethodName)) (y := (⟨"java/util/ArrayList", "add", "(Ljava/lang/Object;)Z"⟩ : MethodName)) hown (mvT hZ (hw _ (List.mem_of_getElem? (i := 68) rfl))) (mvT hZ (hw _ (List.mem_of_getElem? (i := 69) rfl))) (mvT hZ (hw _ (List.mem_of_getElem? (i := 70) rfl))) (mvT hZ (hw _ (List.mem_of_getElem? (i := 71) rfl))) (mvT hZ (hw _ (List.mem_of_getElem? (i := 72) rfl))) (mvT hZ (hw _ (List.mem_of_getElem? (i := 73) rfl))) (mvT hZ (hw _ (List.mem_of_getElem? (i := 74) rfl))) (mvT hZ (hw _ (List.mem_of_getElem? (i := 75) rfl))) (by decide) (backOf (W := 0) (rmAf l Z a0 hw [] lb b1 T22.heap n0 Z22 w3 O22 S g2_ lb_3 X_1.1) hZ (hw _ (List.mem_of_getElem? (i := 76) rfl)) (hw _ (List.mem_of_getElem? (i := 16) rfl)) (by decide) (by decide)) q23a q23b q23c (g := (mkF m 24 #[.val (.ref pt), .val (.long v1), .second, .val (.long v2), .second] [(.ref b1), (.ref lb)])) rfl (by rw [hml]; rfl) (Steps.refl _) (argsL := [(.ref b1)]) (rest := []) (lenOf pd_7 rfl) rfl (by show 2 * 0 + _ ≤ _; exact Nat.le_of_eq rfl) (hb hby d7_24) (fun _ _ => ⟨rfl, rfl, (by decide : 3 + 1 ≤ _), (by decide : 12 + 10 ≤ _)⟩)
  dsimp only [Pt.U, Pt.locs, Pt.cells, Pt.slots] at X23 l23 y23 z23 st23 hQ23
  subst l23 y23 z23
  obtain ⟨rfl, N23, tb, K23, R23, s23⟩ := hQ23
  have O23 := O22.keep K23 (allS g2_ all0)
  have J23 := J22.trans K23 (allS (Or.inl (List.mem_of_getElem? (i := 1) rfl)) all0)
  have Z23 : n0 ≤ T23.heap.size := Nat.le_trans Z22 K23.1
  have N_23 := Fr.app (Fr.app N_13 N22) N23
  have u2_ : n0 ≤ tb := Nat.le_trans Z22 s23
  have m12 : ta ≠ tb := Nat.ne_of_lt (Nat.lt_of_lt_of_le la_3.2.2.2.2.lt s23)
  have lc_4 := lc_3.keep K23 (ninS (Ne.symm n23) nin0)
  have P_4 := P_3.keep K23 (ninS o81 nin0)
  have X_4 := X_1.keep K23 (ninS ob11 nin0)
  have la_4 := la_3.keep K23 (ninS n12 nin0) (ninS (Ne.symm o10) nin0)
  have o01 : la ≠ tb := R23.2.2.2.2.ne la_4.1 (hw _ (List.mem_of_getElem? (i := 15) rfl))
  have o11 : lb ≠ tb := R23.2.2.2.2.ne R23.1 (hw _ (List.mem_of_getElem? (i := 15) rfl))
  have o21 : lc ≠ tb := R23.2.2.2.2.ne lc_4.1 (hw _ (List.mem_of_getElem? (i := 15) rfl))
  have o91 : pt ≠ tb := R23.2.2.2.2.ne P_4.1 (hw _ (List.mem_of_getElem? (i := 6) rfl))
  obtain ⟨T31, X31, e31, st31⟩ := getF X23 hx hZ hown (host := "") (Or.inl (hw _ (List.mem_of_getElem? (i := 42) rfl))) Via.refl rfl P_4.2.2.2 (g := (mkF m 31 #[.val (.ref pt), .val (.long v1), .second, .val (.long v2), .second] [(.ref pt)])) rfl rfl (hb hby d7_31)
  obtain ⟨_, _, ⟨T32, L32, k32, n32⟩, -, X32, ⟨Lc32, hQ32, l32, y32, z32⟩, st32⟩ := Jvm.LawKit.callS X31 hx (y := (⟨"java/lang/Double", "valueOf", "(D)Ljava/lang/Double;"⟩ : MethodName)) hown (mvT hZ (hw _ (List.mem_of_getElem? (i := 49) rfl))) (mvT hZ (hw _ (List.mem_of_getElem? (i := 50) rfl))) (mvT hZ (hw _ (List.mem_of_getElem? (i := 51) rfl))) (mvT hZ (hw _ (List.mem_of_getElem? (i := 52) rfl))) (by decide) (backOf (W := 1) (rmBv l Z a0 hw [] (FP.ddiv (FP.l2d v1) (FP.l2d v2)) T23.heap n0 Z23) hZ (hw _ (List.mem_of_getElem? (i := 52) rfl)) (hw _ (List.mem_of_getElem? (i := 51) rfl)) (by decide) (by decide)) (g := (mkF m 39 #[.val (.ref pt), .val (.long v1), .second, .val (.long v2), .second] [(.double (FP.ddiv (FP.l2d v1) (FP.l2d v2))), (.ref lc)])) rfl (by rw [hml]; rfl) (argsL := [(.double (FP.ddiv (FP.l2d v1) (FP.l2d v2)))]) (rest := [(.ref lc)]) (lenOf pd_6 rfl) rfl (by show 2 * 0 + _ ≤ _; exact Nat.le_of_eq rfl) (hb hby d7_39) (fun _ _ => ⟨rfl, e31, (by decide : 4 + 1 ≤ _), (by decide : 22 + 1 ≤ _)⟩)
  dsimp only [Pt.U, Pt.locs, Pt.cells, Pt.slots] at X32 l32 y32 z32 st32 hQ32
  subst l32 y32 z32
  obtain ⟨b2, rfl, N32, K32, X_2, s_2⟩ := hQ32
  have J32 := J23.trans K32 all0
  have lc_5 := lc_4.keep K32 nin0
  have P_5 := P_4.keep K32 nin0
  have X_5 := X_4.keep K32 nin0
  have la_5 := la_4.keep K32 nin0 nin0
  have lb_5 := R23.keep K32 nin0 nin0
  have Z32 : n0 ≤ T32.heap.size := Nat.le_trans Z23 K32.1
  have O32 := O23.keep K32 all0
  have ob20 : b2 ≠ la := X_2.1.ne la_5.1 (by decide)
  have ob21 : b2 ≠ lb := X_2.1.ne lb_5.1 (by decide)
  have ob22 : b2 ≠ lc := X_2.1.ne lc_5.1 (by decide)
  obtain ⟨cq33, kq33, q33a, q33b, q33c⟩ := isOf hZ rfl lc_5.1
  obtain ⟨_, _, ⟨T33, L33, k33, n33⟩, -, X33, ⟨Lc33, hQ33, l33, y33, z33⟩, st33⟩ := X32.interfaceBack hx (xi := (⟨"java/util/List", "add", "(Ljava/lang/Object;)Z"⟩ : MethodName)) (y := (⟨"java/util/ArrayList", "add", "(Ljava/lang/Object;)Z"⟩ : MethodName)) hown (mvT hZ (hw _ (List.mem_of_getElem? (i := 68) rfl))) (mvT hZ (hw _ (List.mem_of_getElem? (i := 69) rfl))) (mvT hZ (hw _ (List.mem_of_getElem? (i := 70) rfl))) (mvT hZ (hw _ (List.mem_of_getElem? (i := 71) rfl))) (mvT hZ (hw _ (List.mem_of_getElem? (i := 72) rfl))) (mvT hZ (hw _ (List.mem_of_getElem? (i := 73) rfl))) (mvT hZ (hw _ (List.mem_of_getElem? (i := 74) rfl))) (mvT hZ (hw _ (List.mem_of_getElem? (i := 75) rfl))) (by decide) (backOf (W := 0) (rmAf l Z a0 hw [] lc b2 T32.heap n0 Z32 w3 O32 S g3_ lc_5 X_2.1) hZ (hw _ (List.mem_of_getElem? (i := 76) rfl)) (hw _ (List.mem_of_getElem? (i := 16) rfl)) (by decide) (by decide)) q33a q33b q33c (g := (mkF m 42 #[.val (.ref pt), .val (.long v1), .second, .val (.long v2), .second] [(.ref b2), (.ref lc)])) rfl (by rw [hml]; rfl) (Steps.refl _) (argsL := [(.ref b2)]) (rest := []) (lenOf pd_7 rfl) rfl (by show 2 * 0 + _ ≤ _; exact Nat.le_of_eq rfl) (hb hby d7_42) (fun _ _ => ⟨rfl, rfl, (by decide : 5 + 1 ≤ _), (by decide : 23 + 10 ≤ _)⟩)
  dsimp only [Pt.U, Pt.locs, Pt.cells, Pt.slots] at X33 l33 y33 z33 st33 hQ33
  subst l33 y33 z33
  obtain ⟨rfl, N33, tc, K33, R33, s33⟩ := hQ33
  have O33 := O32.keep K33 (allS g3_ all0)
  have J33 := J32.trans K33 (allS (Or.inl (List.mem_of_getElem? (i := 2) rfl)) all0)
  have Z33 : n0 ≤ T33.heap.size := Nat.le_trans Z32 K33.1
  have N_33 := Fr.app (Fr.app N_23 N32) N33
  have u3_ : n0 ≤ tc := Nat.le_trans Z32 s33
  have m13 : ta ≠ tc := Nat.ne_of_lt (Nat.lt_of_lt_of_le la_5.2.2.2.2.lt s33)
  have m23 : tb ≠ tc := Nat.ne_of_lt (Nat.lt_of_lt_of_le lb_5.2.2.2.2.lt s33)
  have P_6 := P_5.keep K33 (ninS o82 nin0)
  have X_6 := X_2.keep K33 (ninS ob22 nin0)
  have la_6 := la_5.keep K33 (ninS n13 nin0) (ninS (Ne.symm o20) nin0)
  have lb_6 := lb_5.keep K33 (ninS n23 nin0) (ninS (Ne.symm o21) nin0)
  have o02 : la ≠ tc := R33.2.2.2.2.ne la_6.1 (hw _ (List.mem_of_getElem? (i := 15) rfl))
  have o12 : lb ≠ tc := R33.2.2.2.2.ne lb_6.1 (hw _ (List.mem_of_getElem? (i := 15) rfl))
  have o22 : lc ≠ tc := R33.2.2.2.2.ne R33.1 (hw _ (List.mem_of_getElem? (i := 15) rfl))
  have o92 : pt ≠ tc := R33.2.2.2.2.ne P_6.1 (hw _ (List.mem_of_getElem? (i := 6) rfl))
  obtain ⟨fs, hr, hrun, hended, hW, hsame⟩ := X33.leave (v := none) (fun _ => rfl)
  refine ⟨_, _, pre0 _ ?_, hrun, hended, _, _, rfl, ?_, ⟨_, rfl⟩, hW, hsame.mono (by decide) (by decide)⟩
  · show Steps p.tables e below (s₁.setTop (mkF m 0 #[.val (.ref pt), .val (.long v1), .second, .val (.long v2), .second] [])) _
    refine XS.aloadN X0.here hx rfl (hb hby d7_0) rfl rfl ?_
    show Steps p.tables e below (s₁.setTop (mkF m 1 #[.val (.ref pt), .val (.long v1), .second, .val (.long v2), .second] [(.ref pt)])) _
    refine st11 _ ?_
    show Steps p.tables e below (T11.setTop (mkF m 4 #[.val (.ref pt), .val (.long v1), .second, .val (.long v2), .second] [(.ref la)])) _
    refine XS.lloadN X11.here hx rfl (hb hby d7_4) rfl ?_
    show Steps p.tables e below (T11.setTop (mkF m 5 #[.val (.ref pt), .val (.long v1), .second, .val (.long v2), .second] [(.long v1), (.ref la)])) _
    refine XS.l2dS X11.here hx rfl (hb hby d7_5) rfl (v := FP.l2d v1) rfl ?_
    show Steps p.tables e below (T11.setTop (mkF m 6 #[.val (.ref pt), .val (.long v1), .second, .val (.long v2), .second] [(.double (FP.l2d v1)), (.ref la)])) _
    refine st12 _ ?_
    show Steps p.tables e below (T12.setTop (mkF m 9 #[.val (.ref pt), .val (.long v1), .second, .val (.long v2), .second] [(.ref b0), (.ref la)])) _
    refine st13.trans ?_
    show Steps p.tables e below (T13.setTop (mkF m 14 #[.val (.ref pt), .val (.long v1), .second, .val (.long v2), .second] [(.int (1 : Int32))])) _
    refine XS.pop X13.here hx rfl (hb hby d7_14) rfl rfl ?_
    show Steps p.tables e below (T13.setTop (mkF m 15 #[.val (.ref pt), .val (.long v1), .second, .val (.long v2), .second] [])) _
    refine XS.aloadN X13.here hx rfl (hb hby d7_15) rfl rfl ?_
    show Steps p.tables e below (T13.setTop (mkF m 16 #[.val (.ref pt), .val (.long v1), .second, .val (.long v2), .second] [(.ref pt)])) _
    refine st21 _ ?_
    show Steps p.tables e below (T21.setTop (mkF m 19 #[.val (.ref pt), .val (.long v1), .second, .val (.long v2), .second] [(.ref lb)])) _
    refine XS.lloadN X21.here hx rfl (hb hby d7_19) rfl ?_
    show Steps p.tables e below (T21.setTop (mkF m 20 #[.val (.ref pt), .val (.long v1), .second, .val (.long v2), .second] [(.long v2), (.ref lb)])) _
    refine XS.l2dS X21.here hx rfl (hb hby d7_20) rfl (v := FP.l2d v2) rfl ?_
    show Steps p.tables e below (T21.setTop (mkF m 21 #[.val (.ref pt), .val (.long v1), .second, .val (.long v2), .second] [(.double (FP.l2d v2)), (.ref lb)])) _
    refine st22 _ ?_
    show Steps p.tables e below (T22.setTop (mkF m 24 #[.val (.ref pt), .val (.long v1), .second, .val (.long v2), .second] [(.ref b1), (.ref lb)])) _
    refine st23.trans ?_
    show Steps p.tables e below (T23.setTop (mkF m 29 #[.val (.ref pt), .val (.long v1), .second, .val (.long v2), .second] [(.int (1 : Int32))])) _
    refine XS.pop X23.here hx rfl (hb hby d7_29) rfl rfl ?_
    show Steps p.tables e below (T23.setTop (mkF m 30 #[.val (.ref pt), .val (.long v1), .second, .val (.long v2), .second] [])) _
    refine XS.aloadN X23.here hx rfl (hb hby d7_30) rfl rfl ?_
    show Steps p.tables e below (T23.setTop (mkF m 31 #[.val (.ref pt), .val (.long v1), .second, .val (.long v2), .second] [(.ref pt)])) _
    refine st31 _ ?_
    show Steps p.tables e below (T31.setTop (mkF m 34 #[.val (.ref pt), .val (.long v1), .second, .val (.long v2), .second] [(.ref lc)])) _
    refine XS.lloadN X31.here hx rfl (hb hby d7_34) rfl ?_
    show Steps p.tables e below (T31.setTop (mkF m 35 #[.val (.ref pt), .val (.long v1), .second, .val (.long v2), .second] [(.long v1), (.ref lc)])) _
    refine XS.l2dS X31.here hx rfl (hb hby d7_35) rfl (v := FP.l2d v1) rfl ?_
    show Steps p.tables e below (T31.setTop (mkF m 36 #[.val (.ref pt), .val (.long v1), .second, .val (.long v2), .second] [(.double (FP.l2d v1)), (.ref lc)])) _
    refine XS.lloadN X31.here hx rfl (hb hby d7_36) rfl ?_
    show Steps p.tables e below (T31.setTop (mkF m 37 #[.val (.ref pt), .val (.long v1), .second, .val (.long v2), .second] [(.long v2), (.double (FP.l2d v1)), (.ref lc)])) _
    refine XS.l2dS X31.here hx rfl (hb hby d7_37) rfl (v := FP.l2d v2) rfl ?_
    show Steps p.tables e below (T31.setTop (mkF m 38 #[.val (.ref pt), .val (.long v1), .second, .val (.long v2), .second] [(.double (FP.l2d v2)), (.double (FP.l2d v1)), (.ref lc)])) _
    refine XS.ddivS X31.here hx rfl (hb hby d7_38) rfl hn (v := FP.ddiv (FP.l2d v1) (FP.l2d v2)) rfl ?_
    show Steps p.tables e below (T31.setTop (mkF m 39 #[.val (.ref pt), .val (.long v1), .second, .val (.long v2), .second] [(.double (FP.ddiv (FP.l2d v1) (FP.l2d v2))), (.ref lc)])) _
    refine st32 _ ?_
    show Steps p.tables e below (T32.setTop (mkF m 42 #[.val (.ref pt), .val (.long v1), .second, .val (.long v2), .second] [(.ref b2), (.ref lc)])) _
    refine st33.trans ?_
    show Steps p.tables e below (T33.setTop (mkF m 47 #[.val (.ref pt), .val (.long v1), .second, .val (.long v2), .second] [(.int (1 : Int32))])) _
    refine XS.pop X33.here hx rfl (hb hby d7_47) rfl rfl ?_
    show Steps p.tables e below (T33.setTop (mkF m 48 #[.val (.ref pt), .val (.long v1), .second, .val (.long v2), .second] [])) _
    exact X33.returnOut hx Bd.returns (hb hby d7_48) hr
  · show QA1 Z pt la lb lc (FP.ddiv (FP.l2d v1) (FP.l2d v2)) h0 n0 _ T33.heap _
    exact ⟨rfl, N_33, J33, ta, tb, tc, b2, ⟨P_6, ⟨_, la_6⟩, ⟨_, lb_6⟩, R33, ⟨n12, n13, n23⟩, ⟨m12, m13, m23⟩, ⟨g1_, g2_, g3_⟩, u1_, u2_, u3_⟩, X_6⟩
def QA2 (Z : State) (pt la lb lc ta tb tc : Addr) (j : Int32) (i : Nat) (vs : List Value) (w : UInt64) (h0 : Heap) (n0 : Nat) (v : Option Value) (h : Heap) (L : List Loc) : Prop := v = none ∧ Fr n0 L ∧ Keep h0 h [la, lb, lc, ta, tb, tc] ∧ ∃ b, P1 Z h n0 pt la lb lc ta tb tc (j + 1) (vs.set i (.ref b)) ∧ Bx Z h b w
theorem ef_rmP2 (m : MethodId) (pt : Addr) (v1 : Int64) (v2 : Int64) : entryFrame m #[(.ref pt), (.long v1), (.long v2)] 5 = mkF m 0 #[.val (.ref pt), .val (.long v1), .second, .val (.long v2), .second] [] := by first | (simp [entryFrame, mkF, argsToLocals, Value.category]; done) | rfl
set_option maxRecDepth 65536 in
set_option maxHeartbeats 40000000 in
theorem rmP2 (l : Launch) (Z : State) (a0 : Array Value) (hw : ∀ d ∈ tables_1, d.before a0 Z = true) (ws : List Jvm.Cond) (pt : Addr) (v1 : Int64) (v2 : Int64) (h0 : Heap) (n0 : Nat) (Z0 : n0 ≤ h0.size) (la lb lc ta tb tc : Addr) (j : Int32) (i : Nat) (vs : List Value) (hj : j.toInt = i) (hi : i < 10) (B : P1 Z h0 n0 pt la lb lc ta tb tc j vs) (hn : Jvm.Free.Fl.NoNaN64 (FP.ddiv (FP.l2d v1) (FP.l2d v2))) :
    MetFree l (⟨"com/example/quadwarden/quadwarden/cli/PairedTimings", "add", "(JJ)V"⟩ : MethodName) (head1 (Jvm.Cond.code (⟨"com/example/quadwarden/quadwarden/cli/PairedTimings", "add", "(JJ)V"⟩ : MethodName) prog_5_method_2_code 5 none :: ws) ({ frames := 5, cells := 3, slots := 3, locals := 80 } : Room)) (fun a_ U_ => a_ = #[(.ref pt), (.long v1), (.long v2)] ∧ Z.Warmed39 U_.vm ∧ U_.heap = h0) (fun _ _ _ _ _ => True) (fun _ U_ o_ V_ => ∃ v_ L_, o_ = .returned v_ ∧ QA2 Z pt la lb lc ta tb tc j i vs (FP.ddiv (FP.l2d v1) (FP.l2d v2)) h0 n0 v_ V_.heap L_ ∧ FrameEnd U_ o_ V_ L_ ({ frames := 5, cells := 3, slots := 3, locals := 80 } : Room).cells ({ frames := 5, cells := 3, slots := 3, locals := 80 } : Room).slots) := by
  refine MetFree.of_bodySF (plainFor_of_name pn_5) hisR ?_
  intro p e s m args below meth c s₁ Bd hml0 hP hK
  obtain ⟨rfl, hZ, hh⟩ := hP
  have hx := Bd.exec
  have hby := Bd.bytes
  have hml : c.maxLocals = 5 := hml0
  have hown : s.vm.findClass "com/example/quadwarden/quadwarden/cli/PairedTimings" = some m.cls := findClass_of_methodNamed Bd.named
  have hnm := (name_of_methodNamed Bd.named Bd.method).1
  have X0 : Stand p l e ({ frames := 5, cells := 3, slots := 3, locals := 80 } : Room) s m #[(.ref pt), (.long v1), (.long v2)] below meth c s₁ [] 0 0 := Stand.of_body Bd
  have e0 : s₁.heap = h0 := by rw [← hh, Bd.state]; rfl
  have N0 := Fr.nil n0
  have pre0 : ∀ t_1, Steps p.tables e below (s₁.setTop (mkF m 0 #[.val (.ref pt), .val (.long v1), .second, .val (.long v2), .second] [])) t_1 → Steps p.tables e below (s₁.setTop (entryFrame m #[(.ref pt), (.long v1), (.long v2)] 5)) t_1 := fun t_ k_ => castTop (ef_rmP2 m pt v1 v2) k_
  obtain ⟨B0, ⟨va, B1⟩, ⟨vb, B2⟩, B3, ⟨n12, n13, n23⟩, ⟨m12, m13, m23⟩, ⟨g1_, g2_, g3_⟩, u1_, u2_, u3_⟩ := B
  have o00 : la ≠ ta := B1.2.2.2.2.ne B1.1 (hw _ (List.mem_of_getElem? (i := 15) rfl))
  have o01 : la ≠ tb := B2.2.2.2.2.ne B1.1 (hw _ (List.mem_of_getElem? (i := 15) rfl))
  have o02 : la ≠ tc := B3.2.2.2.2.ne B1.1 (hw _ (List.mem_of_getElem? (i := 15) rfl))
  have o10 : lb ≠ ta := B1.2.2.2.2.ne B2.1 (hw _ (List.mem_of_getElem? (i := 15) rfl))
  have o11 : lb ≠ tb := B2.2.2.2.2.ne B2.1 (hw _ (List.mem_of_getElem? (i := 15) rfl))
  have o12 : lb ≠ tc := B3.2.2.2.2.ne B2.1 (hw _ (List.mem_of_getElem? (i := 15) rfl))
  have o20 : lc ≠ ta := B1.2.2.2.2.ne B3.1 (hw _ (List.mem_of_getElem? (i := 15) rfl))
  have o21 : lc ≠ tb := B2.2.2.2.2.ne B3.1 (hw _ (List.mem_of_getElem? (i := 15) rfl))
  have o22 : lc ≠ tc := B3.2.2.2.2.ne B3.1 (hw _ (List.mem_of_getElem? (i := 15) rfl))
  have o90 : pt ≠ ta := B1.2.2.2.2.ne B0.1 (hw _ (List.mem_of_getElem? (i := 6) rfl))
  have o91 : pt ≠ tb := B2.2.2.2.2.ne B0.1 (hw _ (List.mem_of_getElem? (i := 6) rfl))
  have o92 : pt ≠ tc := B3.2.2.2.2.ne B0.1 (hw _ (List.mem_of_getElem? (i := 6) rfl))
  have o80 : pt ≠ la := B0.1.ne B1.1 (by decide)
  have o81 : pt ≠ lb := B0.1.ne B2.1 (by decide)
  have o82 : pt ≠ lc := B0.1.ne B3.1 (by decide)
  obtain ⟨T11, X11, e11, st11⟩ := getF X0 hx hZ hown (host := "") (Or.inl (hw _ (List.mem_of_getElem? (i := 38) rfl))) Via.refl e0 B0.2.1 (g := (mkF m 1 #[.val (.ref pt), .val (.long v1), .second, .val (.long v2), .second] [(.ref pt)])) rfl rfl (hb hby d7_1)
  obtain ⟨_, _, ⟨T12, L12, k12, n12⟩, -, X12, ⟨Lc12, hQ12, l12, y12, z12⟩, st12⟩ := Jvm.LawKit.callS X11 hx (y := (⟨"java/lang/Double", "valueOf", "(D)Ljava/lang/Double;"⟩ : MethodName)) hown (mvT hZ (hw _ (List.mem_of_getElem? (i := 49) rfl))) (mvT hZ (hw _ (List.mem_of_getElem? (i := 50) rfl))) (mvT hZ (hw _ (List.mem_of_getElem? (i := 51) rfl))) (mvT hZ (hw _ (List.mem_of_getElem? (i := 52) rfl))) (by decide) (backOf (W := 1) (rmBv l Z a0 hw [] (FP.l2d v1) h0 n0 Z0) hZ (hw _ (List.mem_of_getElem? (i := 52) rfl)) (hw _ (List.mem_of_getElem? (i := 51) rfl)) (by decide) (by decide)) (g := (mkF m 6 #[.val (.ref pt), .val (.long v1), .second, .val (.long v2), .second] [(.double (FP.l2d v1)), (.ref la)])) rfl (by rw [hml]; rfl) (argsL := [(.double (FP.l2d v1))]) (rest := [(.ref la)]) (lenOf pd_6 rfl) rfl (by show 2 * 0 + _ ≤ _; exact Nat.le_of_eq rfl) (hb hby d7_6) (fun _ _ => ⟨rfl, e11, (by decide : 0 + 1 ≤ _), (by decide : 0 + 1 ≤ _)⟩)
  dsimp only [Pt.U, Pt.locs, Pt.cells, Pt.slots] at X12 l12 y12 z12 st12 hQ12
  subst l12 y12 z12
  obtain ⟨b0, rfl, N12, K12, X_0, s_0⟩ := hQ12
  have J12 := (Keep.refl h0 [la, lb, lc, ta, tb, tc]).trans K12 all0
  have la_1 := B1.keep K12 nin0 nin0
  have lb_1 := B2.keep K12 nin0 nin0
  have lc_1 := B3.keep K12 nin0 nin0
  have P_1 := B0.keep K12 nin0
  have Z12 : n0 ≤ T12.heap.size := Nat.le_trans Z0 K12.1
  have ob00 : b0 ≠ la := X_0.1.ne la_1.1 (by decide)
  have ob01 : b0 ≠ lb := X_0.1.ne lb_1.1 (by decide)
  have ob02 : b0 ≠ lc := X_0.1.ne lc_1.1 (by decide)
  have oc00 : b0 ≠ ta := la_1.2.2.2.2.ne X_0.1 (hw _ (List.mem_of_getElem? (i := 54) rfl))
  have oc01 : b0 ≠ tb := lb_1.2.2.2.2.ne X_0.1 (hw _ (List.mem_of_getElem? (i := 54) rfl))
  have oc02 : b0 ≠ tc := lc_1.2.2.2.2.ne X_0.1 (hw _ (List.mem_of_getElem? (i := 54) rfl))
  obtain ⟨cq13, kq13, q13a, q13b, q13c⟩ := isOf hZ rfl la_1.1
  obtain ⟨_, _, ⟨T13, L13, k13, n13⟩, -, X13, ⟨Lc13, hQ13, l13, y13, z13⟩, st13⟩ := X12.interfaceBack hx (xi := (⟨"java/util/List", "add", "(Ljava/lang/Object;)Z"⟩ : MethodName)) (y := (⟨"java/util/ArrayList", "add", "(Ljava/lang/Object;)Z"⟩ : MethodName)) hown (mvT hZ (hw _ (List.mem_of_getElem? (i := 68) rfl))) (mvT hZ (hw _ (List.mem_of_getElem? (i := 69) rfl))) (mvT hZ (hw _ (List.mem_of_getElem? (i := 70) rfl))) (mvT hZ (hw _ (List.mem_of_getElem? (i := 71) rfl))) (mvT hZ (hw _ (List.mem_of_getElem? (i := 72) rfl))) (mvT hZ (hw _ (List.mem_of_getElem? (i := 73) rfl))) (mvT hZ (hw _ (List.mem_of_getElem? (i := 74) rfl))) (mvT hZ (hw _ (List.mem_of_getElem? (i := 75) rfl))) (by decide) (backOf (W := 0) (rmAs l Z a0 hw [] la b0 T12.heap n0 Z12 ta j i va g1_ u1_ la_1 hj hi X_0.1) hZ (hw _ (List.mem_of_getElem? (i := 76) rfl)) (hw _ (List.mem_of_getElem? (i := 16) rfl)) (by decide) (by decide)) q13a q13b q13c (g := (mkF m 9 #[.val (.ref pt), .val (.long v1), .second, .val (.long v2), .second] [(.ref b0), (.ref la)])) rfl (by rw [hml]; rfl) (Steps.refl _) (argsL := [(.ref b0)]) (rest := []) (lenOf pd_7 rfl) rfl (by show 2 * 0 + _ ≤ _; exact Nat.le_of_eq rfl) (hb hby d7_9) (fun _ _ => ⟨rfl, rfl, (by decide : 1 + 0 ≤ _), (by decide : 1 + 0 ≤ _)⟩)
  dsimp only [Pt.U, Pt.locs, Pt.cells, Pt.slots] at X13 l13 y13 z13 st13 hQ13
  subst l13 y13 z13
  obtain ⟨rfl, N13, K13, R13⟩ := hQ13
  have J13 := J12.trans K13 (allS (Or.inl (List.mem_of_getElem? (i := 0) rfl)) (allS (Or.inl (List.mem_of_getElem? (i := 3) rfl)) all0))
  have Z13 : n0 ≤ T13.heap.size := Nat.le_trans Z12 K13.1
  have N_13 := Fr.app (Fr.app N0 N12) N13
  have lb_2 := lb_1.keep K13 (ninS (Ne.symm n12) (ninS o10 nin0)) (ninS (Ne.symm o01) (ninS (Ne.symm m12) nin0))
  have lc_2 := lc_1.keep K13 (ninS (Ne.symm n13) (ninS o20 nin0)) (ninS (Ne.symm o02) (ninS (Ne.symm m13) nin0))
  have P_2 := P_1.keep K13 (ninS o80 (ninS o90 nin0))
  have X_2 := X_0.keep K13 (ninS ob00 (ninS oc00 nin0))
  obtain ⟨T21, X21, e21, st21⟩ := getF X13 hx hZ hown (host := "") (Or.inl (hw _ (List.mem_of_getElem? (i := 40) rfl))) Via.refl rfl P_2.2.2.1 (g := (mkF m 16 #[.val (.ref pt), .val (.long v1), .second, .val (.long v2), .second] [(.ref pt)])) rfl rfl (hb hby d7_16)
  obtain ⟨_, _, ⟨T22, L22, k22, n22⟩, -, X22, ⟨Lc22, hQ22, l22, y22, z22⟩, st22⟩ := Jvm.LawKit.callS X21 hx (y := (⟨"java/lang/Double", "valueOf", "(D)Ljava/lang/Double;"⟩ : MethodName)) hown (mvT hZ (hw _ (List.mem_of_getElem? (i := 49) rfl))) (mvT hZ (hw _ (List.mem_of_getElem? (i := 50) rfl))) (mvT hZ (hw _ (List.mem_of_getElem? (i := 51) rfl))) (mvT hZ (hw _ (List.mem_of_getElem? (i := 52) rfl))) (by decide) (backOf (W := 1) (rmBv l Z a0 hw [] (FP.l2d v2) T13.heap n0 Z13) hZ (hw _ (List.mem_of_getElem? (i := 52) rfl)) (hw _ (List.mem_of_getElem? (i := 51) rfl)) (by decide) (by decide)) (g := (mkF m 21 #[.val (.ref pt), .val (.long v1), .second, .val (.long v2), .second] [(.double (FP.l2d v2)), (.ref lb)])) rfl (by rw [hml]; rfl) (argsL := [(.double (FP.l2d v2))]) (rest := [(.ref lb)]) (lenOf pd_6 rfl) rfl (by show 2 * 0 + _ ≤ _; exact Nat.le_of_eq rfl) (hb hby d7_21) (fun _ _ => ⟨rfl, e21, (by decide : 1 + 1 ≤ _), (by decide : 1 + 1 ≤ _)⟩)
  dsimp only [Pt.U, Pt.locs, Pt.cells, Pt.slots] at X22 l22 y22 z22 st22 hQ22
  subst l22 y22 z22
  obtain ⟨b1, rfl, N22, K22, X_1, s_1⟩ := hQ22
  have J22 := J13.trans K22 all0
  have lb_3 := lb_2.keep K22 nin0 nin0
  have lc_3 := lc_2.keep K22 nin0 nin0
  have P_3 := P_2.keep K22 nin0
  have X_3 := X_2.keep K22 nin0
  have la_3 := R13.keep K22 nin0 nin0
  have Z22 : n0 ≤ T22.heap.size := Nat.le_trans Z13 K22.1
  have ob10 : b1 ≠ la := X_1.1.ne la_3.1 (by decide)
  have ob11 : b1 ≠ lb := X_1.1.ne lb_3.1 (by decide)
  have ob12 : b1 ≠ lc := X_1.1.ne lc_3.1 (by decide)
  have oc10 : b1 ≠ ta := la_3.2.2.2.2.ne X_1.1 (hw _ (List.mem_of_getElem? (i := 54) rfl))
  have oc11 : b1 ≠ tb := lb_3.2.2.2.2.ne X_1.1 (hw _ (List.mem_of_getElem? (i := 54) rfl))
  have oc12 : b1 ≠ tc := lc_3.2.2.2.2.ne X_1.1 (hw _ (List.mem_of_getElem? (i := 54) rfl))
  obtain ⟨cq23, kq23, q23a, q23b, q23c⟩ := isOf hZ rfl lb_3.1
  obtain ⟨_, _, ⟨T23, L23, k23, n23⟩, -, X23, ⟨Lc23, hQ23, l23, y23, z23⟩, st23⟩ := X22.interfaceBack hx (xi := (⟨"java/util/List", "add", "(Ljava/lang/Object;)Z"⟩ : MethodName)) (y := (⟨"java/util/ArrayList", "add", "(Ljava/lang/Object;)Z"⟩ : MethodName)) hown (mvT hZ (hw _ (List.mem_of_getElem? (i := 68) rfl))) (mvT hZ (hw _ (List.mem_of_getElem? (i := 69) rfl))) (mvT hZ (hw _ (List.mem_of_getElem? (i := 70) rfl))) (mvT hZ (hw _ (List.mem_of_getElem? (i := 71) rfl))) (mvT hZ (hw _ (List.mem_of_getElem? (i := 72) rfl))) (mvT hZ (hw _ (List.mem_of_getElem? (i := 73) rfl))) (mvT hZ (hw _ (List.mem_of_getElem? (i := 74) rfl))) (mvT hZ (hw _ (List.mem_of_getElem? (i := 75) rfl))) (by decide) (backOf (W := 0) (rmAs l Z a0 hw [] lb b1 T22.heap n0 Z22 tb j i vb g2_ u2_ lb_3 hj hi X_1.1) hZ (hw _ (List.mem_of_getElem? (i := 76) rfl)) (hw _ (List.mem_of_getElem? (i := 16) rfl)) (by decide) (by decide)) q23a q23b q23c (g := (mkF m 24 #[.val (.ref pt), .val (.long v1), .second, .val (.long v2), .second] [(.ref b1), (.ref lb)])) rfl (by rw [hml]; rfl) (Steps.refl _) (argsL := [(.ref b1)]) (rest := []) (lenOf pd_7 rfl) rfl (by show 2 * 0 + _ ≤ _; exact Nat.le_of_eq rfl) (hb hby d7_24) (fun _ _ => ⟨rfl, rfl, (by decide : 2 + 0 ≤ _), (by decide : 2 + 0 ≤ _)⟩)
  dsimp only [Pt.U, Pt.locs, Pt.cells, Pt.slots] at X23 l23 y23 z23 st23 hQ23
  subst l23 y23 z23
  obtain ⟨rfl, N23, K23, R23⟩ := hQ23
  have J23 := J22.trans K23 (allS (Or.inl (List.mem_of_getElem? (i := 1) rfl)) (allS (Or.inl (List.mem_of_getElem? (i := 4) rfl)) all0))
  have Z23 : n0 ≤ T23.heap.size := Nat.le_trans Z22 K23.1
  have N_23 := Fr.app (Fr.app N_13 N22) N23
  have lc_4 := lc_3.keep K23 (ninS (Ne.symm n23) (ninS o21 nin0)) (ninS (Ne.symm o12) (ninS (Ne.symm m23) nin0))
  have P_4 := P_3.keep K23 (ninS o81 (ninS o91 nin0))
  have X_4 := X_1.keep K23 (ninS ob11 (ninS oc11 nin0))
  have la_4 := la_3.keep K23 (ninS n12 (ninS o01 nin0)) (ninS (Ne.symm o10) (ninS m12 nin0))
  obtain ⟨T31, X31, e31, st31⟩ := getF X23 hx hZ hown (host := "") (Or.inl (hw _ (List.mem_of_getElem? (i := 42) rfl))) Via.refl rfl P_4.2.2.2 (g := (mkF m 31 #[.val (.ref pt), .val (.long v1), .second, .val (.long v2), .second] [(.ref pt)])) rfl rfl (hb hby d7_31)
  obtain ⟨_, _, ⟨T32, L32, k32, n32⟩, -, X32, ⟨Lc32, hQ32, l32, y32, z32⟩, st32⟩ := Jvm.LawKit.callS X31 hx (y := (⟨"java/lang/Double", "valueOf", "(D)Ljava/lang/Double;"⟩ : MethodName)) hown (mvT hZ (hw _ (List.mem_of_getElem? (i := 49) rfl))) (mvT hZ (hw _ (List.mem_of_getElem? (i := 50) rfl))) (mvT hZ (hw _ (List.mem_of_getElem? (i := 51) rfl))) (mvT hZ (hw _ (List.mem_of_getElem? (i := 52) rfl))) (by decide) (backOf (W := 1) (rmBv l Z a0 hw [] (FP.ddiv (FP.l2d v1) (FP.l2d v2)) T23.heap n0 Z23) hZ (hw _ (List.mem_of_getElem? (i := 52) rfl)) (hw _ (List.mem_of_getElem? (i := 51) rfl)) (by decide) (by decide)) (g := (mkF m 39 #[.val (.ref pt), .val (.long v1), .second, .val (.long v2), .second] [(.double (FP.ddiv (FP.l2d v1) (FP.l2d v2))), (.ref lc)])) rfl (by rw [hml]; rfl) (argsL := [(.double (FP.ddiv (FP.l2d v1) (FP.l2d v2)))]) (rest := [(.ref lc)]) (lenOf pd_6 rfl) rfl (by show 2 * 0 + _ ≤ _; exact Nat.le_of_eq rfl) (hb hby d7_39) (fun _ _ => ⟨rfl, e31, (by decide : 2 + 1 ≤ _), (by decide : 2 + 1 ≤ _)⟩)
  dsimp only [Pt.U, Pt.locs, Pt.cells, Pt.slots] at X32 l32 y32 z32 st32 hQ32
  subst l32 y32 z32
  obtain ⟨b2, rfl, N32, K32, X_2, s_2⟩ := hQ32
  have J32 := J23.trans K32 all0
  have lc_5 := lc_4.keep K32 nin0 nin0
  have P_5 := P_4.keep K32 nin0
  have X_5 := X_4.keep K32 nin0
  have la_5 := la_4.keep K32 nin0 nin0
  have lb_5 := R23.keep K32 nin0 nin0
  have Z32 : n0 ≤ T32.heap.size := Nat.le_trans Z23 K32.1
  have ob20 : b2 ≠ la := X_2.1.ne la_5.1 (by decide)
  have ob21 : b2 ≠ lb := X_2.1.ne lb_5.1 (by decide)
  have ob22 : b2 ≠ lc := X_2.1.ne lc_5.1 (by decide)
  have oc20 : b2 ≠ ta := la_5.2.2.2.2.ne X_2.1 (hw _ (List.mem_of_getElem? (i := 54) rfl))
  have oc21 : b2 ≠ tb := lb_5.2.2.2.2.ne X_2.1 (hw _ (List.mem_of_getElem? (i := 54) rfl))
  have oc22 : b2 ≠ tc := lc_5.2.2.2.2.ne X_2.1 (hw _ (List.mem_of_getElem? (i := 54) rfl))
  obtain ⟨cq33, kq33, q33a, q33b, q33c⟩ := isOf hZ rfl lc_5.1
  obtain ⟨_, _, ⟨T33, L33, k33, n33⟩, -, X33, ⟨Lc33, hQ33, l33, y33, z33⟩, st33⟩ := X32.interfaceBack hx (xi := (⟨"java/util/List", "add", "(Ljava/lang/Object;)Z"⟩ : MethodName)) (y := (⟨"java/util/ArrayList", "add", "(Ljava/lang/Object;)Z"⟩ : MethodName)) hown (mvT hZ (hw _ (List.mem_of_getElem? (i := 68) rfl))) (mvT hZ (hw _ (List.mem_of_getElem? (i := 69) rfl))) (mvT hZ (hw _ (List.mem_of_getElem? (i := 70) rfl))) (mvT hZ (hw _ (List.mem_of_getElem? (i := 71) rfl))) (mvT hZ (hw _ (List.mem_of_getElem? (i := 72) rfl))) (mvT hZ (hw _ (List.mem_of_getElem? (i := 73) rfl))) (mvT hZ (hw _ (List.mem_of_getElem? (i := 74) rfl))) (mvT hZ (hw _ (List.mem_of_getElem? (i := 75) rfl))) (by decide) (backOf (W := 0) (rmAs l Z a0 hw [] lc b2 T32.heap n0 Z32 tc j i vs g3_ u3_ lc_5 hj hi X_2.1) hZ (hw _ (List.mem_of_getElem? (i := 76) rfl)) (hw _ (List.mem_of_getElem? (i := 16) rfl)) (by decide) (by decide)) q33a q33b q33c (g := (mkF m 42 #[.val (.ref pt), .val (.long v1), .second, .val (.long v2), .second] [(.ref b2), (.ref lc)])) rfl (by rw [hml]; rfl) (Steps.refl _) (argsL := [(.ref b2)]) (rest := []) (lenOf pd_7 rfl) rfl (by show 2 * 0 + _ ≤ _; exact Nat.le_of_eq rfl) (hb hby d7_42) (fun _ _ => ⟨rfl, rfl, (by decide : 3 + 0 ≤ _), (by decide : 3 + 0 ≤ _)⟩)
  dsimp only [Pt.U, Pt.locs, Pt.cells, Pt.slots] at X33 l33 y33 z33 st33 hQ33
  subst l33 y33 z33
  obtain ⟨rfl, N33, K33, R33⟩ := hQ33
  have J33 := J32.trans K33 (allS (Or.inl (List.mem_of_getElem? (i := 2) rfl)) (allS (Or.inl (List.mem_of_getElem? (i := 5) rfl)) all0))
  have Z33 : n0 ≤ T33.heap.size := Nat.le_trans Z32 K33.1
  have N_33 := Fr.app (Fr.app N_23 N32) N33
  have P_6 := P_5.keep K33 (ninS o82 (ninS o92 nin0))
  have X_6 := X_2.keep K33 (ninS ob22 (ninS oc22 nin0))
  have la_6 := la_5.keep K33 (ninS n13 (ninS o02 nin0)) (ninS (Ne.symm o20) (ninS m13 nin0))
  have lb_6 := lb_5.keep K33 (ninS n23 (ninS o12 nin0)) (ninS (Ne.symm o21) (ninS m23 nin0))
  obtain ⟨fs, hr, hrun, hended, hW, hsame⟩ := X33.leave (v := none) (fun _ => rfl)
  refine ⟨_, _, pre0 _ ?_, hrun, hended, _, _, rfl, ?_, ⟨_, rfl⟩, hW, hsame.mono (by decide) (by decide)⟩
  · show Steps p.tables e below (s₁.setTop (mkF m 0 #[.val (.ref pt), .val (.long v1), .second, .val (.long v2), .second] [])) _
    refine XS.aloadN X0.here hx rfl (hb hby d7_0) rfl rfl ?_
    show Steps p.tables e below (s₁.setTop (mkF m 1 #[.val (.ref pt), .val (.long v1), .second, .val (.long v2), .second] [(.ref pt)])) _
    refine st11 _ ?_
    show Steps p.tables e below (T11.setTop (mkF m 4 #[.val (.ref pt), .val (.long v1), .second, .val (.long v2), .second] [(.ref la)])) _
    refine XS.lloadN X11.here hx rfl (hb hby d7_4) rfl ?_
    show Steps p.tables e below (T11.setTop (mkF m 5 #[.val (.ref pt), .val (.long v1), .second, .val (.long v2), .second] [(.long v1), (.ref la)])) _
    refine XS.l2dS X11.here hx rfl (hb hby d7_5) rfl (v := FP.l2d v1) rfl ?_
    show Steps p.tables e below (T11.setTop (mkF m 6 #[.val (.ref pt), .val (.long v1), .second, .val (.long v2), .second] [(.double (FP.l2d v1)), (.ref la)])) _
    refine st12 _ ?_
    show Steps p.tables e below (T12.setTop (mkF m 9 #[.val (.ref pt), .val (.long v1), .second, .val (.long v2), .second] [(.ref b0), (.ref la)])) _
    refine st13.trans ?_
    show Steps p.tables e below (T13.setTop (mkF m 14 #[.val (.ref pt), .val (.long v1), .second, .val (.long v2), .second] [(.int (1 : Int32))])) _
    refine XS.pop X13.here hx rfl (hb hby d7_14) rfl rfl ?_
    show Steps p.tables e below (T13.setTop (mkF m 15 #[.val (.ref pt), .val (.long v1), .second, .val (.long v2), .second] [])) _
    refine XS.aloadN X13.here hx rfl (hb hby d7_15) rfl rfl ?_
    show Steps p.tables e below (T13.setTop (mkF m 16 #[.val (.ref pt), .val (.long v1), .second, .val (.long v2), .second] [(.ref pt)])) _
    refine st21 _ ?_
    show Steps p.tables e below (T21.setTop (mkF m 19 #[.val (.ref pt), .val (.long v1), .second, .val (.long v2), .second] [(.ref lb)])) _
    refine XS.lloadN X21.here hx rfl (hb hby d7_19) rfl ?_
    show Steps p.tables e below (T21.setTop (mkF m 20 #[.val (.ref pt), .val (.long v1), .second, .val (.long v2), .second] [(.long v2), (.ref lb)])) _
    refine XS.l2dS X21.here hx rfl (hb hby d7_20) rfl (v := FP.l2d v2) rfl ?_
    show Steps p.tables e below (T21.setTop (mkF m 21 #[.val (.ref pt), .val (.long v1), .second, .val (.long v2), .second] [(.double (FP.l2d v2)), (.ref lb)])) _
    refine st22 _ ?_
    show Steps p.tables e below (T22.setTop (mkF m 24 #[.val (.ref pt), .val (.long v1), .second, .val (.long v2), .second] [(.ref b1), (.ref lb)])) _
    refine st23.trans ?_
    show Steps p.tables e below (T23.setTop (mkF m 29 #[.val (.ref pt), .val (.long v1), .second, .val (.long v2), .second] [(.int (1 : Int32))])) _
    refine XS.pop X23.here hx rfl (hb hby d7_29) rfl rfl ?_
    show Steps p.tables e below (T23.setTop (mkF m 30 #[.val (.ref pt), .val (.long v1), .second, .val (.long v2), .second] [])) _
    refine XS.aloadN X23.here hx rfl (hb hby d7_30) rfl rfl ?_
    show Steps p.tables e below (T23.setTop (mkF m 31 #[.val (.ref pt), .val (.long v1), .second, .val (.long v2), .second] [(.ref pt)])) _
    refine st31 _ ?_
    show Steps p.tables e below (T31.setTop (mkF m 34 #[.val (.ref pt), .val (.long v1), .second, .val (.long v2), .second] [(.ref lc)])) _
    refine XS.lloadN X31.here hx rfl (hb hby d7_34) rfl ?_
    show Steps p.tables e below (T31.setTop (mkF m 35 #[.val (.ref pt), .val (.long v1), .second, .val (.long v2), .second] [(.long v1), (.ref lc)])) _
    refine XS.l2dS X31.here hx rfl (hb hby d7_35) rfl (v := FP.l2d v1) rfl ?_
    show Steps p.tables e below (T31.setTop (mkF m 36 #[.val (.ref pt), .val (.long v1), .second, .val (.long v2), .second] [(.double (FP.l2d v1)), (.ref lc)])) _
    refine XS.lloadN X31.here hx rfl (hb hby d7_36) rfl ?_
    show Steps p.tables e below (T31.setTop (mkF m 37 #[.val (.ref pt), .val (.long v1), .second, .val (.long v2), .second] [(.long v2), (.double (FP.l2d v1)), (.ref lc)])) _
    refine XS.l2dS X31.here hx rfl (hb hby d7_37) rfl (v := FP.l2d v2) rfl ?_
    show Steps p.tables e below (T31.setTop (mkF m 38 #[.val (.ref pt), .val (.long v1), .second, .val (.long v2), .second] [(.double (FP.l2d v2)), (.double (FP.l2d v1)), (.ref lc)])) _
    refine XS.ddivS X31.here hx rfl (hb hby d7_38) rfl hn (v := FP.ddiv (FP.l2d v1) (FP.l2d v2)) rfl ?_
    show Steps p.tables e below (T31.setTop (mkF m 39 #[.val (.ref pt), .val (.long v1), .second, .val (.long v2), .second] [(.double (FP.ddiv (FP.l2d v1) (FP.l2d v2))), (.ref lc)])) _
    refine st32 _ ?_
    show Steps p.tables e below (T32.setTop (mkF m 42 #[.val (.ref pt), .val (.long v1), .second, .val (.long v2), .second] [(.ref b2), (.ref lc)])) _
    refine st33.trans ?_
    show Steps p.tables e below (T33.setTop (mkF m 47 #[.val (.ref pt), .val (.long v1), .second, .val (.long v2), .second] [(.int (1 : Int32))])) _
    refine XS.pop X33.here hx rfl (hb hby d7_47) rfl rfl ?_
    show Steps p.tables e below (T33.setTop (mkF m 48 #[.val (.ref pt), .val (.long v1), .second, .val (.long v2), .second] [])) _
    exact X33.returnOut hx Bd.returns (hb hby d7_48) hr
  · show QA2 Z pt la lb lc ta tb tc j i vs (FP.ddiv (FP.l2d v1) (FP.l2d v2)) h0 n0 _ T33.heap _
    exact ⟨rfl, N_33, J33, b2, ⟨P_6, ⟨_, la_6⟩, ⟨_, lb_6⟩, R33, ⟨n12, n13, n23⟩, ⟨m12, m13, m23⟩, ⟨g1_, g2_, g3_⟩, u1_, u2_, u3_⟩, X_6⟩
def QIi (Z : State) (a lc : Addr) (mo : Int32) (h0 : Heap) (n0 : Nat) (v : Option Value) (h : Heap) (L : List Loc) : Prop := v = none ∧ Fr n0 L ∧ Keep h0 h [a] ∧ IT Z h a lc 0 mo
theorem ef_rmIi (m : MethodId) (a : Addr) (lc : Addr) : entryFrame m #[(.ref a), (.ref lc)] 2 = mkF m 0 #[.val (.ref a), .val (.ref lc)] [] := by first | (simp [entryFrame, mkF, argsToLocals, Value.category]; done) | rfl
set_option maxRecDepth 65536 in
set_option maxHeartbeats 40000000 in
theorem rmIi (l : Launch) (Z : State) (a0 : Array Value) (hw : ∀ d ∈ tables_1, d.before a0 Z = true) (ws : List Jvm.Cond) (a : Addr) (lc : Addr) (h0 : Heap) (n0 : Nat) (Z0 : n0 ≤ h0.size) (mo n : Int32) (t : Addr) (vs : List Value) (B : LS Z h0 lc mo n t vs) (ga : n0 ≤ a) (E : Exa Z h0 a "java/util/ArrayList$Itr") (F1 : Fld Z h0 a "java/util/ArrayList$Itr" "this$0" "Ljava/util/ArrayList;" .null) (F2 : Fld Z h0 a "java/util/ArrayList$Itr" "cursor" "I" (.int 0)) (F3 : Fld Z h0 a "java/util/ArrayList$Itr" "lastRet" "I" (.int 0)) (F4 : Fld Z h0 a "java/util/ArrayList$Itr" "expectedModCount" "I" (.int 0)) :
    MetFree l (⟨"java/util/ArrayList$Itr", "<init>", "(Ljava/util/ArrayList;)V"⟩ : MethodName) (head1 (Jvm.Cond.code (⟨"java/util/ArrayList$Itr", "<init>", "(Ljava/util/ArrayList;)V"⟩ : MethodName) jdk_49_method_1_code 2 none :: ws) ({ frames := 2, cells := 0, slots := 0, locals := 24 } : Room)) (fun a_ U_ => a_ = #[(.ref a), (.ref lc)] ∧ Z.Warmed39 U_.vm ∧ U_.heap = h0) (fun _ _ _ _ _ => True) (fun _ U_ o_ V_ => ∃ v_ L_, o_ = .returned v_ ∧ QIi Z a lc mo h0 n0 v_ V_.heap L_ ∧ FrameEnd U_ o_ V_ L_ ({ frames := 2, cells := 0, slots := 0, locals := 24 } : Room).cells ({ frames := 2, cells := 0, slots := 0, locals := 24 } : Room).slots) := by
  refine MetFree.of_bodySF (plainFor_of_name pn_6) hisR ?_
  intro p e s m args below meth c s₁ Bd hml0 hP hK
  obtain ⟨rfl, hZ, hh⟩ := hP
  have hx := Bd.exec
  have hby := Bd.bytes
  have hml : c.maxLocals = 2 := hml0
  have hown : s.vm.findClass "java/util/ArrayList$Itr" = some m.cls := findClass_of_methodNamed Bd.named
  have hnm := (name_of_methodNamed Bd.named Bd.method).1
  have X0 : Stand p l e ({ frames := 2, cells := 0, slots := 0, locals := 24 } : Room) s m #[(.ref a), (.ref lc)] below meth c s₁ [] 0 0 := Stand.of_body Bd
  have e0 : s₁.heap = h0 := by rw [← hh, Bd.state]; rfl
  have N0 := Fr.nil n0
  have pre0 : ∀ t_1, Steps p.tables e below (s₁.setTop (mkF m 0 #[.val (.ref a), .val (.ref lc)] [])) t_1 → Steps p.tables e below (s₁.setTop (entryFrame m #[(.ref a), (.ref lc)] 2)) t_1 := fun t_ k_ => castTop (ef_rmIi m a lc) k_
  have nl : lc ≠ a := Ne.symm (E.ne B.1 (by decide))
  obtain ⟨T1, h1, X1, e1, W1, st1⟩ := putF X0 hx hZ hown (host := "") (Or.inl (hw _ (List.mem_of_getElem? (i := 128) rfl))) Via.refl e0 F1 E (Or.inr ⟨(hw _ (List.mem_of_getElem? (i := 129) rfl)), rfl, hnm⟩) (hw _ (List.mem_of_getElem? (i := 122) rfl)) (ty := (.object "java/util/ArrayList")) (by decide) rfl rfl (g := (mkF m 2 #[.val (.ref a), .val (.ref lc)] [(.ref lc), (.ref a)])) rfl rfl (hb hby d19_2)
  have G1 := F1.same W1
  have G2 := F2.other W1 (Or.inr (slot_ne (Or.inl (hw _ (List.mem_of_getElem? (i := 151) rfl))) (Or.inr (hw _ (List.mem_of_getElem? (i := 129) rfl))) (by decide) (t := .int) (t' := (.object "java/util/ArrayList")) (by decide) (by decide)))
  have G3 := F3.other W1 (Or.inr (slot_ne (Or.inl (hw _ (List.mem_of_getElem? (i := 132) rfl))) (Or.inr (hw _ (List.mem_of_getElem? (i := 129) rfl))) (by decide) (t := .int) (t' := (.object "java/util/ArrayList")) (by decide) (by decide)))
  have G4 := F4.other W1 (Or.inr (slot_ne (Or.inl (hw _ (List.mem_of_getElem? (i := 135) rfl))) (Or.inr (hw _ (List.mem_of_getElem? (i := 129) rfl))) (by decide) (t := .int) (t' := (.object "java/util/ArrayList")) (by decide) (by decide)))
  obtain ⟨T2, X2, e2, st2⟩ := initO X1 hx hZ hown (hw _ (List.mem_of_getElem? (i := 130) rfl)) (hw _ (List.mem_of_getElem? (i := 12) rfl)) (hw _ (List.mem_of_getElem? (i := 13) rfl)) e1 (g := (mkF m 6 #[.val (.ref a), .val (.ref lc)] [(.ref a)])) rfl (by rw [hml]; rfl) rfl (hb hby d19_6) (by decide) (W := 0) (by show 2 * 0 + _ ≤ _; exact Nat.le_of_eq rfl) (by decide)
  obtain ⟨T3, h3, X3, e3, W3, st3⟩ := putF X2 hx hZ hown (host := "") (Or.inl (hw _ (List.mem_of_getElem? (i := 131) rfl))) Via.refl e2 G3 (E.wr W1) (Or.inl (hw _ (List.mem_of_getElem? (i := 132) rfl))) (hw _ (List.mem_of_getElem? (i := 122) rfl)) (ty := .int) (by decide) rfl rfl (g := (mkF m 11 #[.val (.ref a), .val (.ref lc)] [(.int (-1 : Int32)), (.ref a)])) rfl rfl (hb hby d19_11)
  have H1 := G1.other W3 (Or.inr (slot_ne (Or.inr (hw _ (List.mem_of_getElem? (i := 129) rfl))) (Or.inl (hw _ (List.mem_of_getElem? (i := 132) rfl))) (by decide) (t := (.object "java/util/ArrayList")) (t' := .int) (by decide) (by decide)))
  have H2 := G2.other W3 (Or.inr (slot_ne (Or.inl (hw _ (List.mem_of_getElem? (i := 151) rfl))) (Or.inl (hw _ (List.mem_of_getElem? (i := 132) rfl))) (by decide) (t := .int) (t' := .int) (by decide) (by decide)))
  have H3 := G3.same W3
  have H4 := G4.other W3 (Or.inr (slot_ne (Or.inl (hw _ (List.mem_of_getElem? (i := 135) rfl))) (Or.inl (hw _ (List.mem_of_getElem? (i := 132) rfl))) (by decide) (t := .int) (t' := .int) (by decide) (by decide)))
  obtain ⟨T4, X4, e4, st4⟩ := getF X3 hx hZ hown (host := "") (Or.inl (hw _ (List.mem_of_getElem? (i := 128) rfl))) Via.refl e3 H1 (g := (mkF m 16 #[.val (.ref a), .val (.ref lc)] [(.ref a), (.ref a)])) rfl rfl (hb hby d19_16)
  obtain ⟨T5, X5, e5, st5⟩ := getF X4 hx hZ hown (host := "") (Or.inl (hw _ (List.mem_of_getElem? (i := 133) rfl))) (Via.of (hw _ (List.mem_of_getElem? (i := 78) rfl))) e4 ((B.2.1.other W1 (Or.inl nl)).other W3 (Or.inl nl)) (g := (mkF m 19 #[.val (.ref a), .val (.ref lc)] [(.ref lc), (.ref a)])) rfl rfl (hb hby d19_19)
  obtain ⟨T6, h6, X6, e6, W6, st6⟩ := putF X5 hx hZ hown (host := "") (Or.inl (hw _ (List.mem_of_getElem? (i := 134) rfl))) Via.refl e5 H4 ((E.wr W1).wr W3) (Or.inl (hw _ (List.mem_of_getElem? (i := 135) rfl))) (hw _ (List.mem_of_getElem? (i := 122) rfl)) (ty := .int) (by decide) rfl rfl (g := (mkF m 22 #[.val (.ref a), .val (.ref lc)] [(.int mo), (.ref a)])) rfl rfl (hb hby d19_22)
  have K6 : Keep h0 h6 [a] := (((Keep.refl h0 [a]).wr W1 (Or.inl (memS a))).wr W3 (Or.inl (memS a))).wr W6 (Or.inl (memS a))
  have M6 := Fr.snoc X6 (Fr.snoc X3 (Fr.snoc X1 N0 ga) ga) ga
  obtain ⟨fs, hr, hrun, hended, hW, hsame⟩ := X6.leave (v := none) (fun _ => rfl)
  refine ⟨_, _, pre0 _ ?_, hrun, hended, _, _, rfl, ?_, ⟨_, rfl⟩, hW, hsame.mono (by decide) (by decide)⟩
  · show Steps p.tables e below (s₁.setTop (mkF m 0 #[.val (.ref a), .val (.ref lc)] [])) _
    refine XS.aloadN X0.here hx rfl (hb hby d19_0) rfl rfl ?_
    show Steps p.tables e below (s₁.setTop (mkF m 1 #[.val (.ref a), .val (.ref lc)] [(.ref a)])) _
    refine XS.aloadN X0.here hx rfl (hb hby d19_1) rfl rfl ?_
    show Steps p.tables e below (s₁.setTop (mkF m 2 #[.val (.ref a), .val (.ref lc)] [(.ref lc), (.ref a)])) _
    refine st1 _ ?_
    show Steps p.tables e below (T1.setTop (mkF m 5 #[.val (.ref a), .val (.ref lc)] [])) _
    refine XS.aloadN X1.here hx rfl (hb hby d19_5) rfl rfl ?_
    show Steps p.tables e below (T1.setTop (mkF m 6 #[.val (.ref a), .val (.ref lc)] [(.ref a)])) _
    refine st2 _ ?_
    show Steps p.tables e below (T2.setTop (mkF m 9 #[.val (.ref a), .val (.ref lc)] [])) _
    refine XS.aloadN X2.here hx rfl (hb hby d19_9) rfl rfl ?_
    show Steps p.tables e below (T2.setTop (mkF m 10 #[.val (.ref a), .val (.ref lc)] [(.ref a)])) _
    refine XS.iconst X2.here hx rfl (hb hby d19_10) ?_
    show Steps p.tables e below (T2.setTop (mkF m 11 #[.val (.ref a), .val (.ref lc)] [(.int (-1 : Int32)), (.ref a)])) _
    refine st3 _ ?_
    show Steps p.tables e below (T3.setTop (mkF m 14 #[.val (.ref a), .val (.ref lc)] [])) _
    refine XS.aloadN X3.here hx rfl (hb hby d19_14) rfl rfl ?_
    show Steps p.tables e below (T3.setTop (mkF m 15 #[.val (.ref a), .val (.ref lc)] [(.ref a)])) _
    refine XS.aloadN X3.here hx rfl (hb hby d19_15) rfl rfl ?_
    show Steps p.tables e below (T3.setTop (mkF m 16 #[.val (.ref a), .val (.ref lc)] [(.ref a), (.ref a)])) _
    refine st4 _ ?_
    show Steps p.tables e below (T4.setTop (mkF m 19 #[.val (.ref a), .val (.ref lc)] [(.ref lc), (.ref a)])) _
    refine st5 _ ?_
    show Steps p.tables e below (T5.setTop (mkF m 22 #[.val (.ref a), .val (.ref lc)] [(.int mo), (.ref a)])) _
    refine st6 _ ?_
    show Steps p.tables e below (T6.setTop (mkF m 25 #[.val (.ref a), .val (.ref lc)] [])) _
    exact X6.returnOut hx Bd.returns (hb hby d19_25) hr
  · show QIi Z a lc mo h0 n0 _ T6.heap _
    rw [e6]
    exact ⟨rfl, M6, K6, ((E.wr W1).wr W3).wr W6, H1.other W6 (Or.inr (slot_ne (Or.inr (hw _ (List.mem_of_getElem? (i := 129) rfl))) (Or.inl (hw _ (List.mem_of_getElem? (i := 135) rfl))) (by decide) (t := (.object "java/util/ArrayList")) (t' := .int) (by decide) (by decide))), H2.other W6 (Or.inr (slot_ne (Or.inl (hw _ (List.mem_of_getElem? (i := 151) rfl))) (Or.inl (hw _ (List.mem_of_getElem? (i := 135) rfl))) (by decide) (t := .int) (t' := .int) (by decide) (by decide))), ⟨_, H3.other W6 (Or.inr (slot_ne (Or.inl (hw _ (List.mem_of_getElem? (i := 132) rfl))) (Or.inl (hw _ (List.mem_of_getElem? (i := 135) rfl))) (by decide) (t := .int) (t' := .int) (by decide) (by decide)))⟩, H4.same W6⟩
def QIt (Z : State) (lc : Addr) (mo : Int32) (h0 : Heap) (n0 : Nat) (v : Option Value) (h : Heap) (L : List Loc) : Prop := ∃ it, v = some (.ref it) ∧ Fr n0 L ∧ Keep h0 h [] ∧ IT Z h it lc 0 mo ∧ h0.size ≤ it
theorem ef_rmIt (m : MethodId) (lc : Addr) : entryFrame m #[(.ref lc)] 1 = mkF m 0 #[.val (.ref lc)] [] := by first | (simp [entryFrame, mkF, argsToLocals, Value.category]; done) | rfl
set_option maxRecDepth 65536 in
set_option maxHeartbeats 40000000 in
theorem rmIt (l : Launch) (Z : State) (a0 : Array Value) (hw : ∀ d ∈ tables_1, d.before a0 Z = true) (ws : List Jvm.Cond) (lc : Addr) (h0 : Heap) (n0 : Nat) (Z0 : n0 ≤ h0.size) (mo n : Int32) (t : Addr) (vs : List Value) (B : LS Z h0 lc mo n t vs) :
    MetFree l (⟨"java/util/ArrayList", "iterator", "()Ljava/util/Iterator;"⟩ : MethodName) (head1 (Jvm.Cond.code (⟨"java/util/ArrayList", "iterator", "()Ljava/util/Iterator;"⟩ : MethodName) jdk_38_method_55_code 1 (some (.object "java/util/Iterator")) :: ws) ({ frames := 3, cells := 1, slots := 4, locals := 40 } : Room)) (fun a_ U_ => a_ = #[(.ref lc)] ∧ Z.Warmed39 U_.vm ∧ U_.heap = h0) (fun _ _ _ _ _ => True) (fun _ U_ o_ V_ => ∃ v_ L_, o_ = .returned v_ ∧ QIt Z lc mo h0 n0 v_ V_.heap L_ ∧ FrameEnd U_ o_ V_ L_ ({ frames := 3, cells := 1, slots := 4, locals := 40 } : Room).cells ({ frames := 3, cells := 1, slots := 4, locals := 40 } : Room).slots) := by
  refine MetFree.of_bodySF (plainFor_of_name pn_2) hisR ?_
  intro p e s m args below meth c s₁ Bd hml0 hP hK
  obtain ⟨rfl, hZ, hh⟩ := hP
  have hx := Bd.exec
  have hby := Bd.bytes
  have hml : c.maxLocals = 1 := hml0
  have hown : s.vm.findClass "java/util/ArrayList" = some m.cls := findClass_of_methodNamed Bd.named
  have hnm := (name_of_methodNamed Bd.named Bd.method).1
  have X0 : Stand p l e ({ frames := 3, cells := 1, slots := 4, locals := 40 } : Room) s m #[(.ref lc)] below meth c s₁ [] 0 0 := Stand.of_body Bd
  have e0 : s₁.heap = h0 := by rw [← hh, Bd.state]; rfl
  have N0 := Fr.nil n0
  have pre0 : ∀ t_1, Steps p.tables e below (s₁.setTop (mkF m 0 #[.val (.ref lc)] [])) t_1 → Steps p.tables e below (s₁.setTop (entryFrame m #[(.ref lc)] 1)) t_1 := fun t_ k_ => castTop (ef_rmIt m lc) k_
  obtain ⟨T1, h1, X1, e1, E1, A1, D1, -, st1⟩ := newO X0 hx hZ hown (hw _ (List.mem_of_getElem? (i := 121) rfl)) (hw _ (List.mem_of_getElem? (i := 122) rfl)) (hw _ (List.mem_of_getElem? (i := 123) rfl)) e0 (g := (mkF m 0 #[.val (.ref lc)] [])) rfl (hb hby d18_0) (by decide) (by decide)
  obtain ⟨a1, g1⟩ : ∃ z, z = h0.size := ⟨_, rfl⟩
  rw [← g1] at A1 D1 st1
  have D_0 := D1 (Or.inr (hw _ (List.mem_of_getElem? (i := 129) rfl))) (ty := (.object "java/util/ArrayList")) (by decide)
  have D_1 := D1 (Or.inl (hw _ (List.mem_of_getElem? (i := 151) rfl))) (ty := .int) (by decide)
  have D_2 := D1 (Or.inl (hw _ (List.mem_of_getElem? (i := 132) rfl))) (ty := .int) (by decide)
  have D_3 := D1 (Or.inl (hw _ (List.mem_of_getElem? (i := 135) rfl))) (ty := .int) (by decide)
  have gb : n0 ≤ a1 := Nat.le_trans Z0 (Nat.le_of_eq g1.symm)
  have Z1 : n0 ≤ h1.size := Nat.le_trans Z0 E1.1
  obtain ⟨_, _, ⟨T2, L2, k2, n2⟩, -, X2, ⟨Lc2, hQ2, l2, y2, z2⟩, st2⟩ := X1.specialBack hx (y := (⟨"java/util/ArrayList$Itr", "<init>", "(Ljava/util/ArrayList;)V"⟩ : MethodName)) rfl hown (mvT hZ (hw _ (List.mem_of_getElem? (i := 124) rfl))) (mvT hZ (hw _ (List.mem_of_getElem? (i := 125) rfl))) (mvT hZ (hw _ (List.mem_of_getElem? (i := 127) rfl))) (by decide) (backOf (W := 1) (rmIi l Z a0 hw [] a1 lc h1 n0 Z1 mo n t vs (B.ext E1) gb A1 D_0 D_1 D_2 D_3) hZ (hw _ (List.mem_of_getElem? (i := 127) rfl)) (hw _ (List.mem_of_getElem? (i := 123) rfl)) (by decide) (by decide)) (g := (mkF m 5 #[.val (.ref lc)] [(.ref lc), (.ref a1), (.ref a1)])) rfl (by rw [hml]; rfl) (Steps.refl _) (a := a1) (argsL := [(.ref lc)]) (rest := [(.ref a1)]) (lenOf pd_8 rfl) rfl (by show 2 * 0 + _ ≤ _; exact Nat.le_of_eq rfl) (hb hby d18_5) (fun _ _ => ⟨rfl, e1, (by decide : 1 + 0 ≤ _), (by decide : 4 + 0 ≤ _)⟩)
  dsimp only [Pt.U, Pt.locs, Pt.cells, Pt.slots] at X2 l2 y2 z2 st2 hQ2
  subst l2 y2 z2
  obtain ⟨rfl, N2, K2, B2⟩ := hQ2
  have K3 : Keep h0 T2.heap [] := ((Keep.refl h0 []).ext E1).trans K2 (allS (Or.inr (Nat.le_of_eq g1.symm)) all0)
  obtain ⟨fs, hr, hrun, hended, hW, hsame⟩ := X2.leave (v := some (.ref a1)) (fun h => by rw [Bd.returns] at h; cases h)
  refine ⟨_, _, pre0 _ ?_, hrun, hended, _, _, rfl, ?_, ⟨_, rfl⟩, hW, hsame.mono (by decide) (by decide)⟩
  · show Steps p.tables e below (s₁.setTop (mkF m 0 #[.val (.ref lc)] [])) _
    refine st1 _ ?_
    show Steps p.tables e below (T1.setTop (mkF m 3 #[.val (.ref lc)] [(.ref a1)])) _
    refine XS.dup X1.here hx rfl (hb hby d18_3) rfl rfl ?_
    show Steps p.tables e below (T1.setTop (mkF m 4 #[.val (.ref lc)] [(.ref a1), (.ref a1)])) _
    refine XS.aloadN X1.here hx rfl (hb hby d18_4) rfl rfl ?_
    show Steps p.tables e below (T1.setTop (mkF m 5 #[.val (.ref lc)] [(.ref lc), (.ref a1), (.ref a1)])) _
    refine st2.trans ?_
    show Steps p.tables e below (T2.setTop (mkF m 8 #[.val (.ref lc)] [(.ref a1)])) _
    exact X2.areturnOut hx rfl Bd.returns rfl (hb hby d18_8) hr
  · show QIt Z lc mo h0 n0 _ T2.heap _
    exact ⟨a1, rfl, Fr.app N0 N2, K3, B2, Nat.le_of_eq g1.symm⟩
theorem ef_rmCk (m : MethodId) (a : Addr) : entryFrame m #[(.ref a)] 1 = mkF m 0 #[.val (.ref a)] [] := by first | (simp [entryFrame, mkF, argsToLocals, Value.category]; done) | rfl
set_option maxRecDepth 65536 in
set_option maxHeartbeats 40000000 in
theorem rmCk (l : Launch) (Z : State) (a0 : Array Value) (hw : ∀ d ∈ tables_1, d.before a0 Z = true) (ws : List Jvm.Cond) (a : Addr) (h0 : Heap) (n0 : Nat) (Z0 : n0 ≤ h0.size) (lc : Addr) (ci mo n : Int32) (t : Addr) (vs : List Value) (I : IT Z h0 a lc ci mo) (B : LS Z h0 lc mo n t vs) :
    MetFree l (⟨"java/util/ArrayList$Itr", "checkForComodification", "()V"⟩ : MethodName) (head1 (Jvm.Cond.code (⟨"java/util/ArrayList$Itr", "checkForComodification", "()V"⟩ : MethodName) jdk_49_method_6_code 1 none :: ws) ({ frames := 0, cells := 0, slots := 0, locals := 0 } : Room)) (fun a_ U_ => a_ = #[(.ref a)] ∧ Z.Warmed39 U_.vm ∧ U_.heap = h0) (fun _ _ _ _ _ => True) (fun _ U_ o_ V_ => ∃ v_ L_, o_ = .returned v_ ∧ QV h0 n0 v_ V_.heap L_ ∧ FrameEnd U_ o_ V_ L_ ({ frames := 0, cells := 0, slots := 0, locals := 0 } : Room).cells ({ frames := 0, cells := 0, slots := 0, locals := 0 } : Room).slots) := by
  refine MetFree.of_bodySF (plainFor_of_name pn_6) hisR ?_
  intro p e s m args below meth c s₁ Bd hml0 hP hK
  obtain ⟨rfl, hZ, hh⟩ := hP
  have hx := Bd.exec
  have hby := Bd.bytes
  have hml : c.maxLocals = 1 := hml0
  have hown : s.vm.findClass "java/util/ArrayList$Itr" = some m.cls := findClass_of_methodNamed Bd.named
  have hnm := (name_of_methodNamed Bd.named Bd.method).1
  have X0 : Stand p l e ({ frames := 0, cells := 0, slots := 0, locals := 0 } : Room) s m #[(.ref a)] below meth c s₁ [] 0 0 := Stand.of_body Bd
  have e0 : s₁.heap = h0 := by rw [← hh, Bd.state]; rfl
  have N0 := Fr.nil n0
  have pre0 : ∀ t_1, Steps p.tables e below (s₁.setTop (mkF m 0 #[.val (.ref a)] [])) t_1 → Steps p.tables e below (s₁.setTop (entryFrame m #[(.ref a)] 1)) t_1 := fun t_ k_ => castTop (ef_rmCk m a) k_
  obtain ⟨I1, I2, I3, ⟨r4, I4⟩, I5⟩ := I
  obtain ⟨T1, X1, e1, st1⟩ := getF X0 hx hZ hown (host := "") (Or.inl (hw _ (List.mem_of_getElem? (i := 128) rfl))) Via.refl e0 I2 (g := (mkF m 1 #[.val (.ref a)] [(.ref a)])) rfl rfl (hb hby d21_1)
  obtain ⟨T2, X2, e2, st2⟩ := getF X1 hx hZ hown (host := "") (Or.inl (hw _ (List.mem_of_getElem? (i := 133) rfl))) (Via.of (hw _ (List.mem_of_getElem? (i := 78) rfl))) e1 B.2.1 (g := (mkF m 4 #[.val (.ref a)] [(.ref lc)])) rfl rfl (hb hby d21_4)
  obtain ⟨T3, X3, e3, st3⟩ := getF X2 hx hZ hown (host := "") (Or.inl (hw _ (List.mem_of_getElem? (i := 134) rfl))) Via.refl e2 I5 (g := (mkF m 8 #[.val (.ref a)] [(.ref a), (.int mo)])) rfl rfl (hb hby d21_8)
  obtain ⟨fs, hr, hrun, hended, hW, hsame⟩ := X3.leave (v := none) (fun _ => rfl)
  refine ⟨_, _, pre0 _ ?_, hrun, hended, _, _, rfl, ?_, ⟨_, rfl⟩, hW, hsame.mono (by decide) (by decide)⟩
  · show Steps p.tables e below (s₁.setTop (mkF m 0 #[.val (.ref a)] [])) _
    refine XS.aloadN X0.here hx rfl (hb hby d21_0) rfl rfl ?_
    show Steps p.tables e below (s₁.setTop (mkF m 1 #[.val (.ref a)] [(.ref a)])) _
    refine st1 _ ?_
    show Steps p.tables e below (T1.setTop (mkF m 4 #[.val (.ref a)] [(.ref lc)])) _
    refine st2 _ ?_
    show Steps p.tables e below (T2.setTop (mkF m 7 #[.val (.ref a)] [(.int mo)])) _
    refine XS.aloadN X2.here hx rfl (hb hby d21_7) rfl rfl ?_
    show Steps p.tables e below (T2.setTop (mkF m 8 #[.val (.ref a)] [(.ref a), (.int mo)])) _
    refine st3 _ ?_
    show Steps p.tables e below (T3.setTop (mkF m 11 #[.val (.ref a)] [(.int mo), (.int mo)])) _
    refine XS.icmpYes X3.here hx rfl (pc0 := 11) (pc' := 22) rfl (hb hby d21_11) rfl ((Jvm.Own.holdsII _ _ _).trans (Jvm.Own.dT rfl)) (by decide) (by decide) ?_
    show Steps p.tables e below (T3.setTop (mkF m 22 #[.val (.ref a)] [])) _
    exact X3.returnOut hx Bd.returns (hb hby d21_22) hr
  · show QV h0 n0 _ T3.heap _
    rw [e3]
    exact ⟨rfl, N0, rfl⟩
def QNx (Z : State) (a lc b : Addr) (ci mo : Int32) (h0 : Heap) (n0 : Nat) (v : Option Value) (h : Heap) (L : List Loc) : Prop := v = some (.ref b) ∧ Fr n0 L ∧ Keep h0 h [a] ∧ IT Z h a lc (ci + 1) mo
theorem ef_rmNx (m : MethodId) (a : Addr) : entryFrame m #[(.ref a)] 3 = mkF m 0 #[.val (.ref a), .unset, .unset] [] := by first | (simp [entryFrame, mkF, argsToLocals, Value.category]; done) | rfl
set_option maxRecDepth 65536 in
set_option maxHeartbeats 40000000 in
theorem rmNx (l : Launch) (Z : State) (a0 : Array Value) (hw : ∀ d ∈ tables_1, d.before a0 Z = true) (ws : List Jvm.Cond) (a : Addr) (h0 : Heap) (n0 : Nat) (Z0 : n0 ≤ h0.size) (lc : Addr) (ci mo n : Int32) (t : Addr) (vs : List Value) (I : IT Z h0 a lc ci mo) (B : LS Z h0 lc mo n t vs) (ga : n0 ≤ a) (i : Nat) (hj : ci.toInt = i) (hi : i < 10) (hlt : ci.toInt < n.toInt) (b : Addr) (hb_ : vs.getD i .null = .ref b) :
    MetFree l (⟨"java/util/ArrayList$Itr", "next", "()Ljava/lang/Object;"⟩ : MethodName) (head1 (Jvm.Cond.code (⟨"java/util/ArrayList$Itr", "next", "()Ljava/lang/Object;"⟩ : MethodName) jdk_49_method_3_code 3 (some (.object "java/lang/Object")) :: ws) ({ frames := 1, cells := 0, slots := 0, locals := 12 } : Room)) (fun a_ U_ => a_ = #[(.ref a)] ∧ Z.Warmed39 U_.vm ∧ U_.heap = h0) (fun _ _ _ _ _ => True) (fun _ U_ o_ V_ => ∃ v_ L_, o_ = .returned v_ ∧ QNx Z a lc b ci mo h0 n0 v_ V_.heap L_ ∧ FrameEnd U_ o_ V_ L_ ({ frames := 1, cells := 0, slots := 0, locals := 12 } : Room).cells ({ frames := 1, cells := 0, slots := 0, locals := 12 } : Room).slots) := by
  refine MetFree.of_bodySF (plainFor_of_name pn_6) hisR ?_
  intro p e s m args below meth c s₁ Bd hml0 hP hK
  obtain ⟨rfl, hZ, hh⟩ := hP
  have hx := Bd.exec
  have hby := Bd.bytes
  have hml : c.maxLocals = 3 := hml0
  have hown : s.vm.findClass "java/util/ArrayList$Itr" = some m.cls := findClass_of_methodNamed Bd.named
  have hnm := (name_of_methodNamed Bd.named Bd.method).1
  have X0 : Stand p l e ({ frames := 1, cells := 0, slots := 0, locals := 12 } : Room) s m #[(.ref a)] below meth c s₁ [] 0 0 := Stand.of_body Bd
  have e0 : s₁.heap = h0 := by rw [← hh, Bd.state]; rfl
  have N0 := Fr.nil n0
  have pre0 : ∀ t_1, Steps p.tables e below (s₁.setTop (mkF m 0 #[.val (.ref a), .unset, .unset] [])) t_1 → Steps p.tables e below (s₁.setTop (entryFrame m #[(.ref a)] 3)) t_1 := fun t_ k_ => castTop (ef_rmNx m a) k_
  obtain ⟨I1, I2, I3, ⟨r4, I4⟩, I5⟩ := id I
  obtain ⟨cq1, kq1, q1a, q1b, q1c⟩ := isOf hZ e0 I1
  obtain ⟨_, _, ⟨T1, L1, k1, n1⟩, -, X1, ⟨Lc1, hQ1, l1, y1, z1⟩, st1⟩ := X0.virtualBack hx (y := (⟨"java/util/ArrayList$Itr", "checkForComodification", "()V"⟩ : MethodName)) (z := (⟨"java/util/ArrayList$Itr", "checkForComodification", "()V"⟩ : MethodName)) hown (mvT hZ (hw _ (List.mem_of_getElem? (i := 145) rfl))) (mvT hZ (hw _ (List.mem_of_getElem? (i := 146) rfl))) (notFace_of_selects (args := #[]) (mvT hZ (hw _ (List.mem_of_getElem? (i := 148) rfl)))) (mvT hZ (hw _ (List.mem_of_getElem? (i := 148) rfl))) (mvT hZ (hw _ (List.mem_of_getElem? (i := 147) rfl))) (by decide) (backOf (W := 0) (rmCk l Z a0 hw [] a h0 n0 Z0 lc ci mo n t vs I B) hZ (hw _ (List.mem_of_getElem? (i := 149) rfl)) (hw _ (List.mem_of_getElem? (i := 123) rfl)) (by decide) (by decide)) q1a q1c (g := (mkF m 1 #[.val (.ref a), .unset, .unset] [(.ref a)])) rfl (by rw [hml]; rfl) (Steps.refl _) (argsL := []) (rest := []) (lenOf pd_0 rfl) rfl (by show 2 * 0 + _ ≤ _; exact Nat.le_of_eq rfl) (hb hby d20_1) (fun _ _ => ⟨rfl, e0, (by decide : 0 + 0 ≤ _), (by decide : 0 + 0 ≤ _)⟩)
  dsimp only [Pt.U, Pt.locs, Pt.cells, Pt.slots] at X1 l1 y1 z1 st1 hQ1
  subst l1 y1 z1
  obtain ⟨rfl, N1, e1⟩ := hQ1
  obtain ⟨T2, X2, e2, st2⟩ := getF X1 hx hZ hown (host := "") (Or.inl (hw _ (List.mem_of_getElem? (i := 150) rfl))) Via.refl e1 I3 (g := (mkF m 5 #[.val (.ref a), .unset, .unset] [(.ref a)])) rfl rfl (hb hby d20_5)
  obtain ⟨T3, X3, e3, st3⟩ := getF X2 hx hZ hown (host := "") (Or.inl (hw _ (List.mem_of_getElem? (i := 128) rfl))) Via.refl e2 I2 (g := (mkF m 11 #[.val (.ref a), .val (.int ci), .unset] [(.ref a), (.int ci)])) rfl rfl (hb hby d20_11)
  obtain ⟨T4, X4, e4, st4⟩ := getF X3 hx hZ hown (Or.inr (hw _ (List.mem_of_getElem? (i := 152) rfl))) Via.refl e3 B.2.2.1 (g := (mkF m 14 #[.val (.ref a), .val (.int ci), .unset] [(.ref lc), (.int ci)])) rfl rfl (hb hby d20_14)
  obtain ⟨T5, X5, e5, st5⟩ := getF X4 hx hZ hown (host := "") (Or.inl (hw _ (List.mem_of_getElem? (i := 128) rfl))) Via.refl e4 I2 (g := (mkF m 29 #[.val (.ref a), .val (.int ci), .unset] [(.ref a)])) rfl rfl (hb hby d20_29)
  obtain ⟨T6, X6, e6, st6⟩ := getF X5 hx hZ hown (host := "") (Or.inl (hw _ (List.mem_of_getElem? (i := 153) rfl))) Via.refl e5 B.2.2.2.1 (g := (mkF m 32 #[.val (.ref a), .val (.int ci), .unset] [(.ref lc)])) rfl rfl (hb hby d20_32)
  obtain ⟨k0, ⟨c0, A0, q00, S0, q03, H0, -⟩, -⟩ := id B.2.2.2.2
  have Sz : c0.slots.size.toInt32 = (10 : Int32) := by rw [S0]; rfl
  have nt : t ≠ a := Ne.symm (B.2.2.2.2.ne I1 (hw _ (List.mem_of_getElem? (i := 122) rfl)))
  obtain ⟨T7, h7, X7, e7, W7, st7⟩ := putF X6 hx hZ hown (host := "") (Or.inl (hw _ (List.mem_of_getElem? (i := 150) rfl))) Via.refl e6 I3 I1 (Or.inl (hw _ (List.mem_of_getElem? (i := 151) rfl))) (hw _ (List.mem_of_getElem? (i := 122) rfl)) (ty := .int) (by decide) rfl rfl (g := (mkF m 54 #[.val (.ref a), .val (.int ci), .val (.ref t)] [(.int (ci + (1 : Int32))), (.ref a)])) rfl rfl (hb hby d20_54)
  obtain ⟨T8, h8, X8, e8, W8, st8⟩ := putF X7 hx hZ hown (host := "") (Or.inl (hw _ (List.mem_of_getElem? (i := 131) rfl))) Via.refl e7 (I4.other W7 (Or.inr (slot_ne (Or.inl (hw _ (List.mem_of_getElem? (i := 132) rfl))) (Or.inl (hw _ (List.mem_of_getElem? (i := 151) rfl))) (by decide) (t := .int) (t' := .int) (by decide) (by decide)))) (I1.wr W7) (Or.inl (hw _ (List.mem_of_getElem? (i := 132) rfl))) (hw _ (List.mem_of_getElem? (i := 122) rfl)) (ty := .int) (by decide) rfl rfl (g := (mkF m 61 #[.val (.ref a), .val (.int ci), .val (.ref t)] [(.int ci), (.ref a), (.int ci), (.ref t)])) rfl rfl (hb hby d20_61)
  have A8 := (A0.other W7 nt).other W8 nt
  have K8 : Keep h0 h8 [a] := ((Keep.refl h0 [a]).wr W7 (Or.inl (memS a))).wr W8 (Or.inl (memS a))
  have M8 := Fr.snoc X8 (Fr.snoc X7 (Fr.app N0 N1) ga) ga
  have I8 : IT Z h8 a lc (ci + 1) mo := ⟨(I1.wr W7).wr W8, (I2.other W7 (Or.inr (slot_ne (Or.inr (hw _ (List.mem_of_getElem? (i := 129) rfl))) (Or.inl (hw _ (List.mem_of_getElem? (i := 151) rfl))) (by decide) (t := (.object "java/util/ArrayList")) (t' := .int) (by decide) (by decide)))).other W8 (Or.inr (slot_ne (Or.inr (hw _ (List.mem_of_getElem? (i := 129) rfl))) (Or.inl (hw _ (List.mem_of_getElem? (i := 132) rfl))) (by decide) (t := (.object "java/util/ArrayList")) (t' := .int) (by decide) (by decide))), (I3.same W7).other W8 (Or.inr (slot_ne (Or.inl (hw _ (List.mem_of_getElem? (i := 151) rfl))) (Or.inl (hw _ (List.mem_of_getElem? (i := 132) rfl))) (by decide) (t := .int) (t' := .int) (by decide) (by decide))), ⟨_, (I4.other W7 (Or.inr (slot_ne (Or.inl (hw _ (List.mem_of_getElem? (i := 132) rfl))) (Or.inl (hw _ (List.mem_of_getElem? (i := 151) rfl))) (by decide) (t := .int) (t' := .int) (by decide) (by decide)))).same W8⟩, (I5.other W7 (Or.inr (slot_ne (Or.inl (hw _ (List.mem_of_getElem? (i := 135) rfl))) (Or.inl (hw _ (List.mem_of_getElem? (i := 151) rfl))) (by decide) (t := .int) (t' := .int) (by decide) (by decide)))).other W8 (Or.inr (slot_ne (Or.inl (hw _ (List.mem_of_getElem? (i := 135) rfl))) (Or.inl (hw _ (List.mem_of_getElem? (i := 132) rfl))) (by decide) (t := .int) (t' := .int) (by decide) (by decide)))⟩
  obtain ⟨fs, hr, hrun, hended, hW, hsame⟩ := X8.leave (v := some (.ref b)) (fun h => by rw [Bd.returns] at h; cases h)
  refine ⟨_, _, pre0 _ ?_, hrun, hended, _, _, rfl, ?_, ⟨_, rfl⟩, hW, hsame.mono (by decide) (by decide)⟩
  · show Steps p.tables e below (s₁.setTop (mkF m 0 #[.val (.ref a), .unset, .unset] [])) _
    refine XS.aloadN X0.here hx rfl (hb hby d20_0) rfl rfl ?_
    show Steps p.tables e below (s₁.setTop (mkF m 1 #[.val (.ref a), .unset, .unset] [(.ref a)])) _
    refine st1.trans ?_
    show Steps p.tables e below (T1.setTop (mkF m 4 #[.val (.ref a), .unset, .unset] [])) _
    refine XS.aloadN X1.here hx rfl (hb hby d20_4) rfl rfl ?_
    show Steps p.tables e below (T1.setTop (mkF m 5 #[.val (.ref a), .unset, .unset] [(.ref a)])) _
    refine st2 _ ?_
    show Steps p.tables e below (T2.setTop (mkF m 8 #[.val (.ref a), .unset, .unset] [(.int ci)])) _
    refine XS.istoreN X2.here hx rfl (hb hby d20_8) rfl (l' := #[.val (.ref a), .val (.int ci), .unset]) rfl ?_
    show Steps p.tables e below (T2.setTop (mkF m 9 #[.val (.ref a), .val (.int ci), .unset] [])) _
    refine XS.iloadN X2.here hx rfl (hb hby d20_9) rfl ?_
    show Steps p.tables e below (T2.setTop (mkF m 10 #[.val (.ref a), .val (.int ci), .unset] [(.int ci)])) _
    refine XS.aloadN X2.here hx rfl (hb hby d20_10) rfl rfl ?_
    show Steps p.tables e below (T2.setTop (mkF m 11 #[.val (.ref a), .val (.int ci), .unset] [(.ref a), (.int ci)])) _
    refine st3 _ ?_
    show Steps p.tables e below (T3.setTop (mkF m 14 #[.val (.ref a), .val (.int ci), .unset] [(.ref lc), (.int ci)])) _
    refine st4 _ ?_
    show Steps p.tables e below (T4.setTop (mkF m 17 #[.val (.ref a), .val (.int ci), .unset] [(.int n), (.int ci)])) _
    refine XS.icmpYes X4.here hx rfl (pc0 := 17) (pc' := 28) rfl (hb hby d20_17) rfl ((Jvm.Own.holdsII _ _ _).trans (Jvm.Own.dT hlt)) (by decide) (by decide) ?_
    show Steps p.tables e below (T4.setTop (mkF m 28 #[.val (.ref a), .val (.int ci), .unset] [])) _
    refine XS.aloadN X4.here hx rfl (hb hby d20_28) rfl rfl ?_
    show Steps p.tables e below (T4.setTop (mkF m 29 #[.val (.ref a), .val (.int ci), .unset] [(.ref a)])) _
    refine st5 _ ?_
    show Steps p.tables e below (T5.setTop (mkF m 32 #[.val (.ref a), .val (.int ci), .unset] [(.ref lc)])) _
    refine st6 _ ?_
    show Steps p.tables e below (T6.setTop (mkF m 35 #[.val (.ref a), .val (.int ci), .unset] [(.ref t)])) _
    refine XS.astoreN X6.here hx rfl (hb hby d20_35) rfl rfl (l' := #[.val (.ref a), .val (.int ci), .val (.ref t)]) rfl ?_
    show Steps p.tables e below (T6.setTop (mkF m 36 #[.val (.ref a), .val (.int ci), .val (.ref t)] [])) _
    refine XS.iloadN X6.here hx rfl (hb hby d20_36) rfl ?_
    show Steps p.tables e below (T6.setTop (mkF m 37 #[.val (.ref a), .val (.int ci), .val (.ref t)] [(.int ci)])) _
    refine XS.aloadN X6.here hx rfl (hb hby d20_37) rfl rfl ?_
    show Steps p.tables e below (T6.setTop (mkF m 38 #[.val (.ref a), .val (.int ci), .val (.ref t)] [(.ref t), (.int ci)])) _
    refine X6.arraylength hx (cell := c0) (by rw [e6]; exact A0.1) (State.isArrayOf_alike hZ.alike A0.2.1) (g := (mkF m 38 #[.val (.ref a), .val (.int ci), .val (.ref t)] [(.ref t), (.int ci)])) rfl (rest := [(.int ci)]) rfl (hb hby d20_38) _ ?_
    rw [Sz]
    show Steps p.tables e below (T6.setTop (mkF m 39 #[.val (.ref a), .val (.int ci), .val (.ref t)] [(.int (10 : Int32)), (.int ci)])) _
    refine XS.icmpYes X6.here hx rfl (pc0 := 39) (pc' := 50) rfl (hb hby d20_39) rfl ((Jvm.Own.holdsII _ _ _).trans (Jvm.Own.dT (by rw [hj, show (10 : Int32).toInt = 10 from rfl]; omega))) (by decide) (by decide) ?_
    show Steps p.tables e below (T6.setTop (mkF m 50 #[.val (.ref a), .val (.int ci), .val (.ref t)] [])) _
    refine XS.aloadN X6.here hx rfl (hb hby d20_50) rfl rfl ?_
    show Steps p.tables e below (T6.setTop (mkF m 51 #[.val (.ref a), .val (.int ci), .val (.ref t)] [(.ref a)])) _
    refine XS.iloadN X6.here hx rfl (hb hby d20_51) rfl ?_
    show Steps p.tables e below (T6.setTop (mkF m 52 #[.val (.ref a), .val (.int ci), .val (.ref t)] [(.int ci), (.ref a)])) _
    refine XS.iconst X6.here hx rfl (hb hby d20_52) ?_
    show Steps p.tables e below (T6.setTop (mkF m 53 #[.val (.ref a), .val (.int ci), .val (.ref t)] [(.int (1 : Int32)), (.int ci), (.ref a)])) _
    refine XS.iadd X6.here hx rfl (hb hby d20_53) rfl ?_
    show Steps p.tables e below (T6.setTop (mkF m 54 #[.val (.ref a), .val (.int ci), .val (.ref t)] [(.int (ci + (1 : Int32))), (.ref a)])) _
    refine st7 _ ?_
    show Steps p.tables e below (T7.setTop (mkF m 57 #[.val (.ref a), .val (.int ci), .val (.ref t)] [])) _
    refine XS.aloadN X7.here hx rfl (hb hby d20_57) rfl rfl ?_
    show Steps p.tables e below (T7.setTop (mkF m 58 #[.val (.ref a), .val (.int ci), .val (.ref t)] [(.ref t)])) _
    refine XS.aloadN X7.here hx rfl (hb hby d20_58) rfl rfl ?_
    show Steps p.tables e below (T7.setTop (mkF m 59 #[.val (.ref a), .val (.int ci), .val (.ref t)] [(.ref a), (.ref t)])) _
    refine XS.iloadN X7.here hx rfl (hb hby d20_59) rfl ?_
    show Steps p.tables e below (T7.setTop (mkF m 60 #[.val (.ref a), .val (.int ci), .val (.ref t)] [(.int ci), (.ref a), (.ref t)])) _
    refine XS.dupX1 X7.here hx rfl (hb hby d20_60) rfl rfl rfl ?_
    show Steps p.tables e below (T7.setTop (mkF m 61 #[.val (.ref a), .val (.int ci), .val (.ref t)] [(.int ci), (.ref a), (.int ci), (.ref t)])) _
    refine st8 _ ?_
    show Steps p.tables e below (T8.setTop (mkF m 64 #[.val (.ref a), .val (.int ci), .val (.ref t)] [(.int ci), (.ref t)])) _
    refine X8.aaload hx (j := ci) (v := (.ref b)) (by rw [e8]; exact A8.1) (State.isArrayOf_alike hZ.alike A8.2.1) rfl A8.2.2 (inA hj hi S0) (atA H0 S0 hj hi hb_) (g := (mkF m 64 #[.val (.ref a), .val (.int ci), .val (.ref t)] [(.int ci), (.ref t)])) rfl rfl (hb hby d20_64) _ ?_
    show Steps p.tables e below (T8.setTop (mkF m 65 #[.val (.ref a), .val (.int ci), .val (.ref t)] [(.ref b)])) _
    exact X8.areturnOut hx rfl Bd.returns rfl (hb hby d20_65) hr
  · show QNx Z a lc b ci mo h0 n0 _ T8.heap _
    rw [e8]
    exact ⟨rfl, M8, K8, I8⟩
theorem ef_rmH0 (m : MethodId) (a : Addr) : entryFrame m #[(.ref a)] 1 = mkF m 0 #[.val (.ref a)] [] := by first | (simp [entryFrame, mkF, argsToLocals, Value.category]; done) | rfl
set_option maxRecDepth 65536 in
set_option maxHeartbeats 40000000 in
theorem rmH0 (l : Launch) (Z : State) (a0 : Array Value) (hw : ∀ d ∈ tables_1, d.before a0 Z = true) (ws : List Jvm.Cond) (a : Addr) (h0 : Heap) (n0 : Nat) (Z0 : n0 ≤ h0.size) (lc : Addr) (ci mo n : Int32) (t : Addr) (vs : List Value) (I : IT Z h0 a lc ci mo) (B : LS Z h0 lc mo n t vs) (hq : ci.toInt = n.toInt) :
    MetFree l (⟨"java/util/ArrayList$Itr", "hasNext", "()Z"⟩ : MethodName) (head1 (Jvm.Cond.code (⟨"java/util/ArrayList$Itr", "hasNext", "()Z"⟩ : MethodName) jdk_49_method_2_code 1 (some .boolean) :: ws) ({ frames := 0, cells := 0, slots := 0, locals := 0 } : Room)) (fun a_ U_ => a_ = #[(.ref a)] ∧ Z.Warmed39 U_.vm ∧ U_.heap = h0) (fun _ _ _ _ _ => True) (fun _ U_ o_ V_ => ∃ v_ L_, o_ = .returned v_ ∧ QP (.int (0 : Int32)) h0 n0 v_ V_.heap L_ ∧ FrameEnd U_ o_ V_ L_ ({ frames := 0, cells := 0, slots := 0, locals := 0 } : Room).cells ({ frames := 0, cells := 0, slots := 0, locals := 0 } : Room).slots) := by
  refine MetFree.of_bodySF (plainFor_of_name pn_6) hisR ?_
  intro p e s m args below meth c s₁ Bd hml0 hP hK
  obtain ⟨rfl, hZ, hh⟩ := hP
  have hx := Bd.exec
  have hby := Bd.bytes
  have hml : c.maxLocals = 1 := hml0
  have hown : s.vm.findClass "java/util/ArrayList$Itr" = some m.cls := findClass_of_methodNamed Bd.named
  have hnm := (name_of_methodNamed Bd.named Bd.method).1
  have X0 : Stand p l e ({ frames := 0, cells := 0, slots := 0, locals := 0 } : Room) s m #[(.ref a)] below meth c s₁ [] 0 0 := Stand.of_body Bd
  have e0 : s₁.heap = h0 := by rw [← hh, Bd.state]; rfl
  have N0 := Fr.nil n0
  have pre0 : ∀ t_1, Steps p.tables e below (s₁.setTop (mkF m 0 #[.val (.ref a)] [])) t_1 → Steps p.tables e below (s₁.setTop (entryFrame m #[(.ref a)] 1)) t_1 := fun t_ k_ => castTop (ef_rmH0 m a) k_
  obtain ⟨I1, I2, I3, ⟨r4, I4⟩, I5⟩ := I
  obtain ⟨T1, X1, e1, st1⟩ := getF X0 hx hZ hown (host := "") (Or.inl (hw _ (List.mem_of_getElem? (i := 150) rfl))) Via.refl e0 I3 (g := (mkF m 1 #[.val (.ref a)] [(.ref a)])) rfl rfl (hb hby d22_1)
  obtain ⟨T2, X2, e2, st2⟩ := getF X1 hx hZ hown (host := "") (Or.inl (hw _ (List.mem_of_getElem? (i := 128) rfl))) Via.refl e1 I2 (g := (mkF m 5 #[.val (.ref a)] [(.ref a), (.int ci)])) rfl rfl (hb hby d22_5)
  obtain ⟨T3, X3, e3, st3⟩ := getF X2 hx hZ hown (Or.inr (hw _ (List.mem_of_getElem? (i := 152) rfl))) Via.refl e2 B.2.2.1 (g := (mkF m 8 #[.val (.ref a)] [(.ref lc), (.int ci)])) rfl rfl (hb hby d22_8)
  obtain ⟨fs, hr, hrun, hended, hW, hsame⟩ := X3.leave (v := some (.int (0 : Int32))) (fun h => by rw [Bd.returns] at h; cases h)
  refine ⟨_, _, pre0 _ ?_, hrun, hended, _, _, rfl, ?_, ⟨_, rfl⟩, hW, hsame.mono (by decide) (by decide)⟩
  · show Steps p.tables e below (s₁.setTop (mkF m 0 #[.val (.ref a)] [])) _
    refine XS.aloadN X0.here hx rfl (hb hby d22_0) rfl rfl ?_
    show Steps p.tables e below (s₁.setTop (mkF m 1 #[.val (.ref a)] [(.ref a)])) _
    refine st1 _ ?_
    show Steps p.tables e below (T1.setTop (mkF m 4 #[.val (.ref a)] [(.int ci)])) _
    refine XS.aloadN X1.here hx rfl (hb hby d22_4) rfl rfl ?_
    show Steps p.tables e below (T1.setTop (mkF m 5 #[.val (.ref a)] [(.ref a), (.int ci)])) _
    refine st2 _ ?_
    show Steps p.tables e below (T2.setTop (mkF m 8 #[.val (.ref a)] [(.ref lc), (.int ci)])) _
    refine st3 _ ?_
    show Steps p.tables e below (T3.setTop (mkF m 11 #[.val (.ref a)] [(.int n), (.int ci)])) _
    refine XS.icmpYes X3.here hx rfl (pc0 := 11) (pc' := 18) rfl (hb hby d22_11) rfl ((Jvm.Own.holdsII _ _ _).trans (Jvm.Own.dT hq)) (by decide) (by decide) ?_
    show Steps p.tables e below (T3.setTop (mkF m 18 #[.val (.ref a)] [])) _
    refine XS.iconst X3.here hx rfl (hb hby d22_18) ?_
    show Steps p.tables e below (T3.setTop (mkF m 19 #[.val (.ref a)] [(.int (0 : Int32))])) _
    exact retN X3 hx (t := .boolean) Bd.returns (by simp) (hb hby d22_19) hr
  · show QP (.int (0 : Int32)) h0 n0 _ T3.heap _
    rw [e3]
    exact ⟨rfl, N0, rfl⟩
theorem ef_rmH1 (m : MethodId) (a : Addr) : entryFrame m #[(.ref a)] 1 = mkF m 0 #[.val (.ref a)] [] := by first | (simp [entryFrame, mkF, argsToLocals, Value.category]; done) | rfl
set_option maxRecDepth 65536 in
set_option maxHeartbeats 40000000 in
theorem rmH1 (l : Launch) (Z : State) (a0 : Array Value) (hw : ∀ d ∈ tables_1, d.before a0 Z = true) (ws : List Jvm.Cond) (a : Addr) (h0 : Heap) (n0 : Nat) (Z0 : n0 ≤ h0.size) (lc : Addr) (ci mo n : Int32) (t : Addr) (vs : List Value) (I : IT Z h0 a lc ci mo) (B : LS Z h0 lc mo n t vs) (hq : ¬ ci.toInt = n.toInt) :
    MetFree l (⟨"java/util/ArrayList$Itr", "hasNext", "()Z"⟩ : MethodName) (head1 (Jvm.Cond.code (⟨"java/util/ArrayList$Itr", "hasNext", "()Z"⟩ : MethodName) jdk_49_method_2_code 1 (some .boolean) :: ws) ({ frames := 0, cells := 0, slots := 0, locals := 0 } : Room)) (fun a_ U_ => a_ = #[(.ref a)] ∧ Z.Warmed39 U_.vm ∧ U_.heap = h0) (fun _ _ _ _ _ => True) (fun _ U_ o_ V_ => ∃ v_ L_, o_ = .returned v_ ∧ QP (.int (1 : Int32)) h0 n0 v_ V_.heap L_ ∧ FrameEnd U_ o_ V_ L_ ({ frames := 0, cells := 0, slots := 0, locals := 0 } : Room).cells ({ frames := 0, cells := 0, slots := 0, locals := 0 } : Room).slots) := by
  refine MetFree.of_bodySF (plainFor_of_name pn_6) hisR ?_
  intro p e s m args below meth c s₁ Bd hml0 hP hK
  obtain ⟨rfl, hZ, hh⟩ := hP
  have hx := Bd.exec
  have hby := Bd.bytes
  have hml : c.maxLocals = 1 := hml0
  have hown : s.vm.findClass "java/util/ArrayList$Itr" = some m.cls := findClass_of_methodNamed Bd.named
  have hnm := (name_of_methodNamed Bd.named Bd.method).1
  have X0 : Stand p l e ({ frames := 0, cells := 0, slots := 0, locals := 0 } : Room) s m #[(.ref a)] below meth c s₁ [] 0 0 := Stand.of_body Bd
  have e0 : s₁.heap = h0 := by rw [← hh, Bd.state]; rfl
  have N0 := Fr.nil n0
  have pre0 : ∀ t_1, Steps p.tables e below (s₁.setTop (mkF m 0 #[.val (.ref a)] [])) t_1 → Steps p.tables e below (s₁.setTop (entryFrame m #[(.ref a)] 1)) t_1 := fun t_ k_ => castTop (ef_rmH1 m a) k_
  obtain ⟨I1, I2, I3, ⟨r4, I4⟩, I5⟩ := I
  obtain ⟨T1, X1, e1, st1⟩ := getF X0 hx hZ hown (host := "") (Or.inl (hw _ (List.mem_of_getElem? (i := 150) rfl))) Via.refl e0 I3 (g := (mkF m 1 #[.val (.ref a)] [(.ref a)])) rfl rfl (hb hby d22_1)
  obtain ⟨T2, X2, e2, st2⟩ := getF X1 hx hZ hown (host := "") (Or.inl (hw _ (List.mem_of_getElem? (i := 128) rfl))) Via.refl e1 I2 (g := (mkF m 5 #[.val (.ref a)] [(.ref a), (.int ci)])) rfl rfl (hb hby d22_5)
  obtain ⟨T3, X3, e3, st3⟩ := getF X2 hx hZ hown (Or.inr (hw _ (List.mem_of_getElem? (i := 152) rfl))) Via.refl e2 B.2.2.1 (g := (mkF m 8 #[.val (.ref a)] [(.ref lc), (.int ci)])) rfl rfl (hb hby d22_8)
  obtain ⟨fs, hr, hrun, hended, hW, hsame⟩ := X3.leave (v := some (.int (1 : Int32))) (fun h => by rw [Bd.returns] at h; cases h)
  refine ⟨_, _, pre0 _ ?_, hrun, hended, _, _, rfl, ?_, ⟨_, rfl⟩, hW, hsame.mono (by decide) (by decide)⟩
  · show Steps p.tables e below (s₁.setTop (mkF m 0 #[.val (.ref a)] [])) _
    refine XS.aloadN X0.here hx rfl (hb hby d22_0) rfl rfl ?_
    show Steps p.tables e below (s₁.setTop (mkF m 1 #[.val (.ref a)] [(.ref a)])) _
    refine st1 _ ?_
    show Steps p.tables e below (T1.setTop (mkF m 4 #[.val (.ref a)] [(.int ci)])) _
    refine XS.aloadN X1.here hx rfl (hb hby d22_4) rfl rfl ?_
    show Steps p.tables e below (T1.setTop (mkF m 5 #[.val (.ref a)] [(.ref a), (.int ci)])) _
    refine st2 _ ?_
    show Steps p.tables e below (T2.setTop (mkF m 8 #[.val (.ref a)] [(.ref lc), (.int ci)])) _
    refine st3 _ ?_
    show Steps p.tables e below (T3.setTop (mkF m 11 #[.val (.ref a)] [(.int n), (.int ci)])) _
    refine XS.icmpNo X3.here hx rfl (hb hby d22_11) rfl ((Jvm.Own.holdsII _ _ _).trans (Jvm.Own.dF hq)) ?_
    show Steps p.tables e below (T3.setTop (mkF m 14 #[.val (.ref a)] [])) _
    refine XS.iconst X3.here hx rfl (hb hby d22_14) ?_
    show Steps p.tables e below (T3.setTop (mkF m 15 #[.val (.ref a)] [(.int (1 : Int32))])) _
    refine XS.goto X3.here hx rfl (pc0 := 15) (pc' := 19) rfl (hb hby d22_15) (by decide) (by decide) ?_
    show Steps p.tables e below (T3.setTop (mkF m 19 #[.val (.ref a)] [(.int (1 : Int32))])) _
    exact retN X3 hx (t := .boolean) Bd.returns (by simp) (hb hby d22_19) hr
  · show QP (.int (1 : Int32)) h0 n0 _ T3.heap _
    rw [e3]
    exact ⟨rfl, N0, rfl⟩
theorem ef_rmDv (m : MethodId) (a : Addr) : entryFrame m #[(.ref a)] 1 = mkF m 0 #[.val (.ref a)] [] := by first | (simp [entryFrame, mkF, argsToLocals, Value.category]; done) | rfl
set_option maxRecDepth 65536 in
set_option maxHeartbeats 40000000 in
theorem rmDv (l : Launch) (Z : State) (a0 : Array Value) (hw : ∀ d ∈ tables_1, d.before a0 Z = true) (ws : List Jvm.Cond) (a : Addr) (h0 : Heap) (n0 : Nat) (Z0 : n0 ≤ h0.size) (w : UInt64) (B : Bx Z h0 a w) :
    MetFree l (⟨"java/lang/Double", "doubleValue", "()D"⟩ : MethodName) (head1 (Jvm.Cond.code (⟨"java/lang/Double", "doubleValue", "()D"⟩ : MethodName) jdk_117_method_19_code 1 (some .double) :: ws) ({ frames := 0, cells := 0, slots := 0, locals := 0 } : Room)) (fun a_ U_ => a_ = #[(.ref a)] ∧ Z.Warmed39 U_.vm ∧ U_.heap = h0) (fun _ _ _ _ _ => True) (fun _ U_ o_ V_ => ∃ v_ L_, o_ = .returned v_ ∧ QP (.double w) h0 n0 v_ V_.heap L_ ∧ FrameEnd U_ o_ V_ L_ ({ frames := 0, cells := 0, slots := 0, locals := 0 } : Room).cells ({ frames := 0, cells := 0, slots := 0, locals := 0 } : Room).slots) := by
  refine MetFree.of_bodySF (plainFor_of_name pn_4) hisR ?_
  intro p e s m args below meth c s₁ Bd hml0 hP hK
  obtain ⟨rfl, hZ, hh⟩ := hP
  have hx := Bd.exec
  have hby := Bd.bytes
  have hml : c.maxLocals = 1 := hml0
  have hown : s.vm.findClass "java/lang/Double" = some m.cls := findClass_of_methodNamed Bd.named
  have hnm := (name_of_methodNamed Bd.named Bd.method).1
  have X0 : Stand p l e ({ frames := 0, cells := 0, slots := 0, locals := 0 } : Room) s m #[(.ref a)] below meth c s₁ [] 0 0 := Stand.of_body Bd
  have e0 : s₁.heap = h0 := by rw [← hh, Bd.state]; rfl
  have N0 := Fr.nil n0
  have pre0 : ∀ t_1, Steps p.tables e below (s₁.setTop (mkF m 0 #[.val (.ref a)] [])) t_1 → Steps p.tables e below (s₁.setTop (entryFrame m #[(.ref a)] 1)) t_1 := fun t_ k_ => castTop (ef_rmDv m a) k_
  obtain ⟨T1, X1, e1, st1⟩ := getF X0 hx hZ hown (host := "") (Or.inl (hw _ (List.mem_of_getElem? (i := 66) rfl))) Via.refl e0 B.2 (g := (mkF m 1 #[.val (.ref a)] [(.ref a)])) rfl rfl (hb hby d23_1)
  obtain ⟨fs, hr, hrun, hended, hW, hsame⟩ := X1.leave (v := some (.double w)) (fun h => by rw [Bd.returns] at h; cases h)
  refine ⟨_, _, pre0 _ ?_, hrun, hended, _, _, rfl, ?_, ⟨_, rfl⟩, hW, hsame.mono (by decide) (by decide)⟩
  · show Steps p.tables e below (s₁.setTop (mkF m 0 #[.val (.ref a)] [])) _
    refine XS.aloadN X0.here hx rfl (hb hby d23_0) rfl rfl ?_
    show Steps p.tables e below (s₁.setTop (mkF m 1 #[.val (.ref a)] [(.ref a)])) _
    refine st1 _ ?_
    show Steps p.tables e below (T1.setTop (mkF m 4 #[.val (.ref a)] [(.double w)])) _
    exact Jvm.RoadKit.retD X1 hx Bd.returns (hb hby d23_4) hr
  · show QP (.double w) h0 n0 _ T1.heap _
    rw [e1]
    exact ⟨rfl, N0, rfl⟩
theorem ef_rmNn (m : MethodId) (w : UInt64) : entryFrame m #[(.double w)] 2 = mkF m 0 #[.val (.double w), .second] [] := by first | (simp [entryFrame, mkF, argsToLocals, Value.category]; done) | rfl
set_option maxRecDepth 65536 in
set_option maxHeartbeats 40000000 in
theorem rmNn (l : Launch) (Z : State) (a0 : Array Value) (hw : ∀ d ∈ tables_1, d.before a0 Z = true) (ws : List Jvm.Cond) (w : UInt64) (h0 : Heap) (n0 : Nat) (Z0 : n0 ≤ h0.size) (fw : Jvm.FP.Core.DFin w) :
    MetFree l (⟨"java/lang/Double", "isNaN", "(D)Z"⟩ : MethodName) (head1 (Jvm.Cond.code (⟨"java/lang/Double", "isNaN", "(D)Z"⟩ : MethodName) jdk_117_method_6_code 2 (some .boolean) :: ws) ({ frames := 0, cells := 0, slots := 0, locals := 0 } : Room)) (fun a_ U_ => a_ = #[(.double w)] ∧ Z.Warmed39 U_.vm ∧ U_.heap = h0) (fun _ _ _ _ _ => True) (fun _ U_ o_ V_ => ∃ v_ L_, o_ = .returned v_ ∧ QP (.int (0 : Int32)) h0 n0 v_ V_.heap L_ ∧ FrameEnd U_ o_ V_ L_ ({ frames := 0, cells := 0, slots := 0, locals := 0 } : Room).cells ({ frames := 0, cells := 0, slots := 0, locals := 0 } : Room).slots) := by
  refine MetFree.of_bodySF (plainFor_of_name pn_4) hisR ?_
  intro p e s m args below meth c s₁ Bd hml0 hP hK
  obtain ⟨rfl, hZ, hh⟩ := hP
  have hx := Bd.exec
  have hby := Bd.bytes
  have hml : c.maxLocals = 2 := hml0
  have hown : s.vm.findClass "java/lang/Double" = some m.cls := findClass_of_methodNamed Bd.named
  have hnm := (name_of_methodNamed Bd.named Bd.method).1
  have X0 : Stand p l e ({ frames := 0, cells := 0, slots := 0, locals := 0 } : Room) s m #[(.double w)] below meth c s₁ [] 0 0 := Stand.of_body Bd
  have e0 : s₁.heap = h0 := by rw [← hh, Bd.state]; rfl
  have N0 := Fr.nil n0
  have pre0 : ∀ t_1, Steps p.tables e below (s₁.setTop (mkF m 0 #[.val (.double w), .second] [])) t_1 → Steps p.tables e below (s₁.setTop (entryFrame m #[(.double w)] 2)) t_1 := fun t_ k_ => castTop (ef_rmNn m w) k_
  obtain ⟨fs, hr, hrun, hended, hW, hsame⟩ := X0.leave (v := some (.int (0 : Int32))) (fun h => by rw [Bd.returns] at h; cases h)
  refine ⟨_, _, pre0 _ ?_, hrun, hended, _, _, rfl, ?_, ⟨_, rfl⟩, hW, hsame.mono (by decide) (by decide)⟩
  · show Steps p.tables e below (s₁.setTop (mkF m 0 #[.val (.double w), .second] [])) _
    refine XS.dloadN X0.here hx rfl (hb hby d28_0) rfl ?_
    show Steps p.tables e below (s₁.setTop (mkF m 1 #[.val (.double w), .second] [(.double w)])) _
    refine XS.dloadN X0.here hx rfl (hb hby d28_1) rfl ?_
    show Steps p.tables e below (s₁.setTop (mkF m 2 #[.val (.double w), .second] [(.double w), (.double w)])) _
    refine XS.dcmpS X0.here hx rfl (hb hby d28_2) rfl (v := Jvm.Op.cmpValue (FP.dcmp w w) .l) rfl ?_
    show Steps p.tables e below (s₁.setTop (mkF m 3 #[.val (.double w), .second] [(.int (Jvm.Op.cmpValue (FP.dcmp w w) .l))])) _
    refine XS.ifYes X0.here hx rfl (pc0 := 3) (pc' := 10) rfl (hb hby d28_3) rfl ((Jvm.Own.holdsD fw fw _ _).trans (Jvm.Own.dT rfl)) (by decide) (by decide) ?_
    show Steps p.tables e below (s₁.setTop (mkF m 10 #[.val (.double w), .second] [])) _
    refine XS.iconst X0.here hx rfl (hb hby d28_10) ?_
    show Steps p.tables e below (s₁.setTop (mkF m 11 #[.val (.double w), .second] [(.int (0 : Int32))])) _
    exact retN X0 hx (t := .boolean) Bd.returns (by simp) (hb hby d28_11) hr
  · show QP (.int (0 : Int32)) h0 n0 _ s₁.heap _
    rw [e0]
    exact ⟨rfl, N0, rfl⟩
theorem ef_rmLb (m : MethodId) (w : UInt64) : entryFrame m #[(.double w)] 2 = mkF m 0 #[.val (.double w), .second] [] := by first | (simp [entryFrame, mkF, argsToLocals, Value.category]; done) | rfl
set_option maxRecDepth 65536 in
set_option maxHeartbeats 40000000 in
theorem rmLb (l : Launch) (Z : State) (a0 : Array Value) (hw : ∀ d ∈ tables_1, d.before a0 Z = true) (ws : List Jvm.Cond) (w : UInt64) (h0 : Heap) (n0 : Nat) (Z0 : n0 ≤ h0.size) (fw : Jvm.FP.Core.DFin w) :
    MetFree l (⟨"java/lang/Double", "doubleToLongBits", "(D)J"⟩ : MethodName) (head1 (Jvm.Cond.code (⟨"java/lang/Double", "doubleToLongBits", "(D)J"⟩ : MethodName) jdk_117_method_23_code 2 (some .long) :: ws) ({ frames := 1, cells := 0, slots := 0, locals := 40 } : Room)) (fun a_ U_ => a_ = #[(.double w)] ∧ Z.Warmed39 U_.vm ∧ U_.heap = h0) (fun _ _ _ _ _ => True) (fun _ U_ o_ V_ => ∃ v_ L_, o_ = .returned v_ ∧ QP (.long w.toInt64) h0 n0 v_ V_.heap L_ ∧ FrameEnd U_ o_ V_ L_ ({ frames := 1, cells := 0, slots := 0, locals := 40 } : Room).cells ({ frames := 1, cells := 0, slots := 0, locals := 40 } : Room).slots) := by
  refine MetFree.of_bodySF (plainFor_of_name pn_4) hisR ?_
  intro p e s m args below meth c s₁ Bd hml0 hP hK
  obtain ⟨rfl, hZ, hh⟩ := hP
  have hx := Bd.exec
  have hby := Bd.bytes
  have hml : c.maxLocals = 2 := hml0
  have hown : s.vm.findClass "java/lang/Double" = some m.cls := findClass_of_methodNamed Bd.named
  have hnm := (name_of_methodNamed Bd.named Bd.method).1
  have X0 : Stand p l e ({ frames := 1, cells := 0, slots := 0, locals := 40 } : Room) s m #[(.double w)] below meth c s₁ [] 0 0 := Stand.of_body Bd
  have e0 : s₁.heap = h0 := by rw [← hh, Bd.state]; rfl
  have N0 := Fr.nil n0
  have pre0 : ∀ t_1, Steps p.tables e below (s₁.setTop (mkF m 0 #[.val (.double w), .second] [])) t_1 → Steps p.tables e below (s₁.setTop (entryFrame m #[(.double w)] 2)) t_1 := fun t_ k_ => castTop (ef_rmLb m w) k_
  obtain ⟨_, _, ⟨T1, L1, k1, n1⟩, -, X1, ⟨Lc1, hQ1, l1, y1, z1⟩, st1⟩ := Jvm.LawKit.callS X0 hx (y := (⟨"java/lang/Double", "isNaN", "(D)Z"⟩ : MethodName)) hown (mvT hZ (hw _ (List.mem_of_getElem? (i := 189) rfl))) (mvT hZ (hw _ (List.mem_of_getElem? (i := 190) rfl))) (mvT hZ (hw _ (List.mem_of_getElem? (i := 51) rfl))) (mvT hZ (hw _ (List.mem_of_getElem? (i := 191) rfl))) (by decide) (backOf (W := 0) (rmNn l Z a0 hw [] w h0 n0 Z0 fw) hZ (hw _ (List.mem_of_getElem? (i := 191) rfl)) (hw _ (List.mem_of_getElem? (i := 51) rfl)) (by decide) (by decide)) (g := (mkF m 1 #[.val (.double w), .second] [(.double w)])) rfl (by rw [hml]; rfl) (argsL := [(.double w)]) (rest := []) (lenOf pd_9 rfl) rfl (by show 2 * 0 + _ ≤ _; exact Nat.le_of_eq rfl) (hb hby d27_1) (fun _ _ => ⟨rfl, e0, (by decide : 0 + 0 ≤ _), (by decide : 0 + 0 ≤ _)⟩)
  dsimp only [Pt.U, Pt.locs, Pt.cells, Pt.slots] at X1 l1 y1 z1 st1 hQ1
  subst l1 y1 z1
  obtain ⟨rfl, N1, e1⟩ := hQ1
  obtain ⟨vm2, X2, st2⟩ := X1.doubleToRawLongBits hx hown (mvT hZ (hw _ (List.mem_of_getElem? (i := 192) rfl))) (mvT hZ (hw _ (List.mem_of_getElem? (i := 194) rfl))) (mvT hZ (hw _ (List.mem_of_getElem? (i := 193) rfl))) (mvT hZ (hw _ (List.mem_of_getElem? (i := 51) rfl))) (g := (mkF m 8 #[.val (.double w), .second] [(.double w)])) rfl (by rw [hml]; rfl) (rest := []) (b := w) rfl (hb hby d27_8) (by decide) (by show 2 * 0 + 0 + _ ≤ _; decide +kernel)
  obtain ⟨fs, hr, hrun, hended, hW, hsame⟩ := X2.leave (v := some (.long w.toInt64)) (fun h => by rw [Bd.returns] at h; cases h)
  refine ⟨_, _, pre0 _ ?_, hrun, hended, _, _, rfl, ?_, ⟨_, rfl⟩, hW, hsame.mono (by decide) (by decide)⟩
  · show Steps p.tables e below (s₁.setTop (mkF m 0 #[.val (.double w), .second] [])) _
    refine XS.dloadN X0.here hx rfl (hb hby d27_0) rfl ?_
    show Steps p.tables e below (s₁.setTop (mkF m 1 #[.val (.double w), .second] [(.double w)])) _
    refine st1 _ ?_
    show Steps p.tables e below (T1.setTop (mkF m 4 #[.val (.double w), .second] [(.int (0 : Int32))])) _
    refine XS.ifNo X1.here hx rfl (hb hby d27_4) rfl rfl ?_
    show Steps p.tables e below (T1.setTop (mkF m 7 #[.val (.double w), .second] [])) _
    refine XS.dloadN X1.here hx rfl (hb hby d27_7) rfl ?_
    show Steps p.tables e below (T1.setTop (mkF m 8 #[.val (.double w), .second] [(.double w)])) _
    refine st2 _ ?_
    show Steps p.tables e below ((T1.setVm vm2).setTop (mkF m 11 #[.val (.double w), .second] [(.long w.toInt64)])) _
    exact X2.lreturnOut hx Bd.returns (hb hby d27_11) hr
  · show QP (.long w.toInt64) h0 n0 _ (T1.setVm vm2).heap _
    exact ⟨rfl, Fr.app N0 N1, e1⟩
theorem ef_rmCp (m : MethodId) (wx : UInt64) (wy : UInt64) : entryFrame m #[(.double wx), (.double wy)] 8 = mkF m 0 #[.val (.double wx), .second, .val (.double wy), .second, .unset, .unset, .unset, .unset] [] := by first | (simp [entryFrame, mkF, argsToLocals, Value.category]; done) | rfl
set_option maxRecDepth 65536 in
set_option maxHeartbeats 40000000 in
theorem rmCp (l : Launch) (Z : State) (a0 : Array Value) (hw : ∀ d ∈ tables_1, d.before a0 Z = true) (ws : List Jvm.Cond) (wx : UInt64) (wy : UInt64) (h0 : Heap) (n0 : Nat) (Z0 : n0 ≤ h0.size) (fx : Jvm.FP.Core.DFin wx) (fy : Jvm.FP.Core.DFin wy) :
    MetFree l (⟨"java/lang/Double", "compare", "(DD)I"⟩ : MethodName) (head1 (Jvm.Cond.code (⟨"java/lang/Double", "compare", "(DD)I"⟩ : MethodName) jdk_117_method_27_code 8 (some .int) :: ws) ({ frames := 2, cells := 0, slots := 0, locals := 60 } : Room)) (fun a_ U_ => a_ = #[(.double wx), (.double wy)] ∧ Z.Warmed39 U_.vm ∧ U_.heap = h0) (fun _ _ _ _ _ => True) (fun _ U_ o_ V_ => ∃ v_ L_, o_ = .returned v_ ∧ QC wx wy h0 n0 v_ V_.heap L_ ∧ FrameEnd U_ o_ V_ L_ ({ frames := 2, cells := 0, slots := 0, locals := 60 } : Room).cells ({ frames := 2, cells := 0, slots := 0, locals := 60 } : Room).slots) := by
  refine MetFree.of_bodySF (plainFor_of_name pn_4) hisR ?_
  intro p e s m args below meth c s₁ Bd hml0 hP hK
  obtain ⟨rfl, hZ, hh⟩ := hP
  have hx := Bd.exec
  have hby := Bd.bytes
  have hml : c.maxLocals = 8 := hml0
  have hown : s.vm.findClass "java/lang/Double" = some m.cls := findClass_of_methodNamed Bd.named
  have hnm := (name_of_methodNamed Bd.named Bd.method).1
  have X0 : Stand p l e ({ frames := 2, cells := 0, slots := 0, locals := 60 } : Room) s m #[(.double wx), (.double wy)] below meth c s₁ [] 0 0 := Stand.of_body Bd
  have e0 : s₁.heap = h0 := by rw [← hh, Bd.state]; rfl
  have N0 := Fr.nil n0
  have pre0 : ∀ t_1, Steps p.tables e below (s₁.setTop (mkF m 0 #[.val (.double wx), .second, .val (.double wy), .second, .unset, .unset, .unset, .unset] [])) t_1 → Steps p.tables e below (s₁.setTop (entryFrame m #[(.double wx), (.double wy)] 8)) t_1 := fun t_ k_ => castTop (ef_rmCp m wx wy) k_
  rcases Int.lt_trichotomy (Jvm.Own.z wx) (Jvm.Own.z wy) with q | q | q
  · obtain ⟨fs, hr, hrun, hended, hW, hsame⟩ := X0.leave (v := some (.int (-1 : Int32))) (fun h => by rw [Bd.returns] at h; cases h)
    refine ⟨_, _, pre0 _ ?_, hrun, hended, _, _, rfl, ?_, ⟨_, rfl⟩, hW, hsame.mono (by decide) (by decide)⟩
    · show Steps p.tables e below (s₁.setTop (mkF m 0 #[.val (.double wx), .second, .val (.double wy), .second, .unset, .unset, .unset, .unset] [])) _
      refine XS.dloadN X0.here hx rfl (hb hby d26_0) rfl ?_
      show Steps p.tables e below (s₁.setTop (mkF m 1 #[.val (.double wx), .second, .val (.double wy), .second, .unset, .unset, .unset, .unset] [(.double wx)])) _
      refine XS.dloadN X0.here hx rfl (hb hby d26_1) rfl ?_
      show Steps p.tables e below (s₁.setTop (mkF m 2 #[.val (.double wx), .second, .val (.double wy), .second, .unset, .unset, .unset, .unset] [(.double wy), (.double wx)])) _
      refine XS.dcmpS X0.here hx rfl (hb hby d26_2) rfl (v := Jvm.Op.cmpValue (FP.dcmp wx wy) .g) rfl ?_
      show Steps p.tables e below (s₁.setTop (mkF m 3 #[.val (.double wx), .second, .val (.double wy), .second, .unset, .unset, .unset, .unset] [(.int (Jvm.Op.cmpValue (FP.dcmp wx wy) .g))])) _
      refine XS.ifNo X0.here hx rfl (hb hby d26_3) rfl ((Jvm.Own.holdsD fx fy _ _).trans (Jvm.Own.dF (by omega))) ?_
      show Steps p.tables e below (s₁.setTop (mkF m 6 #[.val (.double wx), .second, .val (.double wy), .second, .unset, .unset, .unset, .unset] [])) _
      refine XS.iconst X0.here hx rfl (hb hby d26_6) ?_
      show Steps p.tables e below (s₁.setTop (mkF m 7 #[.val (.double wx), .second, .val (.double wy), .second, .unset, .unset, .unset, .unset] [(.int (-1 : Int32))])) _
      exact Jvm.RoadKit.retI X0 hx Bd.returns (hb hby d26_7) hr
    · show QC wx wy h0 n0 _ s₁.heap _
      rw [e0]
      exact ⟨_, rfl, N0, rfl, fun _ => by decide, fun q2 => by omega⟩
  · rcases Int.lt_trichotomy wx.toInt64.toInt wy.toInt64.toInt with r | r | r
    · obtain ⟨_, _, ⟨T1, L1, k1, n1⟩, -, X1, ⟨Lc1, hQ1, l1, y1, z1⟩, st1⟩ := Jvm.LawKit.callS X0 hx (y := (⟨"java/lang/Double", "doubleToLongBits", "(D)J"⟩ : MethodName)) hown (mvT hZ (hw _ (List.mem_of_getElem? (i := 186) rfl))) (mvT hZ (hw _ (List.mem_of_getElem? (i := 187) rfl))) (mvT hZ (hw _ (List.mem_of_getElem? (i := 51) rfl))) (mvT hZ (hw _ (List.mem_of_getElem? (i := 188) rfl))) (by decide) (backOf (W := 0) (rmLb l Z a0 hw [] wx h0 n0 Z0 fx) hZ (hw _ (List.mem_of_getElem? (i := 188) rfl)) (hw _ (List.mem_of_getElem? (i := 51) rfl)) (by decide) (by decide)) (g := (mkF m 17 #[.val (.double wx), .second, .val (.double wy), .second, .unset, .unset, .unset, .unset] [(.double wx)])) rfl (by rw [hml]; rfl) (argsL := [(.double wx)]) (rest := []) (lenOf pd_10 rfl) rfl (by show 2 * 0 + _ ≤ _; exact Nat.le_of_eq rfl) (hb hby d26_17) (fun _ _ => ⟨rfl, e0, (by decide : 0 + 0 ≤ _), (by decide : 0 + 0 ≤ _)⟩)
      dsimp only [Pt.U, Pt.locs, Pt.cells, Pt.slots] at X1 l1 y1 z1 st1 hQ1
      subst l1 y1 z1
      obtain ⟨rfl, N1, e1⟩ := hQ1
      obtain ⟨_, _, ⟨T2, L2, k2, n2⟩, -, X2, ⟨Lc2, hQ2, l2, y2, z2⟩, st2⟩ := Jvm.LawKit.callS X1 hx (y := (⟨"java/lang/Double", "doubleToLongBits", "(D)J"⟩ : MethodName)) hown (mvT hZ (hw _ (List.mem_of_getElem? (i := 186) rfl))) (mvT hZ (hw _ (List.mem_of_getElem? (i := 187) rfl))) (mvT hZ (hw _ (List.mem_of_getElem? (i := 51) rfl))) (mvT hZ (hw _ (List.mem_of_getElem? (i := 188) rfl))) (by decide) (backOf (W := 0) (rmLb l Z a0 hw [] wy h0 n0 Z0 fy) hZ (hw _ (List.mem_of_getElem? (i := 188) rfl)) (hw _ (List.mem_of_getElem? (i := 51) rfl)) (by decide) (by decide)) (g := (mkF m 23 #[.val (.double wx), .second, .val (.double wy), .second, .val (.long wx.toInt64), .second, .unset, .unset] [(.double wy)])) rfl (by rw [hml]; rfl) (argsL := [(.double wy)]) (rest := []) (lenOf pd_10 rfl) rfl (by show 2 * 0 + _ ≤ _; exact Nat.le_of_eq rfl) (hb hby d26_23) (fun _ _ => ⟨rfl, e1, (by decide : 0 + 0 ≤ _), (by decide : 0 + 0 ≤ _)⟩)
      dsimp only [Pt.U, Pt.locs, Pt.cells, Pt.slots] at X2 l2 y2 z2 st2 hQ2
      subst l2 y2 z2
      obtain ⟨rfl, N2, e2⟩ := hQ2
      obtain ⟨fs, hr, hrun, hended, hW, hsame⟩ := X2.leave (v := some (.int (-1 : Int32))) (fun h => by rw [Bd.returns] at h; cases h)
      refine ⟨_, _, pre0 _ ?_, hrun, hended, _, _, rfl, ?_, ⟨_, rfl⟩, hW, hsame.mono (by decide) (by decide)⟩
      · show Steps p.tables e below (s₁.setTop (mkF m 0 #[.val (.double wx), .second, .val (.double wy), .second, .unset, .unset, .unset, .unset] [])) _
        refine XS.dloadN X0.here hx rfl (hb hby d26_0) rfl ?_
        show Steps p.tables e below (s₁.setTop (mkF m 1 #[.val (.double wx), .second, .val (.double wy), .second, .unset, .unset, .unset, .unset] [(.double wx)])) _
        refine XS.dloadN X0.here hx rfl (hb hby d26_1) rfl ?_
        show Steps p.tables e below (s₁.setTop (mkF m 2 #[.val (.double wx), .second, .val (.double wy), .second, .unset, .unset, .unset, .unset] [(.double wy), (.double wx)])) _
        refine XS.dcmpS X0.here hx rfl (hb hby d26_2) rfl (v := Jvm.Op.cmpValue (FP.dcmp wx wy) .g) rfl ?_
        show Steps p.tables e below (s₁.setTop (mkF m 3 #[.val (.double wx), .second, .val (.double wy), .second, .unset, .unset, .unset, .unset] [(.int (Jvm.Op.cmpValue (FP.dcmp wx wy) .g))])) _
        refine XS.ifYes X0.here hx rfl (pc0 := 3) (pc' := 8) rfl (hb hby d26_3) rfl ((Jvm.Own.holdsD fx fy _ _).trans (Jvm.Own.dT (by omega))) (by decide) (by decide) ?_
        show Steps p.tables e below (s₁.setTop (mkF m 8 #[.val (.double wx), .second, .val (.double wy), .second, .unset, .unset, .unset, .unset] [])) _
        refine XS.dloadN X0.here hx rfl (hb hby d26_8) rfl ?_
        show Steps p.tables e below (s₁.setTop (mkF m 9 #[.val (.double wx), .second, .val (.double wy), .second, .unset, .unset, .unset, .unset] [(.double wx)])) _
        refine XS.dloadN X0.here hx rfl (hb hby d26_9) rfl ?_
        show Steps p.tables e below (s₁.setTop (mkF m 10 #[.val (.double wx), .second, .val (.double wy), .second, .unset, .unset, .unset, .unset] [(.double wy), (.double wx)])) _
        refine XS.dcmpS X0.here hx rfl (hb hby d26_10) rfl (v := Jvm.Op.cmpValue (FP.dcmp wx wy) .l) rfl ?_
        show Steps p.tables e below (s₁.setTop (mkF m 11 #[.val (.double wx), .second, .val (.double wy), .second, .unset, .unset, .unset, .unset] [(.int (Jvm.Op.cmpValue (FP.dcmp wx wy) .l))])) _
        refine XS.ifYes X0.here hx rfl (pc0 := 11) (pc' := 16) rfl (hb hby d26_11) rfl ((Jvm.Own.holdsD fx fy _ _).trans (Jvm.Own.dT (by omega))) (by decide) (by decide) ?_
        show Steps p.tables e below (s₁.setTop (mkF m 16 #[.val (.double wx), .second, .val (.double wy), .second, .unset, .unset, .unset, .unset] [])) _
        refine XS.dloadN X0.here hx rfl (hb hby d26_16) rfl ?_
        show Steps p.tables e below (s₁.setTop (mkF m 17 #[.val (.double wx), .second, .val (.double wy), .second, .unset, .unset, .unset, .unset] [(.double wx)])) _
        refine st1 _ ?_
        show Steps p.tables e below (T1.setTop (mkF m 20 #[.val (.double wx), .second, .val (.double wy), .second, .unset, .unset, .unset, .unset] [(.long wx.toInt64)])) _
        refine XS.lstore X1.here hx rfl (hb hby d26_20) rfl (l' := #[.val (.double wx), .second, .val (.double wy), .second, .val (.long wx.toInt64), .second, .unset, .unset]) rfl ?_
        show Steps p.tables e below (T1.setTop (mkF m 22 #[.val (.double wx), .second, .val (.double wy), .second, .val (.long wx.toInt64), .second, .unset, .unset] [])) _
        refine XS.dloadN X1.here hx rfl (hb hby d26_22) rfl ?_
        show Steps p.tables e below (T1.setTop (mkF m 23 #[.val (.double wx), .second, .val (.double wy), .second, .val (.long wx.toInt64), .second, .unset, .unset] [(.double wy)])) _
        refine st2 _ ?_
        show Steps p.tables e below (T2.setTop (mkF m 26 #[.val (.double wx), .second, .val (.double wy), .second, .val (.long wx.toInt64), .second, .unset, .unset] [(.long wy.toInt64)])) _
        refine XS.lstore X2.here hx rfl (hb hby d26_26) rfl (l' := #[.val (.double wx), .second, .val (.double wy), .second, .val (.long wx.toInt64), .second, .val (.long wy.toInt64), .second]) rfl ?_
        show Steps p.tables e below (T2.setTop (mkF m 28 #[.val (.double wx), .second, .val (.double wy), .second, .val (.long wx.toInt64), .second, .val (.long wy.toInt64), .second] [])) _
        refine XS.lload X2.here hx rfl (hb hby d26_28) rfl ?_
        show Steps p.tables e below (T2.setTop (mkF m 30 #[.val (.double wx), .second, .val (.double wy), .second, .val (.long wx.toInt64), .second, .val (.long wy.toInt64), .second] [(.long wx.toInt64)])) _
        refine XS.lload X2.here hx rfl (hb hby d26_30) rfl ?_
        show Steps p.tables e below (T2.setTop (mkF m 32 #[.val (.double wx), .second, .val (.double wy), .second, .val (.long wx.toInt64), .second, .val (.long wy.toInt64), .second] [(.long wy.toInt64), (.long wx.toInt64)])) _
        refine XS.lcmp X2.here hx rfl (hb hby d26_32) rfl ?_
        show Steps p.tables e below (T2.setTop (mkF m 33 #[.val (.double wx), .second, .val (.double wy), .second, .val (.long wx.toInt64), .second, .val (.long wy.toInt64), .second] [(.int (lcmpW wx.toInt64 wy.toInt64))])) _
        refine XS.ifYes X2.here hx rfl (pc0 := 33) (pc' := 40) rfl (hb hby d26_33) rfl ((Jvm.Own.holdsL _ _ _).trans (Jvm.Own.dT (by omega))) (by decide) (by decide) ?_
        show Steps p.tables e below (T2.setTop (mkF m 40 #[.val (.double wx), .second, .val (.double wy), .second, .val (.long wx.toInt64), .second, .val (.long wy.toInt64), .second] [])) _
        refine XS.lload X2.here hx rfl (hb hby d26_40) rfl ?_
        show Steps p.tables e below (T2.setTop (mkF m 42 #[.val (.double wx), .second, .val (.double wy), .second, .val (.long wx.toInt64), .second, .val (.long wy.toInt64), .second] [(.long wx.toInt64)])) _
        refine XS.lload X2.here hx rfl (hb hby d26_42) rfl ?_
        show Steps p.tables e below (T2.setTop (mkF m 44 #[.val (.double wx), .second, .val (.double wy), .second, .val (.long wx.toInt64), .second, .val (.long wy.toInt64), .second] [(.long wy.toInt64), (.long wx.toInt64)])) _
        refine XS.lcmp X2.here hx rfl (hb hby d26_44) rfl ?_
        show Steps p.tables e below (T2.setTop (mkF m 45 #[.val (.double wx), .second, .val (.double wy), .second, .val (.long wx.toInt64), .second, .val (.long wy.toInt64), .second] [(.int (lcmpW wx.toInt64 wy.toInt64))])) _
        refine XS.ifNo X2.here hx rfl (hb hby d26_45) rfl ((Jvm.Own.holdsL _ _ _).trans (Jvm.Own.dF (by omega))) ?_
        show Steps p.tables e below (T2.setTop (mkF m 48 #[.val (.double wx), .second, .val (.double wy), .second, .val (.long wx.toInt64), .second, .val (.long wy.toInt64), .second] [])) _
        refine XS.iconst X2.here hx rfl (hb hby d26_48) ?_
        show Steps p.tables e below (T2.setTop (mkF m 49 #[.val (.double wx), .second, .val (.double wy), .second, .val (.long wx.toInt64), .second, .val (.long wy.toInt64), .second] [(.int (-1 : Int32))])) _
        refine XS.goto X2.here hx rfl (pc0 := 49) (pc' := 53) rfl (hb hby d26_49) (by decide) (by decide) ?_
        show Steps p.tables e below (T2.setTop (mkF m 53 #[.val (.double wx), .second, .val (.double wy), .second, .val (.long wx.toInt64), .second, .val (.long wy.toInt64), .second] [(.int (-1 : Int32))])) _
        exact Jvm.RoadKit.retI X2 hx Bd.returns (hb hby d26_53) hr
      · show QC wx wy h0 n0 _ T2.heap _
        rw [e2]
        exact ⟨_, rfl, Fr.app (Fr.app N0 N1) N2, rfl, fun q2 => by omega, fun q2 => by omega⟩
    · obtain ⟨_, _, ⟨T1, L1, k1, n1⟩, -, X1, ⟨Lc1, hQ1, l1, y1, z1⟩, st1⟩ := Jvm.LawKit.callS X0 hx (y := (⟨"java/lang/Double", "doubleToLongBits", "(D)J"⟩ : MethodName)) hown (mvT hZ (hw _ (List.mem_of_getElem? (i := 186) rfl))) (mvT hZ (hw _ (List.mem_of_getElem? (i := 187) rfl))) (mvT hZ (hw _ (List.mem_of_getElem? (i := 51) rfl))) (mvT hZ (hw _ (List.mem_of_getElem? (i := 188) rfl))) (by decide) (backOf (W := 0) (rmLb l Z a0 hw [] wx h0 n0 Z0 fx) hZ (hw _ (List.mem_of_getElem? (i := 188) rfl)) (hw _ (List.mem_of_getElem? (i := 51) rfl)) (by decide) (by decide)) (g := (mkF m 17 #[.val (.double wx), .second, .val (.double wy), .second, .unset, .unset, .unset, .unset] [(.double wx)])) rfl (by rw [hml]; rfl) (argsL := [(.double wx)]) (rest := []) (lenOf pd_10 rfl) rfl (by show 2 * 0 + _ ≤ _; exact Nat.le_of_eq rfl) (hb hby d26_17) (fun _ _ => ⟨rfl, e0, (by decide : 0 + 0 ≤ _), (by decide : 0 + 0 ≤ _)⟩)
      dsimp only [Pt.U, Pt.locs, Pt.cells, Pt.slots] at X1 l1 y1 z1 st1 hQ1
      subst l1 y1 z1
      obtain ⟨rfl, N1, e1⟩ := hQ1
      obtain ⟨_, _, ⟨T2, L2, k2, n2⟩, -, X2, ⟨Lc2, hQ2, l2, y2, z2⟩, st2⟩ := Jvm.LawKit.callS X1 hx (y := (⟨"java/lang/Double", "doubleToLongBits", "(D)J"⟩ : MethodName)) hown (mvT hZ (hw _ (List.mem_of_getElem? (i := 186) rfl))) (mvT hZ (hw _ (List.mem_of_getElem? (i := 187) rfl))) (mvT hZ (hw _ (List.mem_of_getElem? (i := 51) rfl))) (mvT hZ (hw _ (List.mem_of_getElem? (i := 188) rfl))) (by decide) (backOf (W := 0) (rmLb l Z a0 hw [] wy h0 n0 Z0 fy) hZ (hw _ (List.mem_of_getElem? (i := 188) rfl)) (hw _ (List.mem_of_getElem? (i := 51) rfl)) (by decide) (by decide)) (g := (mkF m 23 #[.val (.double wx), .second, .val (.double wy), .second, .val (.long wx.toInt64), .second, .unset, .unset] [(.double wy)])) rfl (by rw [hml]; rfl) (argsL := [(.double wy)]) (rest := []) (lenOf pd_10 rfl) rfl (by show 2 * 0 + _ ≤ _; exact Nat.le_of_eq rfl) (hb hby d26_23) (fun _ _ => ⟨rfl, e1, (by decide : 0 + 0 ≤ _), (by decide : 0 + 0 ≤ _)⟩)
      dsimp only [Pt.U, Pt.locs, Pt.cells, Pt.slots] at X2 l2 y2 z2 st2 hQ2
      subst l2 y2 z2
      obtain ⟨rfl, N2, e2⟩ := hQ2
      obtain ⟨fs, hr, hrun, hended, hW, hsame⟩ := X2.leave (v := some (.int (0 : Int32))) (fun h => by rw [Bd.returns] at h; cases h)
      refine ⟨_, _, pre0 _ ?_, hrun, hended, _, _, rfl, ?_, ⟨_, rfl⟩, hW, hsame.mono (by decide) (by decide)⟩
      · show Steps p.tables e below (s₁.setTop (mkF m 0 #[.val (.double wx), .second, .val (.double wy), .second, .unset, .unset, .unset, .unset] [])) _
        refine XS.dloadN X0.here hx rfl (hb hby d26_0) rfl ?_
        show Steps p.tables e below (s₁.setTop (mkF m 1 #[.val (.double wx), .second, .val (.double wy), .second, .unset, .unset, .unset, .unset] [(.double wx)])) _
        refine XS.dloadN X0.here hx rfl (hb hby d26_1) rfl ?_
        show Steps p.tables e below (s₁.setTop (mkF m 2 #[.val (.double wx), .second, .val (.double wy), .second, .unset, .unset, .unset, .unset] [(.double wy), (.double wx)])) _
        refine XS.dcmpS X0.here hx rfl (hb hby d26_2) rfl (v := Jvm.Op.cmpValue (FP.dcmp wx wy) .g) rfl ?_
        show Steps p.tables e below (s₁.setTop (mkF m 3 #[.val (.double wx), .second, .val (.double wy), .second, .unset, .unset, .unset, .unset] [(.int (Jvm.Op.cmpValue (FP.dcmp wx wy) .g))])) _
        refine XS.ifYes X0.here hx rfl (pc0 := 3) (pc' := 8) rfl (hb hby d26_3) rfl ((Jvm.Own.holdsD fx fy _ _).trans (Jvm.Own.dT (by omega))) (by decide) (by decide) ?_
        show Steps p.tables e below (s₁.setTop (mkF m 8 #[.val (.double wx), .second, .val (.double wy), .second, .unset, .unset, .unset, .unset] [])) _
        refine XS.dloadN X0.here hx rfl (hb hby d26_8) rfl ?_
        show Steps p.tables e below (s₁.setTop (mkF m 9 #[.val (.double wx), .second, .val (.double wy), .second, .unset, .unset, .unset, .unset] [(.double wx)])) _
        refine XS.dloadN X0.here hx rfl (hb hby d26_9) rfl ?_
        show Steps p.tables e below (s₁.setTop (mkF m 10 #[.val (.double wx), .second, .val (.double wy), .second, .unset, .unset, .unset, .unset] [(.double wy), (.double wx)])) _
        refine XS.dcmpS X0.here hx rfl (hb hby d26_10) rfl (v := Jvm.Op.cmpValue (FP.dcmp wx wy) .l) rfl ?_
        show Steps p.tables e below (s₁.setTop (mkF m 11 #[.val (.double wx), .second, .val (.double wy), .second, .unset, .unset, .unset, .unset] [(.int (Jvm.Op.cmpValue (FP.dcmp wx wy) .l))])) _
        refine XS.ifYes X0.here hx rfl (pc0 := 11) (pc' := 16) rfl (hb hby d26_11) rfl ((Jvm.Own.holdsD fx fy _ _).trans (Jvm.Own.dT (by omega))) (by decide) (by decide) ?_
        show Steps p.tables e below (s₁.setTop (mkF m 16 #[.val (.double wx), .second, .val (.double wy), .second, .unset, .unset, .unset, .unset] [])) _
        refine XS.dloadN X0.here hx rfl (hb hby d26_16) rfl ?_
        show Steps p.tables e below (s₁.setTop (mkF m 17 #[.val (.double wx), .second, .val (.double wy), .second, .unset, .unset, .unset, .unset] [(.double wx)])) _
        refine st1 _ ?_
        show Steps p.tables e below (T1.setTop (mkF m 20 #[.val (.double wx), .second, .val (.double wy), .second, .unset, .unset, .unset, .unset] [(.long wx.toInt64)])) _
        refine XS.lstore X1.here hx rfl (hb hby d26_20) rfl (l' := #[.val (.double wx), .second, .val (.double wy), .second, .val (.long wx.toInt64), .second, .unset, .unset]) rfl ?_
        show Steps p.tables e below (T1.setTop (mkF m 22 #[.val (.double wx), .second, .val (.double wy), .second, .val (.long wx.toInt64), .second, .unset, .unset] [])) _
        refine XS.dloadN X1.here hx rfl (hb hby d26_22) rfl ?_
        show Steps p.tables e below (T1.setTop (mkF m 23 #[.val (.double wx), .second, .val (.double wy), .second, .val (.long wx.toInt64), .second, .unset, .unset] [(.double wy)])) _
        refine st2 _ ?_
        show Steps p.tables e below (T2.setTop (mkF m 26 #[.val (.double wx), .second, .val (.double wy), .second, .val (.long wx.toInt64), .second, .unset, .unset] [(.long wy.toInt64)])) _
        refine XS.lstore X2.here hx rfl (hb hby d26_26) rfl (l' := #[.val (.double wx), .second, .val (.double wy), .second, .val (.long wx.toInt64), .second, .val (.long wy.toInt64), .second]) rfl ?_
        show Steps p.tables e below (T2.setTop (mkF m 28 #[.val (.double wx), .second, .val (.double wy), .second, .val (.long wx.toInt64), .second, .val (.long wy.toInt64), .second] [])) _
        refine XS.lload X2.here hx rfl (hb hby d26_28) rfl ?_
        show Steps p.tables e below (T2.setTop (mkF m 30 #[.val (.double wx), .second, .val (.double wy), .second, .val (.long wx.toInt64), .second, .val (.long wy.toInt64), .second] [(.long wx.toInt64)])) _
        refine XS.lload X2.here hx rfl (hb hby d26_30) rfl ?_
        show Steps p.tables e below (T2.setTop (mkF m 32 #[.val (.double wx), .second, .val (.double wy), .second, .val (.long wx.toInt64), .second, .val (.long wy.toInt64), .second] [(.long wy.toInt64), (.long wx.toInt64)])) _
        refine XS.lcmp X2.here hx rfl (hb hby d26_32) rfl ?_
        show Steps p.tables e below (T2.setTop (mkF m 33 #[.val (.double wx), .second, .val (.double wy), .second, .val (.long wx.toInt64), .second, .val (.long wy.toInt64), .second] [(.int (lcmpW wx.toInt64 wy.toInt64))])) _
        refine XS.ifNo X2.here hx rfl (hb hby d26_33) rfl ((Jvm.Own.holdsL _ _ _).trans (Jvm.Own.dF (by omega))) ?_
        show Steps p.tables e below (T2.setTop (mkF m 36 #[.val (.double wx), .second, .val (.double wy), .second, .val (.long wx.toInt64), .second, .val (.long wy.toInt64), .second] [])) _
        refine XS.iconst X2.here hx rfl (hb hby d26_36) ?_
        show Steps p.tables e below (T2.setTop (mkF m 37 #[.val (.double wx), .second, .val (.double wy), .second, .val (.long wx.toInt64), .second, .val (.long wy.toInt64), .second] [(.int (0 : Int32))])) _
        refine XS.goto X2.here hx rfl (pc0 := 37) (pc' := 53) rfl (hb hby d26_37) (by decide) (by decide) ?_
        show Steps p.tables e below (T2.setTop (mkF m 53 #[.val (.double wx), .second, .val (.double wy), .second, .val (.long wx.toInt64), .second, .val (.long wy.toInt64), .second] [(.int (0 : Int32))])) _
        exact Jvm.RoadKit.retI X2 hx Bd.returns (hb hby d26_53) hr
      · show QC wx wy h0 n0 _ T2.heap _
        rw [e2]
        exact ⟨_, rfl, Fr.app (Fr.app N0 N1) N2, rfl, fun q2 => by omega, fun q2 => by omega⟩
    · obtain ⟨_, _, ⟨T1, L1, k1, n1⟩, -, X1, ⟨Lc1, hQ1, l1, y1, z1⟩, st1⟩ := Jvm.LawKit.callS X0 hx (y := (⟨"java/lang/Double", "doubleToLongBits", "(D)J"⟩ : MethodName)) hown (mvT hZ (hw _ (List.mem_of_getElem? (i := 186) rfl))) (mvT hZ (hw _ (List.mem_of_getElem? (i := 187) rfl))) (mvT hZ (hw _ (List.mem_of_getElem? (i := 51) rfl))) (mvT hZ (hw _ (List.mem_of_getElem? (i := 188) rfl))) (by decide) (backOf (W := 0) (rmLb l Z a0 hw [] wx h0 n0 Z0 fx) hZ (hw _ (List.mem_of_getElem? (i := 188) rfl)) (hw _ (List.mem_of_getElem? (i := 51) rfl)) (by decide) (by decide)) (g := (mkF m 17 #[.val (.double wx), .second, .val (.double wy), .second, .unset, .unset, .unset, .unset] [(.double wx)])) rfl (by rw [hml]; rfl) (argsL := [(.double wx)]) (rest := []) (lenOf pd_10 rfl) rfl (by show 2 * 0 + _ ≤ _; exact Nat.le_of_eq rfl) (hb hby d26_17) (fun _ _ => ⟨rfl, e0, (by decide : 0 + 0 ≤ _), (by decide : 0 + 0 ≤ _)⟩)
      dsimp only [Pt.U, Pt.locs, Pt.cells, Pt.slots] at X1 l1 y1 z1 st1 hQ1
      subst l1 y1 z1
      obtain ⟨rfl, N1, e1⟩ := hQ1
      obtain ⟨_, _, ⟨T2, L2, k2, n2⟩, -, X2, ⟨Lc2, hQ2, l2, y2, z2⟩, st2⟩ := Jvm.LawKit.callS X1 hx (y := (⟨"java/lang/Double", "doubleToLongBits", "(D)J"⟩ : MethodName)) hown (mvT hZ (hw _ (List.mem_of_getElem? (i := 186) rfl))) (mvT hZ (hw _ (List.mem_of_getElem? (i := 187) rfl))) (mvT hZ (hw _ (List.mem_of_getElem? (i := 51) rfl))) (mvT hZ (hw _ (List.mem_of_getElem? (i := 188) rfl))) (by decide) (backOf (W := 0) (rmLb l Z a0 hw [] wy h0 n0 Z0 fy) hZ (hw _ (List.mem_of_getElem? (i := 188) rfl)) (hw _ (List.mem_of_getElem? (i := 51) rfl)) (by decide) (by decide)) (g := (mkF m 23 #[.val (.double wx), .second, .val (.double wy), .second, .val (.long wx.toInt64), .second, .unset, .unset] [(.double wy)])) rfl (by rw [hml]; rfl) (argsL := [(.double wy)]) (rest := []) (lenOf pd_10 rfl) rfl (by show 2 * 0 + _ ≤ _; exact Nat.le_of_eq rfl) (hb hby d26_23) (fun _ _ => ⟨rfl, e1, (by decide : 0 + 0 ≤ _), (by decide : 0 + 0 ≤ _)⟩)
      dsimp only [Pt.U, Pt.locs, Pt.cells, Pt.slots] at X2 l2 y2 z2 st2 hQ2
      subst l2 y2 z2
      obtain ⟨rfl, N2, e2⟩ := hQ2
      obtain ⟨fs, hr, hrun, hended, hW, hsame⟩ := X2.leave (v := some (.int (1 : Int32))) (fun h => by rw [Bd.returns] at h; cases h)
      refine ⟨_, _, pre0 _ ?_, hrun, hended, _, _, rfl, ?_, ⟨_, rfl⟩, hW, hsame.mono (by decide) (by decide)⟩
      · show Steps p.tables e below (s₁.setTop (mkF m 0 #[.val (.double wx), .second, .val (.double wy), .second, .unset, .unset, .unset, .unset] [])) _
        refine XS.dloadN X0.here hx rfl (hb hby d26_0) rfl ?_
        show Steps p.tables e below (s₁.setTop (mkF m 1 #[.val (.double wx), .second, .val (.double wy), .second, .unset, .unset, .unset, .unset] [(.double wx)])) _
        refine XS.dloadN X0.here hx rfl (hb hby d26_1) rfl ?_
        show Steps p.tables e below (s₁.setTop (mkF m 2 #[.val (.double wx), .second, .val (.double wy), .second, .unset, .unset, .unset, .unset] [(.double wy), (.double wx)])) _
        refine XS.dcmpS X0.here hx rfl (hb hby d26_2) rfl (v := Jvm.Op.cmpValue (FP.dcmp wx wy) .g) rfl ?_
        show Steps p.tables e below (s₁.setTop (mkF m 3 #[.val (.double wx), .second, .val (.double wy), .second, .unset, .unset, .unset, .unset] [(.int (Jvm.Op.cmpValue (FP.dcmp wx wy) .g))])) _
        refine XS.ifYes X0.here hx rfl (pc0 := 3) (pc' := 8) rfl (hb hby d26_3) rfl ((Jvm.Own.holdsD fx fy _ _).trans (Jvm.Own.dT (by omega))) (by decide) (by decide) ?_
        show Steps p.tables e below (s₁.setTop (mkF m 8 #[.val (.double wx), .second, .val (.double wy), .second, .unset, .unset, .unset, .unset] [])) _
        refine XS.dloadN X0.here hx rfl (hb hby d26_8) rfl ?_
        show Steps p.tables e below (s₁.setTop (mkF m 9 #[.val (.double wx), .second, .val (.double wy), .second, .unset, .unset, .unset, .unset] [(.double wx)])) _
        refine XS.dloadN X0.here hx rfl (hb hby d26_9) rfl ?_
        show Steps p.tables e below (s₁.setTop (mkF m 10 #[.val (.double wx), .second, .val (.double wy), .second, .unset, .unset, .unset, .unset] [(.double wy), (.double wx)])) _
        refine XS.dcmpS X0.here hx rfl (hb hby d26_10) rfl (v := Jvm.Op.cmpValue (FP.dcmp wx wy) .l) rfl ?_
        show Steps p.tables e below (s₁.setTop (mkF m 11 #[.val (.double wx), .second, .val (.double wy), .second, .unset, .unset, .unset, .unset] [(.int (Jvm.Op.cmpValue (FP.dcmp wx wy) .l))])) _
        refine XS.ifYes X0.here hx rfl (pc0 := 11) (pc' := 16) rfl (hb hby d26_11) rfl ((Jvm.Own.holdsD fx fy _ _).trans (Jvm.Own.dT (by omega))) (by decide) (by decide) ?_
        show Steps p.tables e below (s₁.setTop (mkF m 16 #[.val (.double wx), .second, .val (.double wy), .second, .unset, .unset, .unset, .unset] [])) _
        refine XS.dloadN X0.here hx rfl (hb hby d26_16) rfl ?_
        show Steps p.tables e below (s₁.setTop (mkF m 17 #[.val (.double wx), .second, .val (.double wy), .second, .unset, .unset, .unset, .unset] [(.double wx)])) _
        refine st1 _ ?_
        show Steps p.tables e below (T1.setTop (mkF m 20 #[.val (.double wx), .second, .val (.double wy), .second, .unset, .unset, .unset, .unset] [(.long wx.toInt64)])) _
        refine XS.lstore X1.here hx rfl (hb hby d26_20) rfl (l' := #[.val (.double wx), .second, .val (.double wy), .second, .val (.long wx.toInt64), .second, .unset, .unset]) rfl ?_
        show Steps p.tables e below (T1.setTop (mkF m 22 #[.val (.double wx), .second, .val (.double wy), .second, .val (.long wx.toInt64), .second, .unset, .unset] [])) _
        refine XS.dloadN X1.here hx rfl (hb hby d26_22) rfl ?_
        show Steps p.tables e below (T1.setTop (mkF m 23 #[.val (.double wx), .second, .val (.double wy), .second, .val (.long wx.toInt64), .second, .unset, .unset] [(.double wy)])) _
        refine st2 _ ?_
        show Steps p.tables e below (T2.setTop (mkF m 26 #[.val (.double wx), .second, .val (.double wy), .second, .val (.long wx.toInt64), .second, .unset, .unset] [(.long wy.toInt64)])) _
        refine XS.lstore X2.here hx rfl (hb hby d26_26) rfl (l' := #[.val (.double wx), .second, .val (.double wy), .second, .val (.long wx.toInt64), .second, .val (.long wy.toInt64), .second]) rfl ?_
        show Steps p.tables e below (T2.setTop (mkF m 28 #[.val (.double wx), .second, .val (.double wy), .second, .val (.long wx.toInt64), .second, .val (.long wy.toInt64), .second] [])) _
        refine XS.lload X2.here hx rfl (hb hby d26_28) rfl ?_
        show Steps p.tables e below (T2.setTop (mkF m 30 #[.val (.double wx), .second, .val (.double wy), .second, .val (.long wx.toInt64), .second, .val (.long wy.toInt64), .second] [(.long wx.toInt64)])) _
        refine XS.lload X2.here hx rfl (hb hby d26_30) rfl ?_
        show Steps p.tables e below (T2.setTop (mkF m 32 #[.val (.double wx), .second, .val (.double wy), .second, .val (.long wx.toInt64), .second, .val (.long wy.toInt64), .second] [(.long wy.toInt64), (.long wx.toInt64)])) _
        refine XS.lcmp X2.here hx rfl (hb hby d26_32) rfl ?_
        show Steps p.tables e below (T2.setTop (mkF m 33 #[.val (.double wx), .second, .val (.double wy), .second, .val (.long wx.toInt64), .second, .val (.long wy.toInt64), .second] [(.int (lcmpW wx.toInt64 wy.toInt64))])) _
        refine XS.ifYes X2.here hx rfl (pc0 := 33) (pc' := 40) rfl (hb hby d26_33) rfl ((Jvm.Own.holdsL _ _ _).trans (Jvm.Own.dT (by omega))) (by decide) (by decide) ?_
        show Steps p.tables e below (T2.setTop (mkF m 40 #[.val (.double wx), .second, .val (.double wy), .second, .val (.long wx.toInt64), .second, .val (.long wy.toInt64), .second] [])) _
        refine XS.lload X2.here hx rfl (hb hby d26_40) rfl ?_
        show Steps p.tables e below (T2.setTop (mkF m 42 #[.val (.double wx), .second, .val (.double wy), .second, .val (.long wx.toInt64), .second, .val (.long wy.toInt64), .second] [(.long wx.toInt64)])) _
        refine XS.lload X2.here hx rfl (hb hby d26_42) rfl ?_
        show Steps p.tables e below (T2.setTop (mkF m 44 #[.val (.double wx), .second, .val (.double wy), .second, .val (.long wx.toInt64), .second, .val (.long wy.toInt64), .second] [(.long wy.toInt64), (.long wx.toInt64)])) _
        refine XS.lcmp X2.here hx rfl (hb hby d26_44) rfl ?_
        show Steps p.tables e below (T2.setTop (mkF m 45 #[.val (.double wx), .second, .val (.double wy), .second, .val (.long wx.toInt64), .second, .val (.long wy.toInt64), .second] [(.int (lcmpW wx.toInt64 wy.toInt64))])) _
        refine XS.ifYes X2.here hx rfl (pc0 := 45) (pc' := 52) rfl (hb hby d26_45) rfl ((Jvm.Own.holdsL _ _ _).trans (Jvm.Own.dT (by omega))) (by decide) (by decide) ?_
        show Steps p.tables e below (T2.setTop (mkF m 52 #[.val (.double wx), .second, .val (.double wy), .second, .val (.long wx.toInt64), .second, .val (.long wy.toInt64), .second] [])) _
        refine XS.iconst X2.here hx rfl (hb hby d26_52) ?_
        show Steps p.tables e below (T2.setTop (mkF m 53 #[.val (.double wx), .second, .val (.double wy), .second, .val (.long wx.toInt64), .second, .val (.long wy.toInt64), .second] [(.int (1 : Int32))])) _
        exact Jvm.RoadKit.retI X2 hx Bd.returns (hb hby d26_53) hr
      · show QC wx wy h0 n0 _ T2.heap _
        rw [e2]
        exact ⟨_, rfl, Fr.app (Fr.app N0 N1) N2, rfl, fun q2 => by omega, fun q2 => by omega⟩
  · obtain ⟨fs, hr, hrun, hended, hW, hsame⟩ := X0.leave (v := some (.int (1 : Int32))) (fun h => by rw [Bd.returns] at h; cases h)
    refine ⟨_, _, pre0 _ ?_, hrun, hended, _, _, rfl, ?_, ⟨_, rfl⟩, hW, hsame.mono (by decide) (by decide)⟩
    · show Steps p.tables e below (s₁.setTop (mkF m 0 #[.val (.double wx), .second, .val (.double wy), .second, .unset, .unset, .unset, .unset] [])) _
      refine XS.dloadN X0.here hx rfl (hb hby d26_0) rfl ?_
      show Steps p.tables e below (s₁.setTop (mkF m 1 #[.val (.double wx), .second, .val (.double wy), .second, .unset, .unset, .unset, .unset] [(.double wx)])) _
      refine XS.dloadN X0.here hx rfl (hb hby d26_1) rfl ?_
      show Steps p.tables e below (s₁.setTop (mkF m 2 #[.val (.double wx), .second, .val (.double wy), .second, .unset, .unset, .unset, .unset] [(.double wy), (.double wx)])) _
      refine XS.dcmpS X0.here hx rfl (hb hby d26_2) rfl (v := Jvm.Op.cmpValue (FP.dcmp wx wy) .g) rfl ?_
      show Steps p.tables e below (s₁.setTop (mkF m 3 #[.val (.double wx), .second, .val (.double wy), .second, .unset, .unset, .unset, .unset] [(.int (Jvm.Op.cmpValue (FP.dcmp wx wy) .g))])) _
      refine XS.ifYes X0.here hx rfl (pc0 := 3) (pc' := 8) rfl (hb hby d26_3) rfl ((Jvm.Own.holdsD fx fy _ _).trans (Jvm.Own.dT (by omega))) (by decide) (by decide) ?_
      show Steps p.tables e below (s₁.setTop (mkF m 8 #[.val (.double wx), .second, .val (.double wy), .second, .unset, .unset, .unset, .unset] [])) _
      refine XS.dloadN X0.here hx rfl (hb hby d26_8) rfl ?_
      show Steps p.tables e below (s₁.setTop (mkF m 9 #[.val (.double wx), .second, .val (.double wy), .second, .unset, .unset, .unset, .unset] [(.double wx)])) _
      refine XS.dloadN X0.here hx rfl (hb hby d26_9) rfl ?_
      show Steps p.tables e below (s₁.setTop (mkF m 10 #[.val (.double wx), .second, .val (.double wy), .second, .unset, .unset, .unset, .unset] [(.double wy), (.double wx)])) _
      refine XS.dcmpS X0.here hx rfl (hb hby d26_10) rfl (v := Jvm.Op.cmpValue (FP.dcmp wx wy) .l) rfl ?_
      show Steps p.tables e below (s₁.setTop (mkF m 11 #[.val (.double wx), .second, .val (.double wy), .second, .unset, .unset, .unset, .unset] [(.int (Jvm.Op.cmpValue (FP.dcmp wx wy) .l))])) _
      refine XS.ifNo X0.here hx rfl (hb hby d26_11) rfl ((Jvm.Own.holdsD fx fy _ _).trans (Jvm.Own.dF (by omega))) ?_
      show Steps p.tables e below (s₁.setTop (mkF m 14 #[.val (.double wx), .second, .val (.double wy), .second, .unset, .unset, .unset, .unset] [])) _
      refine XS.iconst X0.here hx rfl (hb hby d26_14) ?_
      show Steps p.tables e below (s₁.setTop (mkF m 15 #[.val (.double wx), .second, .val (.double wy), .second, .unset, .unset, .unset, .unset] [(.int (1 : Int32))])) _
      exact Jvm.RoadKit.retI X0 hx Bd.returns (hb hby d26_15) hr
    · show QC wx wy h0 n0 _ s₁.heap _
      rw [e0]
      exact ⟨_, rfl, N0, rfl, fun q2 => by omega, fun _ => by decide⟩
theorem ef_rmCd (m : MethodId) (a : Addr) (b : Addr) : entryFrame m #[(.ref a), (.ref b)] 2 = mkF m 0 #[.val (.ref a), .val (.ref b)] [] := by first | (simp [entryFrame, mkF, argsToLocals, Value.category]; done) | rfl
set_option maxRecDepth 65536 in
set_option maxHeartbeats 40000000 in
theorem rmCd (l : Launch) (Z : State) (a0 : Array Value) (hw : ∀ d ∈ tables_1, d.before a0 Z = true) (ws : List Jvm.Cond) (a : Addr) (b : Addr) (h0 : Heap) (n0 : Nat) (Z0 : n0 ≤ h0.size) (wx wy : UInt64) (fx : Jvm.FP.Core.DFin wx) (fy : Jvm.FP.Core.DFin wy) (Ba : Bx Z h0 a wx) (Bb : Bx Z h0 b wy) :
    MetFree l (⟨"java/lang/Double", "compareTo", "(Ljava/lang/Double;)I"⟩ : MethodName) (head1 (Jvm.Cond.code (⟨"java/lang/Double", "compareTo", "(Ljava/lang/Double;)I"⟩ : MethodName) jdk_117_method_26_code 2 (some .int) :: ws) ({ frames := 3, cells := 0, slots := 0, locals := 84 } : Room)) (fun a_ U_ => a_ = #[(.ref a), (.ref b)] ∧ Z.Warmed39 U_.vm ∧ U_.heap = h0) (fun _ _ _ _ _ => True) (fun _ U_ o_ V_ => ∃ v_ L_, o_ = .returned v_ ∧ QC wx wy h0 n0 v_ V_.heap L_ ∧ FrameEnd U_ o_ V_ L_ ({ frames := 3, cells := 0, slots := 0, locals := 84 } : Room).cells ({ frames := 3, cells := 0, slots := 0, locals := 84 } : Room).slots) := by
  refine MetFree.of_bodySF (plainFor_of_name pn_4) hisR ?_
  intro p e s m args below meth c s₁ Bd hml0 hP hK
  obtain ⟨rfl, hZ, hh⟩ := hP
  have hx := Bd.exec
  have hby := Bd.bytes
  have hml : c.maxLocals = 2 := hml0
  have hown : s.vm.findClass "java/lang/Double" = some m.cls := findClass_of_methodNamed Bd.named
  have hnm := (name_of_methodNamed Bd.named Bd.method).1
  have X0 : Stand p l e ({ frames := 3, cells := 0, slots := 0, locals := 84 } : Room) s m #[(.ref a), (.ref b)] below meth c s₁ [] 0 0 := Stand.of_body Bd
  have e0 : s₁.heap = h0 := by rw [← hh, Bd.state]; rfl
  have N0 := Fr.nil n0
  have pre0 : ∀ t_1, Steps p.tables e below (s₁.setTop (mkF m 0 #[.val (.ref a), .val (.ref b)] [])) t_1 → Steps p.tables e below (s₁.setTop (entryFrame m #[(.ref a), (.ref b)] 2)) t_1 := fun t_ k_ => castTop (ef_rmCd m a b) k_
  obtain ⟨T1, X1, e1, st1⟩ := getF X0 hx hZ hown (host := "") (Or.inl (hw _ (List.mem_of_getElem? (i := 66) rfl))) Via.refl e0 Ba.2 (g := (mkF m 1 #[.val (.ref a), .val (.ref b)] [(.ref a)])) rfl rfl (hb hby d25_1)
  obtain ⟨T2, X2, e2, st2⟩ := getF X1 hx hZ hown (host := "") (Or.inl (hw _ (List.mem_of_getElem? (i := 66) rfl))) Via.refl e1 Bb.2 (g := (mkF m 5 #[.val (.ref a), .val (.ref b)] [(.ref b), (.double wx)])) rfl rfl (hb hby d25_5)
  obtain ⟨_, _, ⟨T3, L3, k3, n3⟩, -, X3, ⟨Lc3, hQ3, l3, y3, z3⟩, st3⟩ := Jvm.LawKit.callS X2 hx (y := (⟨"java/lang/Double", "compare", "(DD)I"⟩ : MethodName)) hown (mvT hZ (hw _ (List.mem_of_getElem? (i := 183) rfl))) (mvT hZ (hw _ (List.mem_of_getElem? (i := 184) rfl))) (mvT hZ (hw _ (List.mem_of_getElem? (i := 51) rfl))) (mvT hZ (hw _ (List.mem_of_getElem? (i := 185) rfl))) (by decide) (backOf (W := 0) (rmCp l Z a0 hw [] wx wy h0 n0 Z0 fx fy) hZ (hw _ (List.mem_of_getElem? (i := 185) rfl)) (hw _ (List.mem_of_getElem? (i := 51) rfl)) (by decide) (by decide)) (g := (mkF m 8 #[.val (.ref a), .val (.ref b)] [(.double wy), (.double wx)])) rfl (by rw [hml]; rfl) (argsL := [(.double wx), (.double wy)]) (rest := []) (lenOf pd_11 rfl) rfl (by show 2 * 0 + _ ≤ _; exact Nat.le_of_eq rfl) (hb hby d25_8) (fun _ _ => ⟨rfl, e2, (by decide : 0 + 0 ≤ _), (by decide : 0 + 0 ≤ _)⟩)
  dsimp only [Pt.U, Pt.locs, Pt.cells, Pt.slots] at X3 l3 y3 z3 st3 hQ3
  subst l3 y3 z3
  obtain ⟨r3, rfl, N3, e3, q3a, q3b⟩ := hQ3
  obtain ⟨fs, hr, hrun, hended, hW, hsame⟩ := X3.leave (v := some (.int r3)) (fun h => by rw [Bd.returns] at h; cases h)
  refine ⟨_, _, pre0 _ ?_, hrun, hended, _, _, rfl, ?_, ⟨_, rfl⟩, hW, hsame.mono (by decide) (by decide)⟩
  · show Steps p.tables e below (s₁.setTop (mkF m 0 #[.val (.ref a), .val (.ref b)] [])) _
    refine XS.aloadN X0.here hx rfl (hb hby d25_0) rfl rfl ?_
    show Steps p.tables e below (s₁.setTop (mkF m 1 #[.val (.ref a), .val (.ref b)] [(.ref a)])) _
    refine st1 _ ?_
    show Steps p.tables e below (T1.setTop (mkF m 4 #[.val (.ref a), .val (.ref b)] [(.double wx)])) _
    refine XS.aloadN X1.here hx rfl (hb hby d25_4) rfl rfl ?_
    show Steps p.tables e below (T1.setTop (mkF m 5 #[.val (.ref a), .val (.ref b)] [(.ref b), (.double wx)])) _
    refine st2 _ ?_
    show Steps p.tables e below (T2.setTop (mkF m 8 #[.val (.ref a), .val (.ref b)] [(.double wy), (.double wx)])) _
    refine st3 _ ?_
    show Steps p.tables e below (T3.setTop (mkF m 11 #[.val (.ref a), .val (.ref b)] [(.int r3)])) _
    exact Jvm.RoadKit.retI X3 hx Bd.returns (hb hby d25_11) hr
  · show QC wx wy h0 n0 _ T3.heap _
    rw [e3]
    exact ⟨_, rfl, Fr.app N0 N3, rfl, q3a, q3b⟩
theorem ef_rmCo (m : MethodId) (a : Addr) (b : Addr) : entryFrame m #[(.ref a), (.ref b)] 2 = mkF m 0 #[.val (.ref a), .val (.ref b)] [] := by first | (simp [entryFrame, mkF, argsToLocals, Value.category]; done) | rfl
set_option maxRecDepth 65536 in
set_option maxHeartbeats 40000000 in
theorem rmCo (l : Launch) (Z : State) (a0 : Array Value) (hw : ∀ d ∈ tables_1, d.before a0 Z = true) (ws : List Jvm.Cond) (a : Addr) (b : Addr) (h0 : Heap) (n0 : Nat) (Z0 : n0 ≤ h0.size) (wx wy : UInt64) (fx : Jvm.FP.Core.DFin wx) (fy : Jvm.FP.Core.DFin wy) (Ba : Bx Z h0 a wx) (Bb : Bx Z h0 b wy) :
    MetFree l (⟨"java/lang/Double", "compareTo", "(Ljava/lang/Object;)I"⟩ : MethodName) (head1 (Jvm.Cond.code (⟨"java/lang/Double", "compareTo", "(Ljava/lang/Object;)I"⟩ : MethodName) jdk_117_method_33_code 2 (some .int) :: ws) ({ frames := 4, cells := 0, slots := 0, locals := 98 } : Room)) (fun a_ U_ => a_ = #[(.ref a), (.ref b)] ∧ Z.Warmed39 U_.vm ∧ U_.heap = h0) (fun _ _ _ _ _ => True) (fun _ U_ o_ V_ => ∃ v_ L_, o_ = .returned v_ ∧ QC wx wy h0 n0 v_ V_.heap L_ ∧ FrameEnd U_ o_ V_ L_ ({ frames := 4, cells := 0, slots := 0, locals := 98 } : Room).cells ({ frames := 4, cells := 0, slots := 0, locals := 98 } : Room).slots) := by
  refine MetFree.of_bodySF (plainFor_of_name pn_4) hisR ?_
  intro p e s m args below meth c s₁ Bd hml0 hP hK
  obtain ⟨rfl, hZ, hh⟩ := hP
  have hx := Bd.exec
  have hby := Bd.bytes
  have hml : c.maxLocals = 2 := hml0
  have hown : s.vm.findClass "java/lang/Double" = some m.cls := findClass_of_methodNamed Bd.named
  have hnm := (name_of_methodNamed Bd.named Bd.method).1
  have X0 : Stand p l e ({ frames := 4, cells := 0, slots := 0, locals := 98 } : Room) s m #[(.ref a), (.ref b)] below meth c s₁ [] 0 0 := Stand.of_body Bd
  have e0 : s₁.heap = h0 := by rw [← hh, Bd.state]; rfl
  have N0 := Fr.nil n0
  have pre0 : ∀ t_1, Steps p.tables e below (s₁.setTop (mkF m 0 #[.val (.ref a), .val (.ref b)] [])) t_1 → Steps p.tables e below (s₁.setTop (entryFrame m #[(.ref a), (.ref b)] 2)) t_1 := fun t_ k_ => castTop (ef_rmCo m a b) k_
  obtain ⟨T1, X1, e1, st1⟩ := castY X0 hx hZ hown (hw _ (List.mem_of_getElem? (i := 53) rfl)) e0 (Ins.self Bb.1) (g := (mkF m 2 #[.val (.ref a), .val (.ref b)] [(.ref b), (.ref a)])) rfl rfl (hb hby d24_2)
  obtain ⟨cq2, kq2, q2a, q2b, q2c⟩ := isOf hZ e1 Ba.1
  obtain ⟨_, _, ⟨T2, L2, k2, n2⟩, -, X2, ⟨Lc2, hQ2, l2, y2, z2⟩, st2⟩ := X1.virtualBack hx (y := (⟨"java/lang/Double", "compareTo", "(Ljava/lang/Double;)I"⟩ : MethodName)) (z := (⟨"java/lang/Double", "compareTo", "(Ljava/lang/Double;)I"⟩ : MethodName)) hown (mvT hZ (hw _ (List.mem_of_getElem? (i := 178) rfl))) (mvT hZ (hw _ (List.mem_of_getElem? (i := 179) rfl))) (notFace_of_selects (args := #[]) (mvT hZ (hw _ (List.mem_of_getElem? (i := 181) rfl)))) (mvT hZ (hw _ (List.mem_of_getElem? (i := 181) rfl))) (mvT hZ (hw _ (List.mem_of_getElem? (i := 180) rfl))) (by decide) (backOf (W := 0) (rmCd l Z a0 hw [] a b h0 n0 Z0 wx wy fx fy Ba Bb) hZ (hw _ (List.mem_of_getElem? (i := 182) rfl)) (hw _ (List.mem_of_getElem? (i := 51) rfl)) (by decide) (by decide)) q2a q2c (g := (mkF m 5 #[.val (.ref a), .val (.ref b)] [(.ref b), (.ref a)])) rfl (by rw [hml]; rfl) (Steps.refl _) (argsL := [(.ref b)]) (rest := []) (lenOf pd_12 rfl) rfl (by show 2 * 0 + _ ≤ _; exact Nat.le_of_eq rfl) (hb hby d24_5) (fun _ _ => ⟨rfl, e1, (by decide : 0 + 0 ≤ _), (by decide : 0 + 0 ≤ _)⟩)
  dsimp only [Pt.U, Pt.locs, Pt.cells, Pt.slots] at X2 l2 y2 z2 st2 hQ2
  subst l2 y2 z2
  obtain ⟨r2, rfl, N2, e2, q2a, q2b⟩ := hQ2
  obtain ⟨fs, hr, hrun, hended, hW, hsame⟩ := X2.leave (v := some (.int r2)) (fun h => by rw [Bd.returns] at h; cases h)
  refine ⟨_, _, pre0 _ ?_, hrun, hended, _, _, rfl, ?_, ⟨_, rfl⟩, hW, hsame.mono (by decide) (by decide)⟩
  · show Steps p.tables e below (s₁.setTop (mkF m 0 #[.val (.ref a), .val (.ref b)] [])) _
    refine XS.aloadN X0.here hx rfl (hb hby d24_0) rfl rfl ?_
    show Steps p.tables e below (s₁.setTop (mkF m 1 #[.val (.ref a), .val (.ref b)] [(.ref a)])) _
    refine XS.aloadN X0.here hx rfl (hb hby d24_1) rfl rfl ?_
    show Steps p.tables e below (s₁.setTop (mkF m 2 #[.val (.ref a), .val (.ref b)] [(.ref b), (.ref a)])) _
    refine st1 _ ?_
    show Steps p.tables e below (T1.setTop (mkF m 5 #[.val (.ref a), .val (.ref b)] [(.ref b), (.ref a)])) _
    refine st2.trans ?_
    show Steps p.tables e below (T2.setTop (mkF m 8 #[.val (.ref a), .val (.ref b)] [(.int r2)])) _
    exact Jvm.RoadKit.retI X2 hx Bd.returns (hb hby d24_8) hr
  · show QC wx wy h0 n0 _ T2.heap _
    rw [e2]
    exact ⟨_, rfl, Fr.app N0 N2, rfl, q2a, q2b⟩

theorem own_and (x : Int64) : 0 ≤ (x &&& (9223372036854775807 : Int64)).toInt := by
  show 0 ≤ (x &&& (9223372036854775807 : Int64)).toBitVec.toInt
  rw [Int64.toBitVec_and]
  have h : (x.toBitVec &&& (9223372036854775807 : Int64).toBitVec).msb = false := by rw [BitVec.msb_and, show (9223372036854775807 : Int64).toBitVec.msb = false from by decide, Bool.and_false]
  rw [BitVec.toInt_eq_msb_cond, h]
  simp
theorem own_q (v u : Int64) (hu : 1 ≤ u.toInt) : Jvm.FP.Core.DFin (FP.ddiv (FP.l2d v) (FP.l2d u)) := by
  have hP := Jvm.Own.PN_posI 1074
  obtain ⟨H, fH, zH⟩ := Jvm.Own.rep 1 1137 (by decide) (by decide)
  obtain ⟨L, fL, zL⟩ := Jvm.Own.rep (-1) 1137 (by decide) (by decide)
  have e : (Jvm.Own.PN 1137 : Int) = 9223372036854775808 * (Jvm.Own.PN 1074 : Int) := by rw [show 1137 = 63 + 1074 from rfl, Jvm.Own.PN_addI]; rfl
  rw [e] at zH zL
  have key : ∀ x : Int64, Jvm.FP.Core.DFin (FP.Core.l2d x) ∧ Jvm.Own.z L ≤ Jvm.Own.z (FP.Core.l2d x) ∧ Jvm.Own.z (FP.Core.l2d x) ≤ Jvm.Own.z H := by
    intro x
    have rv := rng64 x
    have hv := Jvm.Own.rnd_l2d x
    have q1 := Int.mul_le_mul_of_nonneg_right (show -9223372036854775808 ≤ x.toInt by omega) (show (0 : Int) ≤ (Jvm.Own.PN 1074 : Int) by omega)
    have q2 := Int.mul_le_mul_of_nonneg_right (show x.toInt ≤ 9223372036854775808 by omega) (show (0 : Int) ≤ (Jvm.Own.PN 1074 : Int) by omega)
    have l1 : Jvm.Own.z L * ((1 : Nat) : Int) ≤ x.toInt * (Jvm.Own.PN 1074 : Int) := by rw [zL]; omega
    have l2 : x.toInt * (Jvm.Own.PN 1074 : Int) ≤ Jvm.Own.z H * ((1 : Nat) : Int) := by rw [zH]; omega
    exact ⟨hv.fin_of fL fH l1 l2, hv.ge fL l1, hv.le fH l2⟩
  obtain ⟨fv, v1, v2⟩ := key v
  obtain ⟨fu, -, -⟩ := key u
  have u1 : (Jvm.Own.PN 1074 : Int) ≤ Jvm.Own.z (FP.Core.l2d u) := by
    have q := (Jvm.Own.rnd_l2d u).ge Jvm.Own.fin_one (by
      rw [Jvm.Own.z_one]
      have q1 := Int.mul_le_mul_of_nonneg_right hu (show (0 : Int) ≤ (Jvm.Own.PN 1074 : Int) by omega)
      omega)
    rw [Jvm.Own.z_one] at q; exact q
  have hr := Jvm.Own.rnd_ddiv fv fu (by omega)
  have hD : ((Jvm.Own.z (FP.Core.l2d u)).natAbs : Int) = Jvm.Own.z (FP.Core.l2d u) := by omega
  show Jvm.FP.Core.DFin (FP.Core.ddiv (FP.Core.l2d v) (FP.Core.l2d u))
  generalize Jvm.Own.z (FP.Core.l2d u) = y at *
  generalize Jvm.Own.z (FP.Core.l2d v) = x at *
  generalize (Jvm.Own.PN 1074 : Int) = P at *
  have m1 := Int.mul_le_mul_of_nonneg_right v1 (show 0 ≤ P by omega)
  have m2 := Int.mul_le_mul_of_nonneg_right v2 (show 0 ≤ P by omega)
  have m3 := Int.mul_le_mul_of_nonneg_left u1 (show 0 ≤ Jvm.Own.z H by omega)
  have eL : Jvm.Own.z L = - Jvm.Own.z H := by omega
  refine hr.fin_of fL fH ?_ ?_
  · rw [hD, eL, Int.neg_mul]; rw [eL, Int.neg_mul] at m1; omega
  · rw [hD]; omega

set_option maxRecDepth 65536 in
set_option maxHeartbeats 40000000 in
theorem turnU {p : Program} {l : Launch} {e : Env} {s : State} {m : MethodId} {args : Array Value} {below : List Frame} {meth : Method} {c : Code} {T : State} {locs : List Loc} {Z : State} {a0 : Array Value} (X : Stand p l e ({ frames := 5, cells := 1, slots := 4, locals := 112 } : Room) s m args below meth c T locs 1 4) (hx : p.tables.exec = Jvm.exec) (hZ : Z.Warmed39 s.vm) (hw : ∀ d ∈ tables_1, d.before a0 Z = true) (hby : c.code = jdk_79_method_21_code) (hml : c.maxLocals = 4) (hown : s.vm.findClass "java/util/Collections" = some m.cls) (h0 : Heap) (n0 : Nat) (N0 : Fr n0 locs) (e0 : T.heap = h0) (Z0 : n0 ≤ h0.size) (lc it cur nx  : Addr) (ci mo n : Int32) (t : Addr) (vs : List Value) (I : IT Z h0 it lc ci mo) (B : LS Z h0 lc mo n t vs) (gi : n0 ≤ it) (i : Nat) (hj : ci.toInt = i) (hi : i < 10) (hlt : ci.toInt < n.toInt) (hb_ : vs.getD i .null = .ref nx) (wc wn : UInt64) (Bc : Bx Z h0 cur wc) (Bn : Bx Z h0 nx wn) (fc : Jvm.FP.Core.DFin wc) (fn : Jvm.FP.Core.DFin wn) :
    ∃ T' L' cur' wc', Stand p l e ({ frames := 5, cells := 1, slots := 4, locals := 112 } : Room) s m args below meth c T' L' 1 4 ∧ Fr n0 L' ∧ Keep h0 T'.heap [it] ∧ IT Z T'.heap it lc (ci + 1) mo ∧ Bx Z T'.heap cur' wc' ∧ Jvm.FP.Core.DFin wc' ∧ (wc' = wc ∨ wc' = wn) ∧ Jvm.Own.z wc ≤ Jvm.Own.z wc' ∧ Jvm.Own.z wn ≤ Jvm.Own.z wc' ∧ ∀ target, Steps p.tables e below (T'.setTop (mkF m 14 #[.val (.ref lc), .val (.ref it), .val (.ref cur'), .val (.ref nx)] [])) target → Steps p.tables e below (T.setTop (mkF m 14 #[.val (.ref lc), .val (.ref it), .val (.ref cur), .unset] [])) target := by
  have nci : cur ≠ it := Bc.1.ne I.1 (by decide)
  have nni : nx ≠ it := Bn.1.ne I.1 (by decide)
  obtain ⟨cq1, kq1, q1a, q1b, q1c⟩ := isOf hZ e0 I.1
  obtain ⟨_, _, ⟨T1, L1, k1, n1⟩, -, X1, ⟨Lc1, hQ1, l1, y1, z1⟩, st1⟩ := X.interfaceBack hx (xi := (⟨"java/util/Iterator", "hasNext", "()Z"⟩ : MethodName)) (y := (⟨"java/util/ArrayList$Itr", "hasNext", "()Z"⟩ : MethodName)) hown (mvT hZ (hw _ (List.mem_of_getElem? (i := 154) rfl))) (mvT hZ (hw _ (List.mem_of_getElem? (i := 155) rfl))) (mvT hZ (hw _ (List.mem_of_getElem? (i := 156) rfl))) (mvT hZ (hw _ (List.mem_of_getElem? (i := 157) rfl))) (mvT hZ (hw _ (List.mem_of_getElem? (i := 158) rfl))) (mvT hZ (hw _ (List.mem_of_getElem? (i := 159) rfl))) (mvT hZ (hw _ (List.mem_of_getElem? (i := 160) rfl))) (mvT hZ (hw _ (List.mem_of_getElem? (i := 143) rfl))) (by decide) (backOf (W := 0) (rmH1 l Z a0 hw [] it h0 n0 Z0 lc ci mo n t vs I B (by omega)) hZ (hw _ (List.mem_of_getElem? (i := 161) rfl)) (hw _ (List.mem_of_getElem? (i := 123) rfl)) (by decide) (by decide)) q1a q1b q1c (g := (mkF m 15 #[.val (.ref lc), .val (.ref it), .val (.ref cur), .unset] [(.ref it)])) rfl (by rw [hml]; rfl) (Steps.refl _) (argsL := []) (rest := []) (lenOf pd_13 rfl) rfl (by show 2 * 0 + _ ≤ _; exact Nat.le_of_eq rfl) (hb hby d17_15) (fun _ _ => ⟨rfl, e0, (by decide : 1 + 0 ≤ _), (by decide : 4 + 0 ≤ _)⟩)
  dsimp only [Pt.U, Pt.locs, Pt.cells, Pt.slots] at X1 l1 y1 z1 st1 hQ1
  subst l1 y1 z1
  obtain ⟨rfl, N1, e1⟩ := hQ1
  obtain ⟨cq2, kq2, q2a, q2b, q2c⟩ := isOf hZ e1 I.1
  obtain ⟨_, _, ⟨T2, L2, k2, n2⟩, -, X2, ⟨Lc2, hQ2, l2, y2, z2⟩, st2⟩ := X1.interfaceBack hx (xi := (⟨"java/util/Iterator", "next", "()Ljava/lang/Object;"⟩ : MethodName)) (y := (⟨"java/util/ArrayList$Itr", "next", "()Ljava/lang/Object;"⟩ : MethodName)) hown (mvT hZ (hw _ (List.mem_of_getElem? (i := 136) rfl))) (mvT hZ (hw _ (List.mem_of_getElem? (i := 137) rfl))) (mvT hZ (hw _ (List.mem_of_getElem? (i := 138) rfl))) (mvT hZ (hw _ (List.mem_of_getElem? (i := 139) rfl))) (mvT hZ (hw _ (List.mem_of_getElem? (i := 140) rfl))) (mvT hZ (hw _ (List.mem_of_getElem? (i := 141) rfl))) (mvT hZ (hw _ (List.mem_of_getElem? (i := 142) rfl))) (mvT hZ (hw _ (List.mem_of_getElem? (i := 143) rfl))) (by decide) (backOf (W := 0) (rmNx l Z a0 hw [] it h0 n0 Z0 lc ci mo n t vs I B gi i hj hi hlt nx hb_) hZ (hw _ (List.mem_of_getElem? (i := 144) rfl)) (hw _ (List.mem_of_getElem? (i := 123) rfl)) (by decide) (by decide)) q2a q2b q2c (g := (mkF m 24 #[.val (.ref lc), .val (.ref it), .val (.ref cur), .unset] [(.ref it)])) rfl (by rw [hml]; rfl) (Steps.refl _) (argsL := []) (rest := []) (lenOf pd_14 rfl) rfl (by show 2 * 0 + _ ≤ _; exact Nat.le_of_eq rfl) (hb hby d17_24) (fun _ _ => ⟨rfl, e1, (by decide : 1 + 0 ≤ _), (by decide : 4 + 0 ≤ _)⟩)
  dsimp only [Pt.U, Pt.locs, Pt.cells, Pt.slots] at X2 l2 y2 z2 st2 hQ2
  subst l2 y2 z2
  obtain ⟨rfl, N2, K2, I2⟩ := hQ2
  have Bn2 := Bn.keep K2 (ninS nni nin0)
  have Bc2 := Bc.keep K2 (ninS nci nin0)
  have Z2 : n0 ≤ T2.heap.size := Nat.le_trans Z0 K2.1
  obtain ⟨T3, X3, e3, st3⟩ := castY X2 hx hZ hown (hw _ (List.mem_of_getElem? (i := 168) rfl)) rfl (Ins.of_exa Bn2.1 (hw _ (List.mem_of_getElem? (i := 169) rfl))) (g := (mkF m 31 #[.val (.ref lc), .val (.ref it), .val (.ref cur), .val (.ref nx)] [(.ref nx)])) rfl rfl (hb hby d17_31)
  obtain ⟨cq4, kq4, q4a, q4b, q4c⟩ := isOf hZ e3 Bn2.1
  obtain ⟨_, _, ⟨T4, L4, k4, n4⟩, -, X4, ⟨Lc4, hQ4, l4, y4, z4⟩, st4⟩ := X3.interfaceBack hx (xi := (⟨"java/lang/Comparable", "compareTo", "(Ljava/lang/Object;)I"⟩ : MethodName)) (y := (⟨"java/lang/Double", "compareTo", "(Ljava/lang/Object;)I"⟩ : MethodName)) hown (mvT hZ (hw _ (List.mem_of_getElem? (i := 170) rfl))) (mvT hZ (hw _ (List.mem_of_getElem? (i := 171) rfl))) (mvT hZ (hw _ (List.mem_of_getElem? (i := 172) rfl))) (mvT hZ (hw _ (List.mem_of_getElem? (i := 173) rfl))) (mvT hZ (hw _ (List.mem_of_getElem? (i := 174) rfl))) (mvT hZ (hw _ (List.mem_of_getElem? (i := 175) rfl))) (mvT hZ (hw _ (List.mem_of_getElem? (i := 176) rfl))) (mvT hZ (hw _ (List.mem_of_getElem? (i := 169) rfl))) (by decide) (backOf (W := 0) (rmCo l Z a0 hw [] nx cur T2.heap n0 Z2 wn wc fn fc Bn2 Bc2) hZ (hw _ (List.mem_of_getElem? (i := 177) rfl)) (hw _ (List.mem_of_getElem? (i := 51) rfl)) (by decide) (by decide)) q4a q4b q4c (g := (mkF m 35 #[.val (.ref lc), .val (.ref it), .val (.ref cur), .val (.ref nx)] [(.ref cur), (.ref nx)])) rfl (by rw [hml]; rfl) (Steps.refl _) (argsL := [(.ref cur)]) (rest := []) (lenOf pd_15 rfl) rfl (by show 2 * 0 + _ ≤ _; exact Nat.le_of_eq rfl) (hb hby d17_35) (fun _ _ => ⟨rfl, e3, (by decide : 1 + 0 ≤ _), (by decide : 4 + 0 ≤ _)⟩)
  dsimp only [Pt.U, Pt.locs, Pt.cells, Pt.slots] at X4 l4 y4 z4 st4 hQ4
  subst l4 y4 z4
  obtain ⟨r4, rfl, N4, e4, q4a, q4b⟩ := hQ4
  have M4 := Fr.app (Fr.app (Fr.app N0 N1) N2) N4
  have K4 : Keep h0 T4.heap [it] := by rw [e4]; exact K2
  have I4 : IT Z T4.heap it lc (ci + 1) mo := by rw [e4]; exact I2
  rcases Decidable.em (0 < r4.toInt) with q | q
  · refine ⟨T4, _, nx, wn, X4, M4, K4, I4, (by rw [e4]; exact Bn2), fn, Or.inr rfl, by omega, by omega, fun target kt => ?_⟩
    show Steps p.tables e below (T.setTop (mkF m 14 #[.val (.ref lc), .val (.ref it), .val (.ref cur), .unset] [])) _
    refine XS.aloadN X.here hx rfl (hb hby d17_14) rfl rfl ?_
    show Steps p.tables e below (T.setTop (mkF m 15 #[.val (.ref lc), .val (.ref it), .val (.ref cur), .unset] [(.ref it)])) _
    refine st1.trans ?_
    show Steps p.tables e below (T1.setTop (mkF m 20 #[.val (.ref lc), .val (.ref it), .val (.ref cur), .unset] [(.int (1 : Int32))])) _
    refine XS.ifNo X1.here hx rfl (hb hby d17_20) rfl rfl ?_
    show Steps p.tables e below (T1.setTop (mkF m 23 #[.val (.ref lc), .val (.ref it), .val (.ref cur), .unset] [])) _
    refine XS.aloadN X1.here hx rfl (hb hby d17_23) rfl rfl ?_
    show Steps p.tables e below (T1.setTop (mkF m 24 #[.val (.ref lc), .val (.ref it), .val (.ref cur), .unset] [(.ref it)])) _
    refine st2.trans ?_
    show Steps p.tables e below (T2.setTop (mkF m 29 #[.val (.ref lc), .val (.ref it), .val (.ref cur), .unset] [(.ref nx)])) _
    refine XS.astoreN X2.here hx rfl (hb hby d17_29) rfl rfl (l' := #[.val (.ref lc), .val (.ref it), .val (.ref cur), .val (.ref nx)]) rfl ?_
    show Steps p.tables e below (T2.setTop (mkF m 30 #[.val (.ref lc), .val (.ref it), .val (.ref cur), .val (.ref nx)] [])) _
    refine XS.aloadN X2.here hx rfl (hb hby d17_30) rfl rfl ?_
    show Steps p.tables e below (T2.setTop (mkF m 31 #[.val (.ref lc), .val (.ref it), .val (.ref cur), .val (.ref nx)] [(.ref nx)])) _
    refine st3 _ ?_
    show Steps p.tables e below (T3.setTop (mkF m 34 #[.val (.ref lc), .val (.ref it), .val (.ref cur), .val (.ref nx)] [(.ref nx)])) _
    refine XS.aloadN X3.here hx rfl (hb hby d17_34) rfl rfl ?_
    show Steps p.tables e below (T3.setTop (mkF m 35 #[.val (.ref lc), .val (.ref it), .val (.ref cur), .val (.ref nx)] [(.ref cur), (.ref nx)])) _
    refine st4.trans ?_
    show Steps p.tables e below (T4.setTop (mkF m 40 #[.val (.ref lc), .val (.ref it), .val (.ref cur), .val (.ref nx)] [(.int r4)])) _
    refine XS.ifNo X4.here hx rfl (hb hby d17_40) rfl ((Jvm.Own.holdsI _ _).trans (Jvm.Own.dF (by omega))) ?_
    show Steps p.tables e below (T4.setTop (mkF m 43 #[.val (.ref lc), .val (.ref it), .val (.ref cur), .val (.ref nx)] [])) _
    refine XS.aloadN X4.here hx rfl (hb hby d17_43) rfl rfl ?_
    show Steps p.tables e below (T4.setTop (mkF m 44 #[.val (.ref lc), .val (.ref it), .val (.ref cur), .val (.ref nx)] [(.ref nx)])) _
    refine XS.astoreN X4.here hx rfl (hb hby d17_44) rfl rfl (l' := #[.val (.ref lc), .val (.ref it), .val (.ref nx), .val (.ref nx)]) rfl ?_
    show Steps p.tables e below (T4.setTop (mkF m 45 #[.val (.ref lc), .val (.ref it), .val (.ref nx), .val (.ref nx)] [])) _
    refine XS.goto X4.here hx rfl (pc0 := 45) (pc' := 14) rfl (hb hby d17_45) (by decide) (by decide) ?_
    exact kt
  · refine ⟨T4, _, cur, wc, X4, M4, K4, I4, (by rw [e4]; exact Bc2), fc, Or.inl rfl, by omega, by omega, fun target kt => ?_⟩
    show Steps p.tables e below (T.setTop (mkF m 14 #[.val (.ref lc), .val (.ref it), .val (.ref cur), .unset] [])) _
    refine XS.aloadN X.here hx rfl (hb hby d17_14) rfl rfl ?_
    show Steps p.tables e below (T.setTop (mkF m 15 #[.val (.ref lc), .val (.ref it), .val (.ref cur), .unset] [(.ref it)])) _
    refine st1.trans ?_
    show Steps p.tables e below (T1.setTop (mkF m 20 #[.val (.ref lc), .val (.ref it), .val (.ref cur), .unset] [(.int (1 : Int32))])) _
    refine XS.ifNo X1.here hx rfl (hb hby d17_20) rfl rfl ?_
    show Steps p.tables e below (T1.setTop (mkF m 23 #[.val (.ref lc), .val (.ref it), .val (.ref cur), .unset] [])) _
    refine XS.aloadN X1.here hx rfl (hb hby d17_23) rfl rfl ?_
    show Steps p.tables e below (T1.setTop (mkF m 24 #[.val (.ref lc), .val (.ref it), .val (.ref cur), .unset] [(.ref it)])) _
    refine st2.trans ?_
    show Steps p.tables e below (T2.setTop (mkF m 29 #[.val (.ref lc), .val (.ref it), .val (.ref cur), .unset] [(.ref nx)])) _
    refine XS.astoreN X2.here hx rfl (hb hby d17_29) rfl rfl (l' := #[.val (.ref lc), .val (.ref it), .val (.ref cur), .val (.ref nx)]) rfl ?_
    show Steps p.tables e below (T2.setTop (mkF m 30 #[.val (.ref lc), .val (.ref it), .val (.ref cur), .val (.ref nx)] [])) _
    refine XS.aloadN X2.here hx rfl (hb hby d17_30) rfl rfl ?_
    show Steps p.tables e below (T2.setTop (mkF m 31 #[.val (.ref lc), .val (.ref it), .val (.ref cur), .val (.ref nx)] [(.ref nx)])) _
    refine st3 _ ?_
    show Steps p.tables e below (T3.setTop (mkF m 34 #[.val (.ref lc), .val (.ref it), .val (.ref cur), .val (.ref nx)] [(.ref nx)])) _
    refine XS.aloadN X3.here hx rfl (hb hby d17_34) rfl rfl ?_
    show Steps p.tables e below (T3.setTop (mkF m 35 #[.val (.ref lc), .val (.ref it), .val (.ref cur), .val (.ref nx)] [(.ref cur), (.ref nx)])) _
    refine st4.trans ?_
    show Steps p.tables e below (T4.setTop (mkF m 40 #[.val (.ref lc), .val (.ref it), .val (.ref cur), .val (.ref nx)] [(.int r4)])) _
    refine XS.ifYes X4.here hx rfl (pc0 := 40) (pc' := 45) rfl (hb hby d17_40) rfl ((Jvm.Own.holdsI _ _).trans (Jvm.Own.dT (by omega))) (by decide) (by decide) ?_
    show Steps p.tables e below (T4.setTop (mkF m 45 #[.val (.ref lc), .val (.ref it), .val (.ref cur), .val (.ref nx)] [])) _
    refine XS.goto X4.here hx rfl (pc0 := 45) (pc' := 14) rfl (hb hby d17_45) (by decide) (by decide) ?_
    exact kt
set_option maxRecDepth 65536 in
set_option maxHeartbeats 40000000 in
theorem turnV {p : Program} {l : Launch} {e : Env} {s : State} {m : MethodId} {args : Array Value} {below : List Frame} {meth : Method} {c : Code} {T : State} {locs : List Loc} {Z : State} {a0 : Array Value} (X : Stand p l e ({ frames := 5, cells := 1, slots := 4, locals := 112 } : Room) s m args below meth c T locs 1 4) (hx : p.tables.exec = Jvm.exec) (hZ : Z.Warmed39 s.vm) (hw : ∀ d ∈ tables_1, d.before a0 Z = true) (hby : c.code = jdk_79_method_21_code) (hml : c.maxLocals = 4) (hown : s.vm.findClass "java/util/Collections" = some m.cls) (h0 : Heap) (n0 : Nat) (N0 : Fr n0 locs) (e0 : T.heap = h0) (Z0 : n0 ≤ h0.size) (lc it cur nx y3 : Addr) (ci mo n : Int32) (t : Addr) (vs : List Value) (I : IT Z h0 it lc ci mo) (B : LS Z h0 lc mo n t vs) (gi : n0 ≤ it) (i : Nat) (hj : ci.toInt = i) (hi : i < 10) (hlt : ci.toInt < n.toInt) (hb_ : vs.getD i .null = .ref nx) (wc wn : UInt64) (Bc : Bx Z h0 cur wc) (Bn : Bx Z h0 nx wn) (fc : Jvm.FP.Core.DFin wc) (fn : Jvm.FP.Core.DFin wn) :
    ∃ T' L' cur' wc', Stand p l e ({ frames := 5, cells := 1, slots := 4, locals := 112 } : Room) s m args below meth c T' L' 1 4 ∧ Fr n0 L' ∧ Keep h0 T'.heap [it] ∧ IT Z T'.heap it lc (ci + 1) mo ∧ Bx Z T'.heap cur' wc' ∧ Jvm.FP.Core.DFin wc' ∧ (wc' = wc ∨ wc' = wn) ∧ Jvm.Own.z wc ≤ Jvm.Own.z wc' ∧ Jvm.Own.z wn ≤ Jvm.Own.z wc' ∧ ∀ target, Steps p.tables e below (T'.setTop (mkF m 14 #[.val (.ref lc), .val (.ref it), .val (.ref cur'), .val (.ref nx)] [])) target → Steps p.tables e below (T.setTop (mkF m 14 #[.val (.ref lc), .val (.ref it), .val (.ref cur), .val (.ref y3)] [])) target := by
  have nci : cur ≠ it := Bc.1.ne I.1 (by decide)
  have nni : nx ≠ it := Bn.1.ne I.1 (by decide)
  obtain ⟨cq1, kq1, q1a, q1b, q1c⟩ := isOf hZ e0 I.1
  obtain ⟨_, _, ⟨T1, L1, k1, n1⟩, -, X1, ⟨Lc1, hQ1, l1, y1, z1⟩, st1⟩ := X.interfaceBack hx (xi := (⟨"java/util/Iterator", "hasNext", "()Z"⟩ : MethodName)) (y := (⟨"java/util/ArrayList$Itr", "hasNext", "()Z"⟩ : MethodName)) hown (mvT hZ (hw _ (List.mem_of_getElem? (i := 154) rfl))) (mvT hZ (hw _ (List.mem_of_getElem? (i := 155) rfl))) (mvT hZ (hw _ (List.mem_of_getElem? (i := 156) rfl))) (mvT hZ (hw _ (List.mem_of_getElem? (i := 157) rfl))) (mvT hZ (hw _ (List.mem_of_getElem? (i := 158) rfl))) (mvT hZ (hw _ (List.mem_of_getElem? (i := 159) rfl))) (mvT hZ (hw _ (List.mem_of_getElem? (i := 160) rfl))) (mvT hZ (hw _ (List.mem_of_getElem? (i := 143) rfl))) (by decide) (backOf (W := 0) (rmH1 l Z a0 hw [] it h0 n0 Z0 lc ci mo n t vs I B (by omega)) hZ (hw _ (List.mem_of_getElem? (i := 161) rfl)) (hw _ (List.mem_of_getElem? (i := 123) rfl)) (by decide) (by decide)) q1a q1b q1c (g := (mkF m 15 #[.val (.ref lc), .val (.ref it), .val (.ref cur), .val (.ref y3)] [(.ref it)])) rfl (by rw [hml]; rfl) (Steps.refl _) (argsL := []) (rest := []) (lenOf pd_13 rfl) rfl (by show 2 * 0 + _ ≤ _; exact Nat.le_of_eq rfl) (hb hby d17_15) (fun _ _ => ⟨rfl, e0, (by decide : 1 + 0 ≤ _), (by decide : 4 + 0 ≤ _)⟩)
  dsimp only [Pt.U, Pt.locs, Pt.cells, Pt.slots] at X1 l1 y1 z1 st1 hQ1
  subst l1 y1 z1
  obtain ⟨rfl, N1, e1⟩ := hQ1
  obtain ⟨cq2, kq2, q2a, q2b, q2c⟩ := isOf hZ e1 I.1
  obtain ⟨_, _, ⟨T2, L2, k2, n2⟩, -, X2, ⟨Lc2, hQ2, l2, y2, z2⟩, st2⟩ := X1.interfaceBack hx (xi := (⟨"java/util/Iterator", "next", "()Ljava/lang/Object;"⟩ : MethodName)) (y := (⟨"java/util/ArrayList$Itr", "next", "()Ljava/lang/Object;"⟩ : MethodName)) hown (mvT hZ (hw _ (List.mem_of_getElem? (i := 136) rfl))) (mvT hZ (hw _ (List.mem_of_getElem? (i := 137) rfl))) (mvT hZ (hw _ (List.mem_of_getElem? (i := 138) rfl))) (mvT hZ (hw _ (List.mem_of_getElem? (i := 139) rfl))) (mvT hZ (hw _ (List.mem_of_getElem? (i := 140) rfl))) (mvT hZ (hw _ (List.mem_of_getElem? (i := 141) rfl))) (mvT hZ (hw _ (List.mem_of_getElem? (i := 142) rfl))) (mvT hZ (hw _ (List.mem_of_getElem? (i := 143) rfl))) (by decide) (backOf (W := 0) (rmNx l Z a0 hw [] it h0 n0 Z0 lc ci mo n t vs I B gi i hj hi hlt nx hb_) hZ (hw _ (List.mem_of_getElem? (i := 144) rfl)) (hw _ (List.mem_of_getElem? (i := 123) rfl)) (by decide) (by decide)) q2a q2b q2c (g := (mkF m 24 #[.val (.ref lc), .val (.ref it), .val (.ref cur), .val (.ref y3)] [(.ref it)])) rfl (by rw [hml]; rfl) (Steps.refl _) (argsL := []) (rest := []) (lenOf pd_14 rfl) rfl (by show 2 * 0 + _ ≤ _; exact Nat.le_of_eq rfl) (hb hby d17_24) (fun _ _ => ⟨rfl, e1, (by decide : 1 + 0 ≤ _), (by decide : 4 + 0 ≤ _)⟩)
  dsimp only [Pt.U, Pt.locs, Pt.cells, Pt.slots] at X2 l2 y2 z2 st2 hQ2
  subst l2 y2 z2
  obtain ⟨rfl, N2, K2, I2⟩ := hQ2
  have Bn2 := Bn.keep K2 (ninS nni nin0)
  have Bc2 := Bc.keep K2 (ninS nci nin0)
  have Z2 : n0 ≤ T2.heap.size := Nat.le_trans Z0 K2.1
  obtain ⟨T3, X3, e3, st3⟩ := castY X2 hx hZ hown (hw _ (List.mem_of_getElem? (i := 168) rfl)) rfl (Ins.of_exa Bn2.1 (hw _ (List.mem_of_getElem? (i := 169) rfl))) (g := (mkF m 31 #[.val (.ref lc), .val (.ref it), .val (.ref cur), .val (.ref nx)] [(.ref nx)])) rfl rfl (hb hby d17_31)
  obtain ⟨cq4, kq4, q4a, q4b, q4c⟩ := isOf hZ e3 Bn2.1
  obtain ⟨_, _, ⟨T4, L4, k4, n4⟩, -, X4, ⟨Lc4, hQ4, l4, y4, z4⟩, st4⟩ := X3.interfaceBack hx (xi := (⟨"java/lang/Comparable", "compareTo", "(Ljava/lang/Object;)I"⟩ : MethodName)) (y := (⟨"java/lang/Double", "compareTo", "(Ljava/lang/Object;)I"⟩ : MethodName)) hown (mvT hZ (hw _ (List.mem_of_getElem? (i := 170) rfl))) (mvT hZ (hw _ (List.mem_of_getElem? (i := 171) rfl))) (mvT hZ (hw _ (List.mem_of_getElem? (i := 172) rfl))) (mvT hZ (hw _ (List.mem_of_getElem? (i := 173) rfl))) (mvT hZ (hw _ (List.mem_of_getElem? (i := 174) rfl))) (mvT hZ (hw _ (List.mem_of_getElem? (i := 175) rfl))) (mvT hZ (hw _ (List.mem_of_getElem? (i := 176) rfl))) (mvT hZ (hw _ (List.mem_of_getElem? (i := 169) rfl))) (by decide) (backOf (W := 0) (rmCo l Z a0 hw [] nx cur T2.heap n0 Z2 wn wc fn fc Bn2 Bc2) hZ (hw _ (List.mem_of_getElem? (i := 177) rfl)) (hw _ (List.mem_of_getElem? (i := 51) rfl)) (by decide) (by decide)) q4a q4b q4c (g := (mkF m 35 #[.val (.ref lc), .val (.ref it), .val (.ref cur), .val (.ref nx)] [(.ref cur), (.ref nx)])) rfl (by rw [hml]; rfl) (Steps.refl _) (argsL := [(.ref cur)]) (rest := []) (lenOf pd_15 rfl) rfl (by show 2 * 0 + _ ≤ _; exact Nat.le_of_eq rfl) (hb hby d17_35) (fun _ _ => ⟨rfl, e3, (by decide : 1 + 0 ≤ _), (by decide : 4 + 0 ≤ _)⟩)
  dsimp only [Pt.U, Pt.locs, Pt.cells, Pt.slots] at X4 l4 y4 z4 st4 hQ4
  subst l4 y4 z4
  obtain ⟨r4, rfl, N4, e4, q4a, q4b⟩ := hQ4
  have M4 := Fr.app (Fr.app (Fr.app N0 N1) N2) N4
  have K4 : Keep h0 T4.heap [it] := by rw [e4]; exact K2
  have I4 : IT Z T4.heap it lc (ci + 1) mo := by rw [e4]; exact I2
  rcases Decidable.em (0 < r4.toInt) with q | q
  · refine ⟨T4, _, nx, wn, X4, M4, K4, I4, (by rw [e4]; exact Bn2), fn, Or.inr rfl, by omega, by omega, fun target kt => ?_⟩
    show Steps p.tables e below (T.setTop (mkF m 14 #[.val (.ref lc), .val (.ref it), .val (.ref cur), .val (.ref y3)] [])) _
    refine XS.aloadN X.here hx rfl (hb hby d17_14) rfl rfl ?_
    show Steps p.tables e below (T.setTop (mkF m 15 #[.val (.ref lc), .val (.ref it), .val (.ref cur), .val (.ref y3)] [(.ref it)])) _
    refine st1.trans ?_
    show Steps p.tables e below (T1.setTop (mkF m 20 #[.val (.ref lc), .val (.ref it), .val (.ref cur), .val (.ref y3)] [(.int (1 : Int32))])) _
    refine XS.ifNo X1.here hx rfl (hb hby d17_20) rfl rfl ?_
    show Steps p.tables e below (T1.setTop (mkF m 23 #[.val (.ref lc), .val (.ref it), .val (.ref cur), .val (.ref y3)] [])) _
    refine XS.aloadN X1.here hx rfl (hb hby d17_23) rfl rfl ?_
    show Steps p.tables e below (T1.setTop (mkF m 24 #[.val (.ref lc), .val (.ref it), .val (.ref cur), .val (.ref y3)] [(.ref it)])) _
    refine st2.trans ?_
    show Steps p.tables e below (T2.setTop (mkF m 29 #[.val (.ref lc), .val (.ref it), .val (.ref cur), .val (.ref y3)] [(.ref nx)])) _
    refine XS.astoreN X2.here hx rfl (hb hby d17_29) rfl rfl (l' := #[.val (.ref lc), .val (.ref it), .val (.ref cur), .val (.ref nx)]) rfl ?_
    show Steps p.tables e below (T2.setTop (mkF m 30 #[.val (.ref lc), .val (.ref it), .val (.ref cur), .val (.ref nx)] [])) _
    refine XS.aloadN X2.here hx rfl (hb hby d17_30) rfl rfl ?_
    show Steps p.tables e below (T2.setTop (mkF m 31 #[.val (.ref lc), .val (.ref it), .val (.ref cur), .val (.ref nx)] [(.ref nx)])) _
    refine st3 _ ?_
    show Steps p.tables e below (T3.setTop (mkF m 34 #[.val (.ref lc), .val (.ref it), .val (.ref cur), .val (.ref nx)] [(.ref nx)])) _
    refine XS.aloadN X3.here hx rfl (hb hby d17_34) rfl rfl ?_
    show Steps p.tables e below (T3.setTop (mkF m 35 #[.val (.ref lc), .val (.ref it), .val (.ref cur), .val (.ref nx)] [(.ref cur), (.ref nx)])) _
    refine st4.trans ?_
    show Steps p.tables e below (T4.setTop (mkF m 40 #[.val (.ref lc), .val (.ref it), .val (.ref cur), .val (.ref nx)] [(.int r4)])) _
    refine XS.ifNo X4.here hx rfl (hb hby d17_40) rfl ((Jvm.Own.holdsI _ _).trans (Jvm.Own.dF (by omega))) ?_
    show Steps p.tables e below (T4.setTop (mkF m 43 #[.val (.ref lc), .val (.ref it), .val (.ref cur), .val (.ref nx)] [])) _
    refine XS.aloadN X4.here hx rfl (hb hby d17_43) rfl rfl ?_
    show Steps p.tables e below (T4.setTop (mkF m 44 #[.val (.ref lc), .val (.ref it), .val (.ref cur), .val (.ref nx)] [(.ref nx)])) _
    refine XS.astoreN X4.here hx rfl (hb hby d17_44) rfl rfl (l' := #[.val (.ref lc), .val (.ref it), .val (.ref nx), .val (.ref nx)]) rfl ?_
    show Steps p.tables e below (T4.setTop (mkF m 45 #[.val (.ref lc), .val (.ref it), .val (.ref nx), .val (.ref nx)] [])) _
    refine XS.goto X4.here hx rfl (pc0 := 45) (pc' := 14) rfl (hb hby d17_45) (by decide) (by decide) ?_
    exact kt
  · refine ⟨T4, _, cur, wc, X4, M4, K4, I4, (by rw [e4]; exact Bc2), fc, Or.inl rfl, by omega, by omega, fun target kt => ?_⟩
    show Steps p.tables e below (T.setTop (mkF m 14 #[.val (.ref lc), .val (.ref it), .val (.ref cur), .val (.ref y3)] [])) _
    refine XS.aloadN X.here hx rfl (hb hby d17_14) rfl rfl ?_
    show Steps p.tables e below (T.setTop (mkF m 15 #[.val (.ref lc), .val (.ref it), .val (.ref cur), .val (.ref y3)] [(.ref it)])) _
    refine st1.trans ?_
    show Steps p.tables e below (T1.setTop (mkF m 20 #[.val (.ref lc), .val (.ref it), .val (.ref cur), .val (.ref y3)] [(.int (1 : Int32))])) _
    refine XS.ifNo X1.here hx rfl (hb hby d17_20) rfl rfl ?_
    show Steps p.tables e below (T1.setTop (mkF m 23 #[.val (.ref lc), .val (.ref it), .val (.ref cur), .val (.ref y3)] [])) _
    refine XS.aloadN X1.here hx rfl (hb hby d17_23) rfl rfl ?_
    show Steps p.tables e below (T1.setTop (mkF m 24 #[.val (.ref lc), .val (.ref it), .val (.ref cur), .val (.ref y3)] [(.ref it)])) _
    refine st2.trans ?_
    show Steps p.tables e below (T2.setTop (mkF m 29 #[.val (.ref lc), .val (.ref it), .val (.ref cur), .val (.ref y3)] [(.ref nx)])) _
    refine XS.astoreN X2.here hx rfl (hb hby d17_29) rfl rfl (l' := #[.val (.ref lc), .val (.ref it), .val (.ref cur), .val (.ref nx)]) rfl ?_
    show Steps p.tables e below (T2.setTop (mkF m 30 #[.val (.ref lc), .val (.ref it), .val (.ref cur), .val (.ref nx)] [])) _
    refine XS.aloadN X2.here hx rfl (hb hby d17_30) rfl rfl ?_
    show Steps p.tables e below (T2.setTop (mkF m 31 #[.val (.ref lc), .val (.ref it), .val (.ref cur), .val (.ref nx)] [(.ref nx)])) _
    refine st3 _ ?_
    show Steps p.tables e below (T3.setTop (mkF m 34 #[.val (.ref lc), .val (.ref it), .val (.ref cur), .val (.ref nx)] [(.ref nx)])) _
    refine XS.aloadN X3.here hx rfl (hb hby d17_34) rfl rfl ?_
    show Steps p.tables e below (T3.setTop (mkF m 35 #[.val (.ref lc), .val (.ref it), .val (.ref cur), .val (.ref nx)] [(.ref cur), (.ref nx)])) _
    refine st4.trans ?_
    show Steps p.tables e below (T4.setTop (mkF m 40 #[.val (.ref lc), .val (.ref it), .val (.ref cur), .val (.ref nx)] [(.int r4)])) _
    refine XS.ifYes X4.here hx rfl (pc0 := 40) (pc' := 45) rfl (hb hby d17_40) rfl ((Jvm.Own.holdsI _ _).trans (Jvm.Own.dT (by omega))) (by decide) (by decide) ?_
    show Steps p.tables e below (T4.setTop (mkF m 45 #[.val (.ref lc), .val (.ref it), .val (.ref cur), .val (.ref nx)] [])) _
    refine XS.goto X4.here hx rfl (pc0 := 45) (pc' := 14) rfl (hb hby d17_45) (by decide) (by decide) ?_
    exact kt
def QM1 (Z : State) (w0_ : UInt64) (h0 : Heap) (n0 : Nat) (v : Option Value) (h : Heap) (L : List Loc) : Prop := ∃ b w, v = some (.ref b) ∧ Fr n0 L ∧ h0.size ≤ h.size ∧ Bx Z h b w ∧ Jvm.FP.Core.DFin w ∧ (w = w0_) ∧ Jvm.Own.z w0_ ≤ Jvm.Own.z w
def QR1 (w0_ : UInt64) (n0 : Nat) (v : Option Value) (h : Heap) (L : List Loc) : Prop := ∃ w, v = some (.double w) ∧ Fr n0 L ∧ Jvm.FP.Core.DFin w ∧ (w = w0_) ∧ Jvm.Own.z w0_ ≤ Jvm.Own.z w
theorem ef_rmM1 (m : MethodId) (lc : Addr) : entryFrame m #[(.ref lc)] 4 = mkF m 0 #[.val (.ref lc), .unset, .unset, .unset] [] := by first | (simp [entryFrame, mkF, argsToLocals, Value.category]; done) | rfl
set_option maxRecDepth 65536 in
set_option maxHeartbeats 40000000 in
theorem rmM1 (l : Launch) (Z : State) (a0 : Array Value) (hw : ∀ d ∈ tables_1, d.before a0 Z = true) (ws : List Jvm.Cond) (lc : Addr) (h0 : Heap) (n0 : Nat) (Z0 : n0 ≤ h0.size) (mo n : Int32) (t : Addr) (vs : List Value) (B : LS Z h0 lc mo n t vs) (hn : n.toInt = 1) (b0_ : Addr) (w0_ : UInt64) (p0 : vs.getD 0 .null = .ref b0_) (B0 : Bx Z h0 b0_ w0_) (f0_ : Jvm.FP.Core.DFin w0_) :
    MetFree l (⟨"java/util/Collections", "max", "(Ljava/util/Collection;)Ljava/lang/Object;"⟩ : MethodName) (head1 (Jvm.Cond.code (⟨"java/util/Collections", "max", "(Ljava/util/Collection;)Ljava/lang/Object;"⟩ : MethodName) jdk_79_method_21_code 4 (some (.object "java/lang/Object")) :: ws) ({ frames := 5, cells := 1, slots := 4, locals := 112 } : Room)) (fun a_ U_ => a_ = #[(.ref lc)] ∧ Z.Warmed39 U_.vm ∧ U_.heap = h0) (fun _ _ _ _ _ => True) (fun _ U_ o_ V_ => ∃ v_ L_, o_ = .returned v_ ∧ QM1 Z w0_ h0 n0 v_ V_.heap L_ ∧ FrameEnd U_ o_ V_ L_ ({ frames := 5, cells := 1, slots := 4, locals := 112 } : Room).cells ({ frames := 5, cells := 1, slots := 4, locals := 112 } : Room).slots) := by
  refine MetFree.of_bodySF (plainFor_of_name pn_7) hisR ?_
  intro p e s m args below meth c s₁ Bd hml0 hP hK
  obtain ⟨rfl, hZ, hh⟩ := hP
  have hx := Bd.exec
  have hby := Bd.bytes
  have hml : c.maxLocals = 4 := hml0
  have hown : s.vm.findClass "java/util/Collections" = some m.cls := findClass_of_methodNamed Bd.named
  have hnm := (name_of_methodNamed Bd.named Bd.method).1
  have X0 : Stand p l e ({ frames := 5, cells := 1, slots := 4, locals := 112 } : Room) s m #[(.ref lc)] below meth c s₁ [] 0 0 := Stand.of_body Bd
  have e0 : s₁.heap = h0 := by rw [← hh, Bd.state]; rfl
  have N0 := Fr.nil n0
  have pre0 : ∀ t_1, Steps p.tables e below (s₁.setTop (mkF m 0 #[.val (.ref lc), .unset, .unset, .unset] [])) t_1 → Steps p.tables e below (s₁.setTop (entryFrame m #[(.ref lc)] 4)) t_1 := fun t_ k_ => castTop (ef_rmM1 m lc) k_
  obtain ⟨cq1, kq1, q1a, q1b, q1c⟩ := isOf hZ e0 B.1
  obtain ⟨_, _, ⟨T1, L1, k1, n1⟩, -, X1, ⟨Lc1, hQ1, l1, y1, z1⟩, st1⟩ := X0.interfaceBack hx (xi := (⟨"java/util/Collection", "iterator", "()Ljava/util/Iterator;"⟩ : MethodName)) (y := (⟨"java/util/ArrayList", "iterator", "()Ljava/util/Iterator;"⟩ : MethodName)) hown (mvT hZ (hw _ (List.mem_of_getElem? (i := 112) rfl))) (mvT hZ (hw _ (List.mem_of_getElem? (i := 113) rfl))) (mvT hZ (hw _ (List.mem_of_getElem? (i := 114) rfl))) (mvT hZ (hw _ (List.mem_of_getElem? (i := 115) rfl))) (mvT hZ (hw _ (List.mem_of_getElem? (i := 116) rfl))) (mvT hZ (hw _ (List.mem_of_getElem? (i := 117) rfl))) (mvT hZ (hw _ (List.mem_of_getElem? (i := 118) rfl))) (mvT hZ (hw _ (List.mem_of_getElem? (i := 119) rfl))) (by decide) (backOf (W := 0) (rmIt l Z a0 hw [] lc h0 n0 Z0 mo n t vs B) hZ (hw _ (List.mem_of_getElem? (i := 120) rfl)) (hw _ (List.mem_of_getElem? (i := 16) rfl)) (by decide) (by decide)) q1a q1b q1c (g := (mkF m 1 #[.val (.ref lc), .unset, .unset, .unset] [(.ref lc)])) rfl (by rw [hml]; rfl) (Steps.refl _) (argsL := []) (rest := []) (lenOf pd_16 rfl) rfl (by show 2 * 0 + _ ≤ _; exact Nat.le_of_eq rfl) (hb hby d17_1) (fun _ _ => ⟨rfl, e0, (by decide : 0 + 1 ≤ _), (by decide : 0 + 4 ≤ _)⟩)
  dsimp only [Pt.U, Pt.locs, Pt.cells, Pt.slots] at X1 l1 y1 z1 st1 hQ1
  subst l1 y1 z1
  obtain ⟨it, rfl, N1, K1, I1, s1⟩ := hQ1
  have L_1 := B.keep K1 nin0 nin0
  have B0_1 := B0.keep K1 nin0
  have gi : n0 ≤ it := Nat.le_trans Z0 s1
  have Z1 : n0 ≤ T1.heap.size := Nat.le_trans Z0 K1.1
  have nli : lc ≠ it := Ne.symm (I1.1.ne L_1.1 (by decide))
  have nti : t ≠ it := Ne.symm (L_1.2.2.2.2.ne I1.1 (hw _ (List.mem_of_getElem? (i := 122) rfl)))
  have nb0 : b0_ ≠ it := B0_1.1.ne I1.1 (by decide)
  obtain ⟨cq2, kq2, q2a, q2b, q2c⟩ := isOf hZ rfl I1.1
  obtain ⟨_, _, ⟨T2, L2, k2, n2⟩, -, X2, ⟨Lc2, hQ2, l2, y2, z2⟩, st2⟩ := X1.interfaceBack hx (xi := (⟨"java/util/Iterator", "next", "()Ljava/lang/Object;"⟩ : MethodName)) (y := (⟨"java/util/ArrayList$Itr", "next", "()Ljava/lang/Object;"⟩ : MethodName)) hown (mvT hZ (hw _ (List.mem_of_getElem? (i := 136) rfl))) (mvT hZ (hw _ (List.mem_of_getElem? (i := 137) rfl))) (mvT hZ (hw _ (List.mem_of_getElem? (i := 138) rfl))) (mvT hZ (hw _ (List.mem_of_getElem? (i := 139) rfl))) (mvT hZ (hw _ (List.mem_of_getElem? (i := 140) rfl))) (mvT hZ (hw _ (List.mem_of_getElem? (i := 141) rfl))) (mvT hZ (hw _ (List.mem_of_getElem? (i := 142) rfl))) (mvT hZ (hw _ (List.mem_of_getElem? (i := 143) rfl))) (by decide) (backOf (W := 0) (rmNx l Z a0 hw [] it T1.heap n0 Z1 lc 0 mo n t vs I1 L_1 gi 0 rfl (by decide) (by rw [hn]; decide) b0_ p0) hZ (hw _ (List.mem_of_getElem? (i := 144) rfl)) (hw _ (List.mem_of_getElem? (i := 123) rfl)) (by decide) (by decide)) q2a q2b q2c (g := (mkF m 8 #[.val (.ref lc), .val (.ref it), .unset, .unset] [(.ref it)])) rfl (by rw [hml]; rfl) (Steps.refl _) (argsL := []) (rest := []) (lenOf pd_14 rfl) rfl (by show 2 * 0 + _ ≤ _; exact Nat.le_of_eq rfl) (hb hby d17_8) (fun _ _ => ⟨rfl, rfl, (by decide : 1 + 0 ≤ _), (by decide : 4 + 0 ≤ _)⟩)
  dsimp only [Pt.U, Pt.locs, Pt.cells, Pt.slots] at X2 l2 y2 z2 st2 hQ2
  subst l2 y2 z2
  obtain ⟨rfl, N2, K2, I2⟩ := hQ2
  have L_2 := L_1.keep K2 (ninS nli nin0) (ninS nti nin0)
  have B0_2 := B0_1.keep K2 (ninS nb0 nin0)
  have Z2 : n0 ≤ T2.heap.size := Nat.le_trans Z1 K2.1
  have M2 := Fr.app (Fr.app N0 N1) N2
  obtain ⟨cq8, kq8, q8a, q8b, q8c⟩ := isOf hZ rfl I2.1
  obtain ⟨_, _, ⟨T8, L8, k8, n8⟩, -, X8, ⟨Lc8, hQ8, l8, y8, z8⟩, st8⟩ := X2.interfaceBack hx (xi := (⟨"java/util/Iterator", "hasNext", "()Z"⟩ : MethodName)) (y := (⟨"java/util/ArrayList$Itr", "hasNext", "()Z"⟩ : MethodName)) hown (mvT hZ (hw _ (List.mem_of_getElem? (i := 154) rfl))) (mvT hZ (hw _ (List.mem_of_getElem? (i := 155) rfl))) (mvT hZ (hw _ (List.mem_of_getElem? (i := 156) rfl))) (mvT hZ (hw _ (List.mem_of_getElem? (i := 157) rfl))) (mvT hZ (hw _ (List.mem_of_getElem? (i := 158) rfl))) (mvT hZ (hw _ (List.mem_of_getElem? (i := 159) rfl))) (mvT hZ (hw _ (List.mem_of_getElem? (i := 160) rfl))) (mvT hZ (hw _ (List.mem_of_getElem? (i := 143) rfl))) (by decide) (backOf (W := 0) (rmH0 l Z a0 hw [] it T2.heap n0 Z2 lc ((0 : Int32) + 1) mo n t vs I2 L_2 (by rw [hn]; rfl)) hZ (hw _ (List.mem_of_getElem? (i := 161) rfl)) (hw _ (List.mem_of_getElem? (i := 123) rfl)) (by decide) (by decide)) q8a q8b q8c (g := (mkF m 15 #[.val (.ref lc), .val (.ref it), .val (.ref b0_), .unset] [(.ref it)])) rfl (by rw [hml]; rfl) (Steps.refl _) (argsL := []) (rest := []) (lenOf pd_13 rfl) rfl (by show 2 * 0 + _ ≤ _; exact Nat.le_of_eq rfl) (hb hby d17_15) (fun _ _ => ⟨rfl, rfl, (by decide : 1 + 0 ≤ _), (by decide : 4 + 0 ≤ _)⟩)
  dsimp only [Pt.U, Pt.locs, Pt.cells, Pt.slots] at X8 l8 y8 z8 st8 hQ8
  subst l8 y8 z8
  obtain ⟨rfl, N8, e8⟩ := hQ8
  obtain ⟨fs, hr, hrun, hended, hW, hsame⟩ := X8.leave (v := some (.ref b0_)) (fun h => by rw [Bd.returns] at h; cases h)
  refine ⟨_, _, pre0 _ ?_, hrun, hended, _, _, rfl, ?_, ⟨_, rfl⟩, hW, hsame.mono (by decide) (by decide)⟩
  · show Steps p.tables e below (s₁.setTop (mkF m 0 #[.val (.ref lc), .unset, .unset, .unset] [])) _
    refine XS.aloadN X0.here hx rfl (hb hby d17_0) rfl rfl ?_
    show Steps p.tables e below (s₁.setTop (mkF m 1 #[.val (.ref lc), .unset, .unset, .unset] [(.ref lc)])) _
    refine st1.trans ?_
    show Steps p.tables e below (T1.setTop (mkF m 6 #[.val (.ref lc), .unset, .unset, .unset] [(.ref it)])) _
    refine XS.astoreN X1.here hx rfl (hb hby d17_6) rfl rfl (l' := #[.val (.ref lc), .val (.ref it), .unset, .unset]) rfl ?_
    show Steps p.tables e below (T1.setTop (mkF m 7 #[.val (.ref lc), .val (.ref it), .unset, .unset] [])) _
    refine XS.aloadN X1.here hx rfl (hb hby d17_7) rfl rfl ?_
    show Steps p.tables e below (T1.setTop (mkF m 8 #[.val (.ref lc), .val (.ref it), .unset, .unset] [(.ref it)])) _
    refine st2.trans ?_
    show Steps p.tables e below (T2.setTop (mkF m 13 #[.val (.ref lc), .val (.ref it), .unset, .unset] [(.ref b0_)])) _
    refine XS.astoreN X2.here hx rfl (hb hby d17_13) rfl rfl (l' := #[.val (.ref lc), .val (.ref it), .val (.ref b0_), .unset]) rfl ?_
    show Steps p.tables e below (T2.setTop (mkF m 14 #[.val (.ref lc), .val (.ref it), .val (.ref b0_), .unset] [])) _
    refine XS.aloadN X2.here hx rfl (hb hby d17_14) rfl rfl ?_
    show Steps p.tables e below (T2.setTop (mkF m 15 #[.val (.ref lc), .val (.ref it), .val (.ref b0_), .unset] [(.ref it)])) _
    refine st8.trans ?_
    show Steps p.tables e below (T8.setTop (mkF m 20 #[.val (.ref lc), .val (.ref it), .val (.ref b0_), .unset] [(.int (0 : Int32))])) _
    refine XS.ifYes X8.here hx rfl (pc0 := 20) (pc' := 48) rfl (hb hby d17_20) rfl rfl (by decide) (by decide) ?_
    show Steps p.tables e below (T8.setTop (mkF m 48 #[.val (.ref lc), .val (.ref it), .val (.ref b0_), .unset] [])) _
    refine XS.aloadN X8.here hx rfl (hb hby d17_48) rfl rfl ?_
    show Steps p.tables e below (T8.setTop (mkF m 49 #[.val (.ref lc), .val (.ref it), .val (.ref b0_), .unset] [(.ref b0_)])) _
    exact X8.areturnOut hx rfl Bd.returns rfl (hb hby d17_49) hr
  · show QM1 Z w0_ h0 n0 _ T8.heap _
    rw [e8]
    exact ⟨_, _, rfl, Fr.app M2 N8, Nat.le_trans K1.1 K2.1, B0_2, f0_, rfl, by omega⟩
theorem ef_rmR1 (m : MethodId) (pt : Addr) : entryFrame m #[(.ref pt)] 1 = mkF m 0 #[.val (.ref pt)] [] := by first | (simp [entryFrame, mkF, argsToLocals, Value.category]; done) | rfl
set_option maxRecDepth 65536 in
set_option maxHeartbeats 40000000 in
theorem rmR1 (l : Launch) (Z : State) (a0 : Array Value) (hw : ∀ d ∈ tables_1, d.before a0 Z = true) (ws : List Jvm.Cond) (pt : Addr) (h0 : Heap) (n0 : Nat) (Z0 : n0 ≤ h0.size) (la lb lc : Addr) (P : PX Z h0 pt la lb lc) (mo n : Int32) (t : Addr) (vs : List Value) (B : LS Z h0 lc mo n t vs) (hn : n.toInt = 1) (b0_ : Addr) (w0_ : UInt64) (p0 : vs.getD 0 .null = .ref b0_) (B0 : Bx Z h0 b0_ w0_) (f0_ : Jvm.FP.Core.DFin w0_) :
    MetFree l (⟨"com/example/quadwarden/quadwarden/cli/PairedTimings", "ratioMax", "()D"⟩ : MethodName) (head1 (Jvm.Cond.code (⟨"com/example/quadwarden/quadwarden/cli/PairedTimings", "ratioMax", "()D"⟩ : MethodName) prog_5_method_7_code 1 (some .double) :: ws) ({ frames := 6, cells := 1, slots := 4, locals := 130 } : Room)) (fun a_ U_ => a_ = #[(.ref pt)] ∧ Z.Warmed39 U_.vm ∧ U_.heap = h0) (fun _ _ _ _ _ => True) (fun _ U_ o_ V_ => ∃ v_ L_, o_ = .returned v_ ∧ QR1 w0_ n0 v_ V_.heap L_ ∧ FrameEnd U_ o_ V_ L_ ({ frames := 6, cells := 1, slots := 4, locals := 130 } : Room).cells ({ frames := 6, cells := 1, slots := 4, locals := 130 } : Room).slots) := by
  refine MetFree.of_bodySF (plainFor_of_name pn_5) hisR ?_
  intro p e s m args below meth c s₁ Bd hml0 hP hK
  obtain ⟨rfl, hZ, hh⟩ := hP
  have hx := Bd.exec
  have hby := Bd.bytes
  have hml : c.maxLocals = 1 := hml0
  have hown : s.vm.findClass "com/example/quadwarden/quadwarden/cli/PairedTimings" = some m.cls := findClass_of_methodNamed Bd.named
  have hnm := (name_of_methodNamed Bd.named Bd.method).1
  have X0 : Stand p l e ({ frames := 6, cells := 1, slots := 4, locals := 130 } : Room) s m #[(.ref pt)] below meth c s₁ [] 0 0 := Stand.of_body Bd
  have e0 : s₁.heap = h0 := by rw [← hh, Bd.state]; rfl
  have N0 := Fr.nil n0
  have pre0 : ∀ t_1, Steps p.tables e below (s₁.setTop (mkF m 0 #[.val (.ref pt)] [])) t_1 → Steps p.tables e below (s₁.setTop (entryFrame m #[(.ref pt)] 1)) t_1 := fun t_ k_ => castTop (ef_rmR1 m pt) k_
  obtain ⟨T1, X1, e1, st1⟩ := getF X0 hx hZ hown (host := "") (Or.inl (hw _ (List.mem_of_getElem? (i := 42) rfl))) Via.refl e0 P.2.2.2 (g := (mkF m 1 #[.val (.ref pt)] [(.ref pt)])) rfl rfl (hb hby d16_1)
  obtain ⟨_, _, ⟨T2, L2, k2, n2⟩, -, X2, ⟨Lc2, hQ2, l2, y2, z2⟩, st2⟩ := Jvm.LawKit.callS X1 hx (y := (⟨"java/util/Collections", "max", "(Ljava/util/Collection;)Ljava/lang/Object;"⟩ : MethodName)) hown (mvT hZ (hw _ (List.mem_of_getElem? (i := 108) rfl))) (mvT hZ (hw _ (List.mem_of_getElem? (i := 109) rfl))) (mvT hZ (hw _ (List.mem_of_getElem? (i := 110) rfl))) (mvT hZ (hw _ (List.mem_of_getElem? (i := 111) rfl))) (by decide) (backOf (W := 0) (rmM1 l Z a0 hw [] lc h0 n0 Z0 mo n t vs B hn b0_ w0_ p0 B0 f0_) hZ (hw _ (List.mem_of_getElem? (i := 111) rfl)) (hw _ (List.mem_of_getElem? (i := 110) rfl)) (by decide) (by decide)) (g := (mkF m 4 #[.val (.ref pt)] [(.ref lc)])) rfl (by rw [hml]; rfl) (argsL := [(.ref lc)]) (rest := []) (lenOf pd_17 rfl) rfl (by show 2 * 0 + _ ≤ _; exact Nat.le_of_eq rfl) (hb hby d16_4) (fun _ _ => ⟨rfl, e1, (by decide : 0 + 1 ≤ _), (by decide : 0 + 4 ≤ _)⟩)
  dsimp only [Pt.U, Pt.locs, Pt.cells, Pt.slots] at X2 l2 y2 z2 st2 hQ2
  subst l2 y2 z2
  obtain ⟨b2, w2, rfl, N2, Z2_, B2_, f2, m2⟩ := hQ2
  obtain ⟨T3, X3, e3, st3⟩ := castY X2 hx hZ hown (hw _ (List.mem_of_getElem? (i := 162) rfl)) rfl (Ins.self B2_.1) (g := (mkF m 7 #[.val (.ref pt)] [(.ref b2)])) rfl rfl (hb hby d16_7)
  obtain ⟨cq4, kq4, q4a, q4b, q4c⟩ := isOf hZ e3 B2_.1
  obtain ⟨_, _, ⟨T4, L4, k4, n4⟩, -, X4, ⟨Lc4, hQ4, l4, y4, z4⟩, st4⟩ := X3.virtualBack hx (y := (⟨"java/lang/Double", "doubleValue", "()D"⟩ : MethodName)) (z := (⟨"java/lang/Double", "doubleValue", "()D"⟩ : MethodName)) hown (mvT hZ (hw _ (List.mem_of_getElem? (i := 163) rfl))) (mvT hZ (hw _ (List.mem_of_getElem? (i := 164) rfl))) (notFace_of_selects (args := #[]) (mvT hZ (hw _ (List.mem_of_getElem? (i := 166) rfl)))) (mvT hZ (hw _ (List.mem_of_getElem? (i := 166) rfl))) (mvT hZ (hw _ (List.mem_of_getElem? (i := 165) rfl))) (by decide) (backOf (W := 0) (rmDv l Z a0 hw [] b2 T2.heap n0 (Nat.le_trans Z0 Z2_) w2 B2_) hZ (hw _ (List.mem_of_getElem? (i := 167) rfl)) (hw _ (List.mem_of_getElem? (i := 51) rfl)) (by decide) (by decide)) q4a q4c (g := (mkF m 10 #[.val (.ref pt)] [(.ref b2)])) rfl (by rw [hml]; rfl) (Steps.refl _) (argsL := []) (rest := []) (lenOf pd_18 rfl) rfl (by show 2 * 0 + _ ≤ _; exact Nat.le_of_eq rfl) (hb hby d16_10) (fun _ _ => ⟨rfl, e3, (by decide : 1 + 0 ≤ _), (by decide : 4 + 0 ≤ _)⟩)
  dsimp only [Pt.U, Pt.locs, Pt.cells, Pt.slots] at X4 l4 y4 z4 st4 hQ4
  subst l4 y4 z4
  obtain ⟨rfl, N4, e4⟩ := hQ4
  obtain ⟨fs, hr, hrun, hended, hW, hsame⟩ := X4.leave (v := some (.double w2)) (fun h => by rw [Bd.returns] at h; cases h)
  refine ⟨_, _, pre0 _ ?_, hrun, hended, _, _, rfl, ?_, ⟨_, rfl⟩, hW, hsame.mono (by decide) (by decide)⟩
  · show Steps p.tables e below (s₁.setTop (mkF m 0 #[.val (.ref pt)] [])) _
    refine XS.aloadN X0.here hx rfl (hb hby d16_0) rfl rfl ?_
    show Steps p.tables e below (s₁.setTop (mkF m 1 #[.val (.ref pt)] [(.ref pt)])) _
    refine st1 _ ?_
    show Steps p.tables e below (T1.setTop (mkF m 4 #[.val (.ref pt)] [(.ref lc)])) _
    refine st2 _ ?_
    show Steps p.tables e below (T2.setTop (mkF m 7 #[.val (.ref pt)] [(.ref b2)])) _
    refine st3 _ ?_
    show Steps p.tables e below (T3.setTop (mkF m 10 #[.val (.ref pt)] [(.ref b2)])) _
    refine st4.trans ?_
    show Steps p.tables e below (T4.setTop (mkF m 13 #[.val (.ref pt)] [(.double w2)])) _
    exact Jvm.RoadKit.retD X4 hx Bd.returns (hb hby d16_13) hr
  · show QR1 w0_ n0 _ T4.heap _
    exact ⟨w2, rfl, Fr.app (Fr.app N0 N2) N4, f2, m2⟩
def QM2 (Z : State) (w0_ w1_ : UInt64) (h0 : Heap) (n0 : Nat) (v : Option Value) (h : Heap) (L : List Loc) : Prop := ∃ b w, v = some (.ref b) ∧ Fr n0 L ∧ h0.size ≤ h.size ∧ Bx Z h b w ∧ Jvm.FP.Core.DFin w ∧ (w = w0_ ∨ w = w1_) ∧ Jvm.Own.z w0_ ≤ Jvm.Own.z w ∧ Jvm.Own.z w1_ ≤ Jvm.Own.z w
def QR2 (w0_ w1_ : UInt64) (n0 : Nat) (v : Option Value) (h : Heap) (L : List Loc) : Prop := ∃ w, v = some (.double w) ∧ Fr n0 L ∧ Jvm.FP.Core.DFin w ∧ (w = w0_ ∨ w = w1_) ∧ Jvm.Own.z w0_ ≤ Jvm.Own.z w ∧ Jvm.Own.z w1_ ≤ Jvm.Own.z w
theorem ef_rmM2 (m : MethodId) (lc : Addr) : entryFrame m #[(.ref lc)] 4 = mkF m 0 #[.val (.ref lc), .unset, .unset, .unset] [] := by first | (simp [entryFrame, mkF, argsToLocals, Value.category]; done) | rfl
set_option maxRecDepth 65536 in
set_option maxHeartbeats 40000000 in
theorem rmM2 (l : Launch) (Z : State) (a0 : Array Value) (hw : ∀ d ∈ tables_1, d.before a0 Z = true) (ws : List Jvm.Cond) (lc : Addr) (h0 : Heap) (n0 : Nat) (Z0 : n0 ≤ h0.size) (mo n : Int32) (t : Addr) (vs : List Value) (B : LS Z h0 lc mo n t vs) (hn : n.toInt = 2) (b0_ b1_ : Addr) (w0_ w1_ : UInt64) (p0 : vs.getD 0 .null = .ref b0_) (B0 : Bx Z h0 b0_ w0_) (f0_ : Jvm.FP.Core.DFin w0_) (p1 : vs.getD 1 .null = .ref b1_) (B1 : Bx Z h0 b1_ w1_) (f1_ : Jvm.FP.Core.DFin w1_) :
    MetFree l (⟨"java/util/Collections", "max", "(Ljava/util/Collection;)Ljava/lang/Object;"⟩ : MethodName) (head1 (Jvm.Cond.code (⟨"java/util/Collections", "max", "(Ljava/util/Collection;)Ljava/lang/Object;"⟩ : MethodName) jdk_79_method_21_code 4 (some (.object "java/lang/Object")) :: ws) ({ frames := 5, cells := 1, slots := 4, locals := 112 } : Room)) (fun a_ U_ => a_ = #[(.ref lc)] ∧ Z.Warmed39 U_.vm ∧ U_.heap = h0) (fun _ _ _ _ _ => True) (fun _ U_ o_ V_ => ∃ v_ L_, o_ = .returned v_ ∧ QM2 Z w0_ w1_ h0 n0 v_ V_.heap L_ ∧ FrameEnd U_ o_ V_ L_ ({ frames := 5, cells := 1, slots := 4, locals := 112 } : Room).cells ({ frames := 5, cells := 1, slots := 4, locals := 112 } : Room).slots) := by
  refine MetFree.of_bodySF (plainFor_of_name pn_7) hisR ?_
  intro p e s m args below meth c s₁ Bd hml0 hP hK
  obtain ⟨rfl, hZ, hh⟩ := hP
  have hx := Bd.exec
  have hby := Bd.bytes
  have hml : c.maxLocals = 4 := hml0
  have hown : s.vm.findClass "java/util/Collections" = some m.cls := findClass_of_methodNamed Bd.named
  have hnm := (name_of_methodNamed Bd.named Bd.method).1
  have X0 : Stand p l e ({ frames := 5, cells := 1, slots := 4, locals := 112 } : Room) s m #[(.ref lc)] below meth c s₁ [] 0 0 := Stand.of_body Bd
  have e0 : s₁.heap = h0 := by rw [← hh, Bd.state]; rfl
  have N0 := Fr.nil n0
  have pre0 : ∀ t_1, Steps p.tables e below (s₁.setTop (mkF m 0 #[.val (.ref lc), .unset, .unset, .unset] [])) t_1 → Steps p.tables e below (s₁.setTop (entryFrame m #[(.ref lc)] 4)) t_1 := fun t_ k_ => castTop (ef_rmM2 m lc) k_
  obtain ⟨cq1, kq1, q1a, q1b, q1c⟩ := isOf hZ e0 B.1
  obtain ⟨_, _, ⟨T1, L1, k1, n1⟩, -, X1, ⟨Lc1, hQ1, l1, y1, z1⟩, st1⟩ := X0.interfaceBack hx (xi := (⟨"java/util/Collection", "iterator", "()Ljava/util/Iterator;"⟩ : MethodName)) (y := (⟨"java/util/ArrayList", "iterator", "()Ljava/util/Iterator;"⟩ : MethodName)) hown (mvT hZ (hw _ (List.mem_of_getElem? (i := 112) rfl))) (mvT hZ (hw _ (List.mem_of_getElem? (i := 113) rfl))) (mvT hZ (hw _ (List.mem_of_getElem? (i := 114) rfl))) (mvT hZ (hw _ (List.mem_of_getElem? (i := 115) rfl))) (mvT hZ (hw _ (List.mem_of_getElem? (i := 116) rfl))) (mvT hZ (hw _ (List.mem_of_getElem? (i := 117) rfl))) (mvT hZ (hw _ (List.mem_of_getElem? (i := 118) rfl))) (mvT hZ (hw _ (List.mem_of_getElem? (i := 119) rfl))) (by decide) (backOf (W := 0) (rmIt l Z a0 hw [] lc h0 n0 Z0 mo n t vs B) hZ (hw _ (List.mem_of_getElem? (i := 120) rfl)) (hw _ (List.mem_of_getElem? (i := 16) rfl)) (by decide) (by decide)) q1a q1b q1c (g := (mkF m 1 #[.val (.ref lc), .unset, .unset, .unset] [(.ref lc)])) rfl (by rw [hml]; rfl) (Steps.refl _) (argsL := []) (rest := []) (lenOf pd_16 rfl) rfl (by show 2 * 0 + _ ≤ _; exact Nat.le_of_eq rfl) (hb hby d17_1) (fun _ _ => ⟨rfl, e0, (by decide : 0 + 1 ≤ _), (by decide : 0 + 4 ≤ _)⟩)
  dsimp only [Pt.U, Pt.locs, Pt.cells, Pt.slots] at X1 l1 y1 z1 st1 hQ1
  subst l1 y1 z1
  obtain ⟨it, rfl, N1, K1, I1, s1⟩ := hQ1
  have L_1 := B.keep K1 nin0 nin0
  have B0_1 := B0.keep K1 nin0
  have B1_1 := B1.keep K1 nin0
  have gi : n0 ≤ it := Nat.le_trans Z0 s1
  have Z1 : n0 ≤ T1.heap.size := Nat.le_trans Z0 K1.1
  have nli : lc ≠ it := Ne.symm (I1.1.ne L_1.1 (by decide))
  have nti : t ≠ it := Ne.symm (L_1.2.2.2.2.ne I1.1 (hw _ (List.mem_of_getElem? (i := 122) rfl)))
  have nb0 : b0_ ≠ it := B0_1.1.ne I1.1 (by decide)
  have nb1 : b1_ ≠ it := B1_1.1.ne I1.1 (by decide)
  obtain ⟨cq2, kq2, q2a, q2b, q2c⟩ := isOf hZ rfl I1.1
  obtain ⟨_, _, ⟨T2, L2, k2, n2⟩, -, X2, ⟨Lc2, hQ2, l2, y2, z2⟩, st2⟩ := X1.interfaceBack hx (xi := (⟨"java/util/Iterator", "next", "()Ljava/lang/Object;"⟩ : MethodName)) (y := (⟨"java/util/ArrayList$Itr", "next", "()Ljava/lang/Object;"⟩ : MethodName)) hown (mvT hZ (hw _ (List.mem_of_getElem? (i := 136) rfl))) (mvT hZ (hw _ (List.mem_of_getElem? (i := 137) rfl))) (mvT hZ (hw _ (List.mem_of_getElem? (i := 138) rfl))) (mvT hZ (hw _ (List.mem_of_getElem? (i := 139) rfl))) (mvT hZ (hw _ (List.mem_of_getElem? (i := 140) rfl))) (mvT hZ (hw _ (List.mem_of_getElem? (i := 141) rfl))) (mvT hZ (hw _ (List.mem_of_getElem? (i := 142) rfl))) (mvT hZ (hw _ (List.mem_of_getElem? (i := 143) rfl))) (by decide) (backOf (W := 0) (rmNx l Z a0 hw [] it T1.heap n0 Z1 lc 0 mo n t vs I1 L_1 gi 0 rfl (by decide) (by rw [hn]; decide) b0_ p0) hZ (hw _ (List.mem_of_getElem? (i := 144) rfl)) (hw _ (List.mem_of_getElem? (i := 123) rfl)) (by decide) (by decide)) q2a q2b q2c (g := (mkF m 8 #[.val (.ref lc), .val (.ref it), .unset, .unset] [(.ref it)])) rfl (by rw [hml]; rfl) (Steps.refl _) (argsL := []) (rest := []) (lenOf pd_14 rfl) rfl (by show 2 * 0 + _ ≤ _; exact Nat.le_of_eq rfl) (hb hby d17_8) (fun _ _ => ⟨rfl, rfl, (by decide : 1 + 0 ≤ _), (by decide : 4 + 0 ≤ _)⟩)
  dsimp only [Pt.U, Pt.locs, Pt.cells, Pt.slots] at X2 l2 y2 z2 st2 hQ2
  subst l2 y2 z2
  obtain ⟨rfl, N2, K2, I2⟩ := hQ2
  have L_2 := L_1.keep K2 (ninS nli nin0) (ninS nti nin0)
  have B0_2 := B0_1.keep K2 (ninS nb0 nin0)
  have B1_2 := B1_1.keep K2 (ninS nb1 nin0)
  have Z2 : n0 ≤ T2.heap.size := Nat.le_trans Z1 K2.1
  have M2 := Fr.app (Fr.app N0 N1) N2
  obtain ⟨T15, L15, c15, w15, X15, N15, K15, I15, B15, f15, o15, pa15, pb15, st15⟩ := turnU X2 hx hZ hw hby hml hown T2.heap n0 M2 rfl Z2 lc it b0_ b1_  ((0 : Int32) + 1) mo n t vs I2 L_2 gi 1 rfl (by decide) (by rw [hn]; decide) p1 w0_ w1_ B0_2 B1_2 f0_ f1_
  have L_3 := L_2.keep K15 (ninS nli nin0) (ninS nti nin0)
  have B0_3 := B0_2.keep K15 (ninS nb0 nin0)
  have B1_3 := B1_2.keep K15 (ninS nb1 nin0)
  have Z15 : n0 ≤ T15.heap.size := Nat.le_trans Z2 K15.1
  obtain ⟨cq8, kq8, q8a, q8b, q8c⟩ := isOf hZ rfl I15.1
  obtain ⟨_, _, ⟨T8, L8, k8, n8⟩, -, X8, ⟨Lc8, hQ8, l8, y8, z8⟩, st8⟩ := X15.interfaceBack hx (xi := (⟨"java/util/Iterator", "hasNext", "()Z"⟩ : MethodName)) (y := (⟨"java/util/ArrayList$Itr", "hasNext", "()Z"⟩ : MethodName)) hown (mvT hZ (hw _ (List.mem_of_getElem? (i := 154) rfl))) (mvT hZ (hw _ (List.mem_of_getElem? (i := 155) rfl))) (mvT hZ (hw _ (List.mem_of_getElem? (i := 156) rfl))) (mvT hZ (hw _ (List.mem_of_getElem? (i := 157) rfl))) (mvT hZ (hw _ (List.mem_of_getElem? (i := 158) rfl))) (mvT hZ (hw _ (List.mem_of_getElem? (i := 159) rfl))) (mvT hZ (hw _ (List.mem_of_getElem? (i := 160) rfl))) (mvT hZ (hw _ (List.mem_of_getElem? (i := 143) rfl))) (by decide) (backOf (W := 0) (rmH0 l Z a0 hw [] it T15.heap n0 Z15 lc (((0 : Int32) + 1) + 1) mo n t vs I15 L_3 (by rw [hn]; rfl)) hZ (hw _ (List.mem_of_getElem? (i := 161) rfl)) (hw _ (List.mem_of_getElem? (i := 123) rfl)) (by decide) (by decide)) q8a q8b q8c (g := (mkF m 15 #[.val (.ref lc), .val (.ref it), .val (.ref c15), .val (.ref b1_)] [(.ref it)])) rfl (by rw [hml]; rfl) (Steps.refl _) (argsL := []) (rest := []) (lenOf pd_13 rfl) rfl (by show 2 * 0 + _ ≤ _; exact Nat.le_of_eq rfl) (hb hby d17_15) (fun _ _ => ⟨rfl, rfl, (by decide : 1 + 0 ≤ _), (by decide : 4 + 0 ≤ _)⟩)
  dsimp only [Pt.U, Pt.locs, Pt.cells, Pt.slots] at X8 l8 y8 z8 st8 hQ8
  subst l8 y8 z8
  obtain ⟨rfl, N8, e8⟩ := hQ8
  obtain ⟨fs, hr, hrun, hended, hW, hsame⟩ := X8.leave (v := some (.ref c15)) (fun h => by rw [Bd.returns] at h; cases h)
  refine ⟨_, _, pre0 _ ?_, hrun, hended, _, _, rfl, ?_, ⟨_, rfl⟩, hW, hsame.mono (by decide) (by decide)⟩
  · show Steps p.tables e below (s₁.setTop (mkF m 0 #[.val (.ref lc), .unset, .unset, .unset] [])) _
    refine XS.aloadN X0.here hx rfl (hb hby d17_0) rfl rfl ?_
    show Steps p.tables e below (s₁.setTop (mkF m 1 #[.val (.ref lc), .unset, .unset, .unset] [(.ref lc)])) _
    refine st1.trans ?_
    show Steps p.tables e below (T1.setTop (mkF m 6 #[.val (.ref lc), .unset, .unset, .unset] [(.ref it)])) _
    refine XS.astoreN X1.here hx rfl (hb hby d17_6) rfl rfl (l' := #[.val (.ref lc), .val (.ref it), .unset, .unset]) rfl ?_
    show Steps p.tables e below (T1.setTop (mkF m 7 #[.val (.ref lc), .val (.ref it), .unset, .unset] [])) _
    refine XS.aloadN X1.here hx rfl (hb hby d17_7) rfl rfl ?_
    show Steps p.tables e below (T1.setTop (mkF m 8 #[.val (.ref lc), .val (.ref it), .unset, .unset] [(.ref it)])) _
    refine st2.trans ?_
    show Steps p.tables e below (T2.setTop (mkF m 13 #[.val (.ref lc), .val (.ref it), .unset, .unset] [(.ref b0_)])) _
    refine XS.astoreN X2.here hx rfl (hb hby d17_13) rfl rfl (l' := #[.val (.ref lc), .val (.ref it), .val (.ref b0_), .unset]) rfl ?_
    show Steps p.tables e below (T2.setTop (mkF m 14 #[.val (.ref lc), .val (.ref it), .val (.ref b0_), .unset] [])) _
    refine st15 _ ?_
    show Steps p.tables e below (T15.setTop (mkF m 14 #[.val (.ref lc), .val (.ref it), .val (.ref c15), .val (.ref b1_)] [])) _
    refine XS.aloadN X15.here hx rfl (hb hby d17_14) rfl rfl ?_
    show Steps p.tables e below (T15.setTop (mkF m 15 #[.val (.ref lc), .val (.ref it), .val (.ref c15), .val (.ref b1_)] [(.ref it)])) _
    refine st8.trans ?_
    show Steps p.tables e below (T8.setTop (mkF m 20 #[.val (.ref lc), .val (.ref it), .val (.ref c15), .val (.ref b1_)] [(.int (0 : Int32))])) _
    refine XS.ifYes X8.here hx rfl (pc0 := 20) (pc' := 48) rfl (hb hby d17_20) rfl rfl (by decide) (by decide) ?_
    show Steps p.tables e below (T8.setTop (mkF m 48 #[.val (.ref lc), .val (.ref it), .val (.ref c15), .val (.ref b1_)] [])) _
    refine XS.aloadN X8.here hx rfl (hb hby d17_48) rfl rfl ?_
    show Steps p.tables e below (T8.setTop (mkF m 49 #[.val (.ref lc), .val (.ref it), .val (.ref c15), .val (.ref b1_)] [(.ref c15)])) _
    exact X8.areturnOut hx rfl Bd.returns rfl (hb hby d17_49) hr
  · show QM2 Z w0_ w1_ h0 n0 _ T8.heap _
    rw [e8]
    exact ⟨_, _, rfl, Fr.app N15 N8, Nat.le_trans (Nat.le_trans K1.1 K2.1) K15.1, B15, f15, o15, pa15, pb15⟩
theorem ef_rmR2 (m : MethodId) (pt : Addr) : entryFrame m #[(.ref pt)] 1 = mkF m 0 #[.val (.ref pt)] [] := by first | (simp [entryFrame, mkF, argsToLocals, Value.category]; done) | rfl
set_option maxRecDepth 65536 in
set_option maxHeartbeats 40000000 in
theorem rmR2 (l : Launch) (Z : State) (a0 : Array Value) (hw : ∀ d ∈ tables_1, d.before a0 Z = true) (ws : List Jvm.Cond) (pt : Addr) (h0 : Heap) (n0 : Nat) (Z0 : n0 ≤ h0.size) (la lb lc : Addr) (P : PX Z h0 pt la lb lc) (mo n : Int32) (t : Addr) (vs : List Value) (B : LS Z h0 lc mo n t vs) (hn : n.toInt = 2) (b0_ b1_ : Addr) (w0_ w1_ : UInt64) (p0 : vs.getD 0 .null = .ref b0_) (B0 : Bx Z h0 b0_ w0_) (f0_ : Jvm.FP.Core.DFin w0_) (p1 : vs.getD 1 .null = .ref b1_) (B1 : Bx Z h0 b1_ w1_) (f1_ : Jvm.FP.Core.DFin w1_) :
    MetFree l (⟨"com/example/quadwarden/quadwarden/cli/PairedTimings", "ratioMax", "()D"⟩ : MethodName) (head1 (Jvm.Cond.code (⟨"com/example/quadwarden/quadwarden/cli/PairedTimings", "ratioMax", "()D"⟩ : MethodName) prog_5_method_7_code 1 (some .double) :: ws) ({ frames := 6, cells := 1, slots := 4, locals := 130 } : Room)) (fun a_ U_ => a_ = #[(.ref pt)] ∧ Z.Warmed39 U_.vm ∧ U_.heap = h0) (fun _ _ _ _ _ => True) (fun _ U_ o_ V_ => ∃ v_ L_, o_ = .returned v_ ∧ QR2 w0_ w1_ n0 v_ V_.heap L_ ∧ FrameEnd U_ o_ V_ L_ ({ frames := 6, cells := 1, slots := 4, locals := 130 } : Room).cells ({ frames := 6, cells := 1, slots := 4, locals := 130 } : Room).slots) := by
  refine MetFree.of_bodySF (plainFor_of_name pn_5) hisR ?_
  intro p e s m args below meth c s₁ Bd hml0 hP hK
  obtain ⟨rfl, hZ, hh⟩ := hP
  have hx := Bd.exec
  have hby := Bd.bytes
  have hml : c.maxLocals = 1 := hml0
  have hown : s.vm.findClass "com/example/quadwarden/quadwarden/cli/PairedTimings" = some m.cls := findClass_of_methodNamed Bd.named
  have hnm := (name_of_methodNamed Bd.named Bd.method).1
  have X0 : Stand p l e ({ frames := 6, cells := 1, slots := 4, locals := 130 } : Room) s m #[(.ref pt)] below meth c s₁ [] 0 0 := Stand.of_body Bd
  have e0 : s₁.heap = h0 := by rw [← hh, Bd.state]; rfl
  have N0 := Fr.nil n0
  have pre0 : ∀ t_1, Steps p.tables e below (s₁.setTop (mkF m 0 #[.val (.ref pt)] [])) t_1 → Steps p.tables e below (s₁.setTop (entryFrame m #[(.ref pt)] 1)) t_1 := fun t_ k_ => castTop (ef_rmR2 m pt) k_
  obtain ⟨T1, X1, e1, st1⟩ := getF X0 hx hZ hown (host := "") (Or.inl (hw _ (List.mem_of_getElem? (i := 42) rfl))) Via.refl e0 P.2.2.2 (g := (mkF m 1 #[.val (.ref pt)] [(.ref pt)])) rfl rfl (hb hby d16_1)
  obtain ⟨_, _, ⟨T2, L2, k2, n2⟩, -, X2, ⟨Lc2, hQ2, l2, y2, z2⟩, st2⟩ := Jvm.LawKit.callS X1 hx (y := (⟨"java/util/Collections", "max", "(Ljava/util/Collection;)Ljava/lang/Object;"⟩ : MethodName)) hown (mvT hZ (hw _ (List.mem_of_getElem? (i := 108) rfl))) (mvT hZ (hw _ (List.mem_of_getElem? (i := 109) rfl))) (mvT hZ (hw _ (List.mem_of_getElem? (i := 110) rfl))) (mvT hZ (hw _ (List.mem_of_getElem? (i := 111) rfl))) (by decide) (backOf (W := 0) (rmM2 l Z a0 hw [] lc h0 n0 Z0 mo n t vs B hn b0_ b1_ w0_ w1_ p0 B0 f0_ p1 B1 f1_) hZ (hw _ (List.mem_of_getElem? (i := 111) rfl)) (hw _ (List.mem_of_getElem? (i := 110) rfl)) (by decide) (by decide)) (g := (mkF m 4 #[.val (.ref pt)] [(.ref lc)])) rfl (by rw [hml]; rfl) (argsL := [(.ref lc)]) (rest := []) (lenOf pd_17 rfl) rfl (by show 2 * 0 + _ ≤ _; exact Nat.le_of_eq rfl) (hb hby d16_4) (fun _ _ => ⟨rfl, e1, (by decide : 0 + 1 ≤ _), (by decide : 0 + 4 ≤ _)⟩)
  dsimp only [Pt.U, Pt.locs, Pt.cells, Pt.slots] at X2 l2 y2 z2 st2 hQ2
  subst l2 y2 z2
  obtain ⟨b2, w2, rfl, N2, Z2_, B2_, f2, m2⟩ := hQ2
  obtain ⟨T3, X3, e3, st3⟩ := castY X2 hx hZ hown (hw _ (List.mem_of_getElem? (i := 162) rfl)) rfl (Ins.self B2_.1) (g := (mkF m 7 #[.val (.ref pt)] [(.ref b2)])) rfl rfl (hb hby d16_7)
  obtain ⟨cq4, kq4, q4a, q4b, q4c⟩ := isOf hZ e3 B2_.1
  obtain ⟨_, _, ⟨T4, L4, k4, n4⟩, -, X4, ⟨Lc4, hQ4, l4, y4, z4⟩, st4⟩ := X3.virtualBack hx (y := (⟨"java/lang/Double", "doubleValue", "()D"⟩ : MethodName)) (z := (⟨"java/lang/Double", "doubleValue", "()D"⟩ : MethodName)) hown (mvT hZ (hw _ (List.mem_of_getElem? (i := 163) rfl))) (mvT hZ (hw _ (List.mem_of_getElem? (i := 164) rfl))) (notFace_of_selects (args := #[]) (mvT hZ (hw _ (List.mem_of_getElem? (i := 166) rfl)))) (mvT hZ (hw _ (List.mem_of_getElem? (i := 166) rfl))) (mvT hZ (hw _ (List.mem_of_getElem? (i := 165) rfl))) (by decide) (backOf (W := 0) (rmDv l Z a0 hw [] b2 T2.heap n0 (Nat.le_trans Z0 Z2_) w2 B2_) hZ (hw _ (List.mem_of_getElem? (i := 167) rfl)) (hw _ (List.mem_of_getElem? (i := 51) rfl)) (by decide) (by decide)) q4a q4c (g := (mkF m 10 #[.val (.ref pt)] [(.ref b2)])) rfl (by rw [hml]; rfl) (Steps.refl _) (argsL := []) (rest := []) (lenOf pd_18 rfl) rfl (by show 2 * 0 + _ ≤ _; exact Nat.le_of_eq rfl) (hb hby d16_10) (fun _ _ => ⟨rfl, e3, (by decide : 1 + 0 ≤ _), (by decide : 4 + 0 ≤ _)⟩)
  dsimp only [Pt.U, Pt.locs, Pt.cells, Pt.slots] at X4 l4 y4 z4 st4 hQ4
  subst l4 y4 z4
  obtain ⟨rfl, N4, e4⟩ := hQ4
  obtain ⟨fs, hr, hrun, hended, hW, hsame⟩ := X4.leave (v := some (.double w2)) (fun h => by rw [Bd.returns] at h; cases h)
  refine ⟨_, _, pre0 _ ?_, hrun, hended, _, _, rfl, ?_, ⟨_, rfl⟩, hW, hsame.mono (by decide) (by decide)⟩
  · show Steps p.tables e below (s₁.setTop (mkF m 0 #[.val (.ref pt)] [])) _
    refine XS.aloadN X0.here hx rfl (hb hby d16_0) rfl rfl ?_
    show Steps p.tables e below (s₁.setTop (mkF m 1 #[.val (.ref pt)] [(.ref pt)])) _
    refine st1 _ ?_
    show Steps p.tables e below (T1.setTop (mkF m 4 #[.val (.ref pt)] [(.ref lc)])) _
    refine st2 _ ?_
    show Steps p.tables e below (T2.setTop (mkF m 7 #[.val (.ref pt)] [(.ref b2)])) _
    refine st3 _ ?_
    show Steps p.tables e below (T3.setTop (mkF m 10 #[.val (.ref pt)] [(.ref b2)])) _
    refine st4.trans ?_
    show Steps p.tables e below (T4.setTop (mkF m 13 #[.val (.ref pt)] [(.double w2)])) _
    exact Jvm.RoadKit.retD X4 hx Bd.returns (hb hby d16_13) hr
  · show QR2 w0_ w1_ n0 _ T4.heap _
    exact ⟨w2, rfl, Fr.app (Fr.app N0 N2) N4, f2, m2⟩
def QM3 (Z : State) (w0_ w1_ w2_ : UInt64) (h0 : Heap) (n0 : Nat) (v : Option Value) (h : Heap) (L : List Loc) : Prop := ∃ b w, v = some (.ref b) ∧ Fr n0 L ∧ h0.size ≤ h.size ∧ Bx Z h b w ∧ Jvm.FP.Core.DFin w ∧ (w = w0_ ∨ w = w1_ ∨ w = w2_) ∧ Jvm.Own.z w0_ ≤ Jvm.Own.z w ∧ Jvm.Own.z w1_ ≤ Jvm.Own.z w ∧ Jvm.Own.z w2_ ≤ Jvm.Own.z w
def QR3 (w0_ w1_ w2_ : UInt64) (n0 : Nat) (v : Option Value) (h : Heap) (L : List Loc) : Prop := ∃ w, v = some (.double w) ∧ Fr n0 L ∧ Jvm.FP.Core.DFin w ∧ (w = w0_ ∨ w = w1_ ∨ w = w2_) ∧ Jvm.Own.z w0_ ≤ Jvm.Own.z w ∧ Jvm.Own.z w1_ ≤ Jvm.Own.z w ∧ Jvm.Own.z w2_ ≤ Jvm.Own.z w
theorem ef_rmM3 (m : MethodId) (lc : Addr) : entryFrame m #[(.ref lc)] 4 = mkF m 0 #[.val (.ref lc), .unset, .unset, .unset] [] := by first | (simp [entryFrame, mkF, argsToLocals, Value.category]; done) | rfl
set_option maxRecDepth 65536 in
set_option maxHeartbeats 40000000 in
theorem rmM3 (l : Launch) (Z : State) (a0 : Array Value) (hw : ∀ d ∈ tables_1, d.before a0 Z = true) (ws : List Jvm.Cond) (lc : Addr) (h0 : Heap) (n0 : Nat) (Z0 : n0 ≤ h0.size) (mo n : Int32) (t : Addr) (vs : List Value) (B : LS Z h0 lc mo n t vs) (hn : n.toInt = 3) (b0_ b1_ b2_ : Addr) (w0_ w1_ w2_ : UInt64) (p0 : vs.getD 0 .null = .ref b0_) (B0 : Bx Z h0 b0_ w0_) (f0_ : Jvm.FP.Core.DFin w0_) (p1 : vs.getD 1 .null = .ref b1_) (B1 : Bx Z h0 b1_ w1_) (f1_ : Jvm.FP.Core.DFin w1_) (p2 : vs.getD 2 .null = .ref b2_) (B2 : Bx Z h0 b2_ w2_) (f2_ : Jvm.FP.Core.DFin w2_) :
    MetFree l (⟨"java/util/Collections", "max", "(Ljava/util/Collection;)Ljava/lang/Object;"⟩ : MethodName) (head1 (Jvm.Cond.code (⟨"java/util/Collections", "max", "(Ljava/util/Collection;)Ljava/lang/Object;"⟩ : MethodName) jdk_79_method_21_code 4 (some (.object "java/lang/Object")) :: ws) ({ frames := 5, cells := 1, slots := 4, locals := 112 } : Room)) (fun a_ U_ => a_ = #[(.ref lc)] ∧ Z.Warmed39 U_.vm ∧ U_.heap = h0) (fun _ _ _ _ _ => True) (fun _ U_ o_ V_ => ∃ v_ L_, o_ = .returned v_ ∧ QM3 Z w0_ w1_ w2_ h0 n0 v_ V_.heap L_ ∧ FrameEnd U_ o_ V_ L_ ({ frames := 5, cells := 1, slots := 4, locals := 112 } : Room).cells ({ frames := 5, cells := 1, slots := 4, locals := 112 } : Room).slots) := by
  refine MetFree.of_bodySF (plainFor_of_name pn_7) hisR ?_
  intro p e s m args below meth c s₁ Bd hml0 hP hK
  obtain ⟨rfl, hZ, hh⟩ := hP
  have hx := Bd.exec
  have hby := Bd.bytes
  have hml : c.maxLocals = 4 := hml0
  have hown : s.vm.findClass "java/util/Collections" = some m.cls := findClass_of_methodNamed Bd.named
  have hnm := (name_of_methodNamed Bd.named Bd.method).1
  have X0 : Stand p l e ({ frames := 5, cells := 1, slots := 4, locals := 112 } : Room) s m #[(.ref lc)] below meth c s₁ [] 0 0 := Stand.of_body Bd
  have e0 : s₁.heap = h0 := by rw [← hh, Bd.state]; rfl
  have N0 := Fr.nil n0
  have pre0 : ∀ t_1, Steps p.tables e below (s₁.setTop (mkF m 0 #[.val (.ref lc), .unset, .unset, .unset] [])) t_1 → Steps p.tables e below (s₁.setTop (entryFrame m #[(.ref lc)] 4)) t_1 := fun t_ k_ => castTop (ef_rmM3 m lc) k_
  obtain ⟨cq1, kq1, q1a, q1b, q1c⟩ := isOf hZ e0 B.1
  obtain ⟨_, _, ⟨T1, L1, k1, n1⟩, -, X1, ⟨Lc1, hQ1, l1, y1, z1⟩, st1⟩ := X0.interfaceBack hx (xi := (⟨"java/util/Collection", "iterator", "()Ljava/util/Iterator;"⟩ : MethodName)) (y := (⟨"java/util/ArrayList", "iterator", "()Ljava/util/Iterator;"⟩ : MethodName)) hown (mvT hZ (hw _ (List.mem_of_getElem? (i := 112) rfl))) (mvT hZ (hw _ (List.mem_of_getElem? (i := 113) rfl))) (mvT hZ (hw _ (List.mem_of_getElem? (i := 114) rfl))) (mvT hZ (hw _ (List.mem_of_getElem? (i := 115) rfl))) (mvT hZ (hw _ (List.mem_of_getElem? (i := 116) rfl))) (mvT hZ (hw _ (List.mem_of_getElem? (i := 117) rfl))) (mvT hZ (hw _ (List.mem_of_getElem? (i := 118) rfl))) (mvT hZ (hw _ (List.mem_of_getElem? (i := 119) rfl))) (by decide) (backOf (W := 0) (rmIt l Z a0 hw [] lc h0 n0 Z0 mo n t vs B) hZ (hw _ (List.mem_of_getElem? (i := 120) rfl)) (hw _ (List.mem_of_getElem? (i := 16) rfl)) (by decide) (by decide)) q1a q1b q1c (g := (mkF m 1 #[.val (.ref lc), .unset, .unset, .unset] [(.ref lc)])) rfl (by rw [hml]; rfl) (Steps.refl _) (argsL := []) (rest := []) (lenOf pd_16 rfl) rfl (by show 2 * 0 + _ ≤ _; exact Nat.le_of_eq rfl) (hb hby d17_1) (fun _ _ => ⟨rfl, e0, (by decide : 0 + 1 ≤ _), (by decide : 0 + 4 ≤ _)⟩)
  dsimp only [Pt.U, Pt.locs, Pt.cells, Pt.slots] at X1 l1 y1 z1 st1 hQ1
  subst l1 y1 z1
  obtain ⟨it, rfl, N1, K1, I1, s1⟩ := hQ1
  have L_1 := B.keep K1 nin0 nin0
  have B0_1 := B0.keep K1 nin0
  have B1_1 := B1.keep K1 nin0
  have B2_1 := B2.keep K1 nin0
  have gi : n0 ≤ it := Nat.le_trans Z0 s1
  have Z1 : n0 ≤ T1.heap.size := Nat.le_trans Z0 K1.1
  have nli : lc ≠ it := Ne.symm (I1.1.ne L_1.1 (by decide))
  have nti : t ≠ it := Ne.symm (L_1.2.2.2.2.ne I1.1 (hw _ (List.mem_of_getElem? (i := 122) rfl)))
  have nb0 : b0_ ≠ it := B0_1.1.ne I1.1 (by decide)
  have nb1 : b1_ ≠ it := B1_1.1.ne I1.1 (by decide)
  have nb2 : b2_ ≠ it := B2_1.1.ne I1.1 (by decide)
  obtain ⟨cq2, kq2, q2a, q2b, q2c⟩ := isOf hZ rfl I1.1
  obtain ⟨_, _, ⟨T2, L2, k2, n2⟩, -, X2, ⟨Lc2, hQ2, l2, y2, z2⟩, st2⟩ := X1.interfaceBack hx (xi := (⟨"java/util/Iterator", "next", "()Ljava/lang/Object;"⟩ : MethodName)) (y := (⟨"java/util/ArrayList$Itr", "next", "()Ljava/lang/Object;"⟩ : MethodName)) hown (mvT hZ (hw _ (List.mem_of_getElem? (i := 136) rfl))) (mvT hZ (hw _ (List.mem_of_getElem? (i := 137) rfl))) (mvT hZ (hw _ (List.mem_of_getElem? (i := 138) rfl))) (mvT hZ (hw _ (List.mem_of_getElem? (i := 139) rfl))) (mvT hZ (hw _ (List.mem_of_getElem? (i := 140) rfl))) (mvT hZ (hw _ (List.mem_of_getElem? (i := 141) rfl))) (mvT hZ (hw _ (List.mem_of_getElem? (i := 142) rfl))) (mvT hZ (hw _ (List.mem_of_getElem? (i := 143) rfl))) (by decide) (backOf (W := 0) (rmNx l Z a0 hw [] it T1.heap n0 Z1 lc 0 mo n t vs I1 L_1 gi 0 rfl (by decide) (by rw [hn]; decide) b0_ p0) hZ (hw _ (List.mem_of_getElem? (i := 144) rfl)) (hw _ (List.mem_of_getElem? (i := 123) rfl)) (by decide) (by decide)) q2a q2b q2c (g := (mkF m 8 #[.val (.ref lc), .val (.ref it), .unset, .unset] [(.ref it)])) rfl (by rw [hml]; rfl) (Steps.refl _) (argsL := []) (rest := []) (lenOf pd_14 rfl) rfl (by show 2 * 0 + _ ≤ _; exact Nat.le_of_eq rfl) (hb hby d17_8) (fun _ _ => ⟨rfl, rfl, (by decide : 1 + 0 ≤ _), (by decide : 4 + 0 ≤ _)⟩)
  dsimp only [Pt.U, Pt.locs, Pt.cells, Pt.slots] at X2 l2 y2 z2 st2 hQ2
  subst l2 y2 z2
  obtain ⟨rfl, N2, K2, I2⟩ := hQ2
  have L_2 := L_1.keep K2 (ninS nli nin0) (ninS nti nin0)
  have B0_2 := B0_1.keep K2 (ninS nb0 nin0)
  have B1_2 := B1_1.keep K2 (ninS nb1 nin0)
  have B2_2 := B2_1.keep K2 (ninS nb2 nin0)
  have Z2 : n0 ≤ T2.heap.size := Nat.le_trans Z1 K2.1
  have M2 := Fr.app (Fr.app N0 N1) N2
  obtain ⟨T15, L15, c15, w15, X15, N15, K15, I15, B15, f15, o15, pa15, pb15, st15⟩ := turnU X2 hx hZ hw hby hml hown T2.heap n0 M2 rfl Z2 lc it b0_ b1_  ((0 : Int32) + 1) mo n t vs I2 L_2 gi 1 rfl (by decide) (by rw [hn]; decide) p1 w0_ w1_ B0_2 B1_2 f0_ f1_
  have L_3 := L_2.keep K15 (ninS nli nin0) (ninS nti nin0)
  have B0_3 := B0_2.keep K15 (ninS nb0 nin0)
  have B1_3 := B1_2.keep K15 (ninS nb1 nin0)
  have B2_3 := B2_2.keep K15 (ninS nb2 nin0)
  have Z15 : n0 ≤ T15.heap.size := Nat.le_trans Z2 K15.1
  obtain ⟨T25, L25, c25, w25, X25, N25, K25, I25, B25, f25, o25, pa25, pb25, st25⟩ := turnV X15 hx hZ hw hby hml hown T15.heap n0 N15 rfl Z15 lc it c15 b2_ b1_ (((0 : Int32) + 1) + 1) mo n t vs I15 L_3 gi 2 rfl (by decide) (by rw [hn]; decide) p2 w15 w2_ B15 B2_3 f15 f2_
  have L_4 := L_3.keep K25 (ninS nli nin0) (ninS nti nin0)
  have B0_4 := B0_3.keep K25 (ninS nb0 nin0)
  have B1_4 := B1_3.keep K25 (ninS nb1 nin0)
  have B2_4 := B2_3.keep K25 (ninS nb2 nin0)
  have Z25 : n0 ≤ T25.heap.size := Nat.le_trans Z15 K25.1
  obtain ⟨cq8, kq8, q8a, q8b, q8c⟩ := isOf hZ rfl I25.1
  obtain ⟨_, _, ⟨T8, L8, k8, n8⟩, -, X8, ⟨Lc8, hQ8, l8, y8, z8⟩, st8⟩ := X25.interfaceBack hx (xi := (⟨"java/util/Iterator", "hasNext", "()Z"⟩ : MethodName)) (y := (⟨"java/util/ArrayList$Itr", "hasNext", "()Z"⟩ : MethodName)) hown (mvT hZ (hw _ (List.mem_of_getElem? (i := 154) rfl))) (mvT hZ (hw _ (List.mem_of_getElem? (i := 155) rfl))) (mvT hZ (hw _ (List.mem_of_getElem? (i := 156) rfl))) (mvT hZ (hw _ (List.mem_of_getElem? (i := 157) rfl))) (mvT hZ (hw _ (List.mem_of_getElem? (i := 158) rfl))) (mvT hZ (hw _ (List.mem_of_getElem? (i := 159) rfl))) (mvT hZ (hw _ (List.mem_of_getElem? (i := 160) rfl))) (mvT hZ (hw _ (List.mem_of_getElem? (i := 143) rfl))) (by decide) (backOf (W := 0) (rmH0 l Z a0 hw [] it T25.heap n0 Z25 lc ((((0 : Int32) + 1) + 1) + 1) mo n t vs I25 L_4 (by rw [hn]; rfl)) hZ (hw _ (List.mem_of_getElem? (i := 161) rfl)) (hw _ (List.mem_of_getElem? (i := 123) rfl)) (by decide) (by decide)) q8a q8b q8c (g := (mkF m 15 #[.val (.ref lc), .val (.ref it), .val (.ref c25), .val (.ref b2_)] [(.ref it)])) rfl (by rw [hml]; rfl) (Steps.refl _) (argsL := []) (rest := []) (lenOf pd_13 rfl) rfl (by show 2 * 0 + _ ≤ _; exact Nat.le_of_eq rfl) (hb hby d17_15) (fun _ _ => ⟨rfl, rfl, (by decide : 1 + 0 ≤ _), (by decide : 4 + 0 ≤ _)⟩)
  dsimp only [Pt.U, Pt.locs, Pt.cells, Pt.slots] at X8 l8 y8 z8 st8 hQ8
  subst l8 y8 z8
  obtain ⟨rfl, N8, e8⟩ := hQ8
  obtain ⟨fs, hr, hrun, hended, hW, hsame⟩ := X8.leave (v := some (.ref c25)) (fun h => by rw [Bd.returns] at h; cases h)
  refine ⟨_, _, pre0 _ ?_, hrun, hended, _, _, rfl, ?_, ⟨_, rfl⟩, hW, hsame.mono (by decide) (by decide)⟩
  · show Steps p.tables e below (s₁.setTop (mkF m 0 #[.val (.ref lc), .unset, .unset, .unset] [])) _
    refine XS.aloadN X0.here hx rfl (hb hby d17_0) rfl rfl ?_
    show Steps p.tables e below (s₁.setTop (mkF m 1 #[.val (.ref lc), .unset, .unset, .unset] [(.ref lc)])) _
    refine st1.trans ?_
    show Steps p.tables e below (T1.setTop (mkF m 6 #[.val (.ref lc), .unset, .unset, .unset] [(.ref it)])) _
    refine XS.astoreN X1.here hx rfl (hb hby d17_6) rfl rfl (l' := #[.val (.ref lc), .val (.ref it), .unset, .unset]) rfl ?_
    show Steps p.tables e below (T1.setTop (mkF m 7 #[.val (.ref lc), .val (.ref it), .unset, .unset] [])) _
    refine XS.aloadN X1.here hx rfl (hb hby d17_7) rfl rfl ?_
    show Steps p.tables e below (T1.setTop (mkF m 8 #[.val (.ref lc), .val (.ref it), .unset, .unset] [(.ref it)])) _
    refine st2.trans ?_
    show Steps p.tables e below (T2.setTop (mkF m 13 #[.val (.ref lc), .val (.ref it), .unset, .unset] [(.ref b0_)])) _
    refine XS.astoreN X2.here hx rfl (hb hby d17_13) rfl rfl (l' := #[.val (.ref lc), .val (.ref it), .val (.ref b0_), .unset]) rfl ?_
    show Steps p.tables e below (T2.setTop (mkF m 14 #[.val (.ref lc), .val (.ref it), .val (.ref b0_), .unset] [])) _
    refine st15 _ ?_
    show Steps p.tables e below (T15.setTop (mkF m 14 #[.val (.ref lc), .val (.ref it), .val (.ref c15), .val (.ref b1_)] [])) _
    refine st25 _ ?_
    show Steps p.tables e below (T25.setTop (mkF m 14 #[.val (.ref lc), .val (.ref it), .val (.ref c25), .val (.ref b2_)] [])) _
    refine XS.aloadN X25.here hx rfl (hb hby d17_14) rfl rfl ?_
    show Steps p.tables e below (T25.setTop (mkF m 15 #[.val (.ref lc), .val (.ref it), .val (.ref c25), .val (.ref b2_)] [(.ref it)])) _
    refine st8.trans ?_
    show Steps p.tables e below (T8.setTop (mkF m 20 #[.val (.ref lc), .val (.ref it), .val (.ref c25), .val (.ref b2_)] [(.int (0 : Int32))])) _
    refine XS.ifYes X8.here hx rfl (pc0 := 20) (pc' := 48) rfl (hb hby d17_20) rfl rfl (by decide) (by decide) ?_
    show Steps p.tables e below (T8.setTop (mkF m 48 #[.val (.ref lc), .val (.ref it), .val (.ref c25), .val (.ref b2_)] [])) _
    refine XS.aloadN X8.here hx rfl (hb hby d17_48) rfl rfl ?_
    show Steps p.tables e below (T8.setTop (mkF m 49 #[.val (.ref lc), .val (.ref it), .val (.ref c25), .val (.ref b2_)] [(.ref c25)])) _
    exact X8.areturnOut hx rfl Bd.returns rfl (hb hby d17_49) hr
  · show QM3 Z w0_ w1_ w2_ h0 n0 _ T8.heap _
    rw [e8]
    exact ⟨_, _, rfl, Fr.app N25 N8, Nat.le_trans (Nat.le_trans (Nat.le_trans K1.1 K2.1) K15.1) K25.1, B25, f25, (o25.elim (fun q => q ▸ o15.elim Or.inl (fun r => Or.inr (Or.inl r))) (fun q => Or.inr (Or.inr q))), by omega, by omega, pb25⟩
theorem ef_rmR3 (m : MethodId) (pt : Addr) : entryFrame m #[(.ref pt)] 1 = mkF m 0 #[.val (.ref pt)] [] := by first | (simp [entryFrame, mkF, argsToLocals, Value.category]; done) | rfl
set_option maxRecDepth 65536 in
set_option maxHeartbeats 40000000 in
theorem rmR3 (l : Launch) (Z : State) (a0 : Array Value) (hw : ∀ d ∈ tables_1, d.before a0 Z = true) (ws : List Jvm.Cond) (pt : Addr) (h0 : Heap) (n0 : Nat) (Z0 : n0 ≤ h0.size) (la lb lc : Addr) (P : PX Z h0 pt la lb lc) (mo n : Int32) (t : Addr) (vs : List Value) (B : LS Z h0 lc mo n t vs) (hn : n.toInt = 3) (b0_ b1_ b2_ : Addr) (w0_ w1_ w2_ : UInt64) (p0 : vs.getD 0 .null = .ref b0_) (B0 : Bx Z h0 b0_ w0_) (f0_ : Jvm.FP.Core.DFin w0_) (p1 : vs.getD 1 .null = .ref b1_) (B1 : Bx Z h0 b1_ w1_) (f1_ : Jvm.FP.Core.DFin w1_) (p2 : vs.getD 2 .null = .ref b2_) (B2 : Bx Z h0 b2_ w2_) (f2_ : Jvm.FP.Core.DFin w2_) :
    MetFree l (⟨"com/example/quadwarden/quadwarden/cli/PairedTimings", "ratioMax", "()D"⟩ : MethodName) (head1 (Jvm.Cond.code (⟨"com/example/quadwarden/quadwarden/cli/PairedTimings", "ratioMax", "()D"⟩ : MethodName) prog_5_method_7_code 1 (some .double) :: ws) ({ frames := 6, cells := 1, slots := 4, locals := 130 } : Room)) (fun a_ U_ => a_ = #[(.ref pt)] ∧ Z.Warmed39 U_.vm ∧ U_.heap = h0) (fun _ _ _ _ _ => True) (fun _ U_ o_ V_ => ∃ v_ L_, o_ = .returned v_ ∧ QR3 w0_ w1_ w2_ n0 v_ V_.heap L_ ∧ FrameEnd U_ o_ V_ L_ ({ frames := 6, cells := 1, slots := 4, locals := 130 } : Room).cells ({ frames := 6, cells := 1, slots := 4, locals := 130 } : Room).slots) := by
  refine MetFree.of_bodySF (plainFor_of_name pn_5) hisR ?_
  intro p e s m args below meth c s₁ Bd hml0 hP hK
  obtain ⟨rfl, hZ, hh⟩ := hP
  have hx := Bd.exec
  have hby := Bd.bytes
  have hml : c.maxLocals = 1 := hml0
  have hown : s.vm.findClass "com/example/quadwarden/quadwarden/cli/PairedTimings" = some m.cls := findClass_of_methodNamed Bd.named
  have hnm := (name_of_methodNamed Bd.named Bd.method).1
  have X0 : Stand p l e ({ frames := 6, cells := 1, slots := 4, locals := 130 } : Room) s m #[(.ref pt)] below meth c s₁ [] 0 0 := Stand.of_body Bd
  have e0 : s₁.heap = h0 := by rw [← hh, Bd.state]; rfl
  have N0 := Fr.nil n0
  have pre0 : ∀ t_1, Steps p.tables e below (s₁.setTop (mkF m 0 #[.val (.ref pt)] [])) t_1 → Steps p.tables e below (s₁.setTop (entryFrame m #[(.ref pt)] 1)) t_1 := fun t_ k_ => castTop (ef_rmR3 m pt) k_
  obtain ⟨T1, X1, e1, st1⟩ := getF X0 hx hZ hown (host := "") (Or.inl (hw _ (List.mem_of_getElem? (i := 42) rfl))) Via.refl e0 P.2.2.2 (g := (mkF m 1 #[.val (.ref pt)] [(.ref pt)])) rfl rfl (hb hby d16_1)
  obtain ⟨_, _, ⟨T2, L2, k2, n2⟩, -, X2, ⟨Lc2, hQ2, l2, y2, z2⟩, st2⟩ := Jvm.LawKit.callS X1 hx (y := (⟨"java/util/Collections", "max", "(Ljava/util/Collection;)Ljava/lang/Object;"⟩ : MethodName)) hown (mvT hZ (hw _ (List.mem_of_getElem? (i := 108) rfl))) (mvT hZ (hw _ (List.mem_of_getElem? (i := 109) rfl))) (mvT hZ (hw _ (List.mem_of_getElem? (i := 110) rfl))) (mvT hZ (hw _ (List.mem_of_getElem? (i := 111) rfl))) (by decide) (backOf (W := 0) (rmM3 l Z a0 hw [] lc h0 n0 Z0 mo n t vs B hn b0_ b1_ b2_ w0_ w1_ w2_ p0 B0 f0_ p1 B1 f1_ p2 B2 f2_) hZ (hw _ (List.mem_of_getElem? (i := 111) rfl)) (hw _ (List.mem_of_getElem? (i := 110) rfl)) (by decide) (by decide)) (g := (mkF m 4 #[.val (.ref pt)] [(.ref lc)])) rfl (by rw [hml]; rfl) (argsL := [(.ref lc)]) (rest := []) (lenOf pd_17 rfl) rfl (by show 2 * 0 + _ ≤ _; exact Nat.le_of_eq rfl) (hb hby d16_4) (fun _ _ => ⟨rfl, e1, (by decide : 0 + 1 ≤ _), (by decide : 0 + 4 ≤ _)⟩)
  dsimp only [Pt.U, Pt.locs, Pt.cells, Pt.slots] at X2 l2 y2 z2 st2 hQ2
  subst l2 y2 z2
  obtain ⟨b2, w2, rfl, N2, Z2_, B2_, f2, m2⟩ := hQ2
  obtain ⟨T3, X3, e3, st3⟩ := castY X2 hx hZ hown (hw _ (List.mem_of_getElem? (i := 162) rfl)) rfl (Ins.self B2_.1) (g := (mkF m 7 #[.val (.ref pt)] [(.ref b2)])) rfl rfl (hb hby d16_7)
  obtain ⟨cq4, kq4, q4a, q4b, q4c⟩ := isOf hZ e3 B2_.1
  obtain ⟨_, _, ⟨T4, L4, k4, n4⟩, -, X4, ⟨Lc4, hQ4, l4, y4, z4⟩, st4⟩ := X3.virtualBack hx (y := (⟨"java/lang/Double", "doubleValue", "()D"⟩ : MethodName)) (z := (⟨"java/lang/Double", "doubleValue", "()D"⟩ : MethodName)) hown (mvT hZ (hw _ (List.mem_of_getElem? (i := 163) rfl))) (mvT hZ (hw _ (List.mem_of_getElem? (i := 164) rfl))) (notFace_of_selects (args := #[]) (mvT hZ (hw _ (List.mem_of_getElem? (i := 166) rfl)))) (mvT hZ (hw _ (List.mem_of_getElem? (i := 166) rfl))) (mvT hZ (hw _ (List.mem_of_getElem? (i := 165) rfl))) (by decide) (backOf (W := 0) (rmDv l Z a0 hw [] b2 T2.heap n0 (Nat.le_trans Z0 Z2_) w2 B2_) hZ (hw _ (List.mem_of_getElem? (i := 167) rfl)) (hw _ (List.mem_of_getElem? (i := 51) rfl)) (by decide) (by decide)) q4a q4c (g := (mkF m 10 #[.val (.ref pt)] [(.ref b2)])) rfl (by rw [hml]; rfl) (Steps.refl _) (argsL := []) (rest := []) (lenOf pd_18 rfl) rfl (by show 2 * 0 + _ ≤ _; exact Nat.le_of_eq rfl) (hb hby d16_10) (fun _ _ => ⟨rfl, e3, (by decide : 1 + 0 ≤ _), (by decide : 4 + 0 ≤ _)⟩)
  dsimp only [Pt.U, Pt.locs, Pt.cells, Pt.slots] at X4 l4 y4 z4 st4 hQ4
  subst l4 y4 z4
  obtain ⟨rfl, N4, e4⟩ := hQ4
  obtain ⟨fs, hr, hrun, hended, hW, hsame⟩ := X4.leave (v := some (.double w2)) (fun h => by rw [Bd.returns] at h; cases h)
  refine ⟨_, _, pre0 _ ?_, hrun, hended, _, _, rfl, ?_, ⟨_, rfl⟩, hW, hsame.mono (by decide) (by decide)⟩
  · show Steps p.tables e below (s₁.setTop (mkF m 0 #[.val (.ref pt)] [])) _
    refine XS.aloadN X0.here hx rfl (hb hby d16_0) rfl rfl ?_
    show Steps p.tables e below (s₁.setTop (mkF m 1 #[.val (.ref pt)] [(.ref pt)])) _
    refine st1 _ ?_
    show Steps p.tables e below (T1.setTop (mkF m 4 #[.val (.ref pt)] [(.ref lc)])) _
    refine st2 _ ?_
    show Steps p.tables e below (T2.setTop (mkF m 7 #[.val (.ref pt)] [(.ref b2)])) _
    refine st3 _ ?_
    show Steps p.tables e below (T3.setTop (mkF m 10 #[.val (.ref pt)] [(.ref b2)])) _
    refine st4.trans ?_
    show Steps p.tables e below (T4.setTop (mkF m 13 #[.val (.ref pt)] [(.double w2)])) _
    exact Jvm.RoadKit.retD X4 hx Bd.returns (hb hby d16_13) hr
  · show QR3 w0_ w1_ w2_ n0 _ T4.heap _
    exact ⟨w2, rfl, Fr.app (Fr.app N0 N2) N4, f2, m2⟩
def QU (h0 : Heap) (n0 : Nat) (v : Option Value) (h : Heap) (L : List Loc) : Prop := ∃ u : Int64, v = some (.long u) ∧ Fr n0 L ∧ h = h0 ∧ 1 ≤ u.toInt
theorem ef_rmPos (m : MethodId) (sv : Int64) : entryFrame m #[(.long sv)] 4 = mkF m 0 #[.val (.long sv), .second, .unset, .unset] [] := by first | (simp [entryFrame, mkF, argsToLocals, Value.category]; done) | rfl
set_option maxRecDepth 65536 in
set_option maxHeartbeats 40000000 in
theorem rmPos (l : Launch) (Z : State) (a0 : Array Value) (hw : ∀ d ∈ tables_1, d.before a0 Z = true) (ws : List Jvm.Cond) (sv : Int64) (h0 : Heap) (n0 : Nat) (Z0 : n0 ≤ h0.size)  :
    MetFree l (⟨"com/example/quadwarden/quadwarden/cli/PairedTimingsRatioMaxPinLaw", "positive", "(J)J"⟩ : MethodName) (head1 (Jvm.Cond.code (⟨"com/example/quadwarden/quadwarden/cli/PairedTimingsRatioMaxPinLaw", "positive", "(J)J"⟩ : MethodName) method_2_code 4 (some .long) :: ws) ({ frames := 0, cells := 0, slots := 0, locals := 0 } : Room)) (fun a_ U_ => a_ = #[(.long sv)] ∧ Z.Warmed39 U_.vm ∧ U_.heap = h0) (fun _ _ _ _ _ => True) (fun _ U_ o_ V_ => ∃ v_ L_, o_ = .returned v_ ∧ QU h0 n0 v_ V_.heap L_ ∧ FrameEnd U_ o_ V_ L_ ({ frames := 0, cells := 0, slots := 0, locals := 0 } : Room).cells ({ frames := 0, cells := 0, slots := 0, locals := 0 } : Room).slots) := by
  refine MetFree.of_bodySF (plainFor_of_name pn_8) hisR ?_
  intro p e s m args below meth c s₁ Bd hml0 hP hK
  obtain ⟨rfl, hZ, hh⟩ := hP
  have hx := Bd.exec
  have hby := Bd.bytes
  have hml : c.maxLocals = 4 := hml0
  have hown : s.vm.findClass "com/example/quadwarden/quadwarden/cli/PairedTimingsRatioMaxPinLaw" = some m.cls := findClass_of_methodNamed Bd.named
  have hnm := (name_of_methodNamed Bd.named Bd.method).1
  have X0 : Stand p l e ({ frames := 0, cells := 0, slots := 0, locals := 0 } : Room) s m #[(.long sv)] below meth c s₁ [] 0 0 := Stand.of_body Bd
  have e0 : s₁.heap = h0 := by rw [← hh, Bd.state]; rfl
  have N0 := Fr.nil n0
  have pre0 : ∀ t_1, Steps p.tables e below (s₁.setTop (mkF m 0 #[.val (.long sv), .second, .unset, .unset] [])) t_1 → Steps p.tables e below (s₁.setTop (entryFrame m #[(.long sv)] 4)) t_1 := fun t_ k_ => castTop (ef_rmPos m sv) k_
  have ha := own_and sv
  rcases Decidable.em ((sv &&& (9223372036854775807 : Int64)).toInt = (0 : Int64).toInt) with q | q
  · obtain ⟨fs, hr, hrun, hended, hW, hsame⟩ := X0.leave (v := some (.long (1 : Int64))) (fun h => by rw [Bd.returns] at h; cases h)
    refine ⟨_, _, pre0 _ ?_, hrun, hended, _, _, rfl, ?_, ⟨_, rfl⟩, hW, hsame.mono (by decide) (by decide)⟩
    · show Steps p.tables e below (s₁.setTop (mkF m 0 #[.val (.long sv), .second, .unset, .unset] [])) _
      refine XS.lloadN X0.here hx rfl (hb hby d1_0) rfl ?_
      show Steps p.tables e below (s₁.setTop (mkF m 1 #[.val (.long sv), .second, .unset, .unset] [(.long sv)])) _
      refine X0.ldc2Long hx hown (mvT hZ (hw _ (List.mem_of_getElem? (i := 4) rfl))) (g := (mkF m 1 #[.val (.long sv), .second, .unset, .unset] [(.long sv)])) rfl (hb hby d1_1) _ ?_
      show Steps p.tables e below (s₁.setTop (mkF m 4 #[.val (.long sv), .second, .unset, .unset] [(.long (9223372036854775807 : Int64)), (.long sv)])) _
      refine XS.land X0.here hx rfl (hb hby d1_4) rfl ?_
      show Steps p.tables e below (s₁.setTop (mkF m 5 #[.val (.long sv), .second, .unset, .unset] [(.long (sv &&& (9223372036854775807 : Int64)))])) _
      refine XS.lstoreN X0.here hx rfl (hb hby d1_5) rfl (l' := #[.val (.long sv), .second, .val (.long (sv &&& (9223372036854775807 : Int64))), .second]) rfl ?_
      show Steps p.tables e below (s₁.setTop (mkF m 6 #[.val (.long sv), .second, .val (.long (sv &&& (9223372036854775807 : Int64))), .second] [])) _
      refine XS.lloadN X0.here hx rfl (hb hby d1_6) rfl ?_
      show Steps p.tables e below (s₁.setTop (mkF m 7 #[.val (.long sv), .second, .val (.long (sv &&& (9223372036854775807 : Int64))), .second] [(.long (sv &&& (9223372036854775807 : Int64)))])) _
      refine XS.lconst X0.here hx rfl (hb hby d1_7) ?_
      show Steps p.tables e below (s₁.setTop (mkF m 8 #[.val (.long sv), .second, .val (.long (sv &&& (9223372036854775807 : Int64))), .second] [(.long (0 : Int64)), (.long (sv &&& (9223372036854775807 : Int64)))])) _
      refine XS.lcmp X0.here hx rfl (hb hby d1_8) rfl ?_
      show Steps p.tables e below (s₁.setTop (mkF m 9 #[.val (.long sv), .second, .val (.long (sv &&& (9223372036854775807 : Int64))), .second] [(.int (lcmpW (sv &&& (9223372036854775807 : Int64)) (0 : Int64)))])) _
      refine XS.ifNo X0.here hx rfl (hb hby d1_9) rfl ((Jvm.Own.holdsL _ _ _).trans (Jvm.Own.dF (fun r => r q))) ?_
      show Steps p.tables e below (s₁.setTop (mkF m 12 #[.val (.long sv), .second, .val (.long (sv &&& (9223372036854775807 : Int64))), .second] [])) _
      refine XS.lconst X0.here hx rfl (hb hby d1_12) ?_
      show Steps p.tables e below (s₁.setTop (mkF m 13 #[.val (.long sv), .second, .val (.long (sv &&& (9223372036854775807 : Int64))), .second] [(.long (1 : Int64))])) _
      exact X0.lreturnOut hx Bd.returns (hb hby d1_13) hr
    · show QU h0 n0 _ s₁.heap _
      rw [e0]
      exact ⟨_, rfl, N0, rfl, by decide⟩
  · obtain ⟨fs, hr, hrun, hended, hW, hsame⟩ := X0.leave (v := some (.long (sv &&& (9223372036854775807 : Int64)))) (fun h => by rw [Bd.returns] at h; cases h)
    refine ⟨_, _, pre0 _ ?_, hrun, hended, _, _, rfl, ?_, ⟨_, rfl⟩, hW, hsame.mono (by decide) (by decide)⟩
    · show Steps p.tables e below (s₁.setTop (mkF m 0 #[.val (.long sv), .second, .unset, .unset] [])) _
      refine XS.lloadN X0.here hx rfl (hb hby d1_0) rfl ?_
      show Steps p.tables e below (s₁.setTop (mkF m 1 #[.val (.long sv), .second, .unset, .unset] [(.long sv)])) _
      refine X0.ldc2Long hx hown (mvT hZ (hw _ (List.mem_of_getElem? (i := 4) rfl))) (g := (mkF m 1 #[.val (.long sv), .second, .unset, .unset] [(.long sv)])) rfl (hb hby d1_1) _ ?_
      show Steps p.tables e below (s₁.setTop (mkF m 4 #[.val (.long sv), .second, .unset, .unset] [(.long (9223372036854775807 : Int64)), (.long sv)])) _
      refine XS.land X0.here hx rfl (hb hby d1_4) rfl ?_
      show Steps p.tables e below (s₁.setTop (mkF m 5 #[.val (.long sv), .second, .unset, .unset] [(.long (sv &&& (9223372036854775807 : Int64)))])) _
      refine XS.lstoreN X0.here hx rfl (hb hby d1_5) rfl (l' := #[.val (.long sv), .second, .val (.long (sv &&& (9223372036854775807 : Int64))), .second]) rfl ?_
      show Steps p.tables e below (s₁.setTop (mkF m 6 #[.val (.long sv), .second, .val (.long (sv &&& (9223372036854775807 : Int64))), .second] [])) _
      refine XS.lloadN X0.here hx rfl (hb hby d1_6) rfl ?_
      show Steps p.tables e below (s₁.setTop (mkF m 7 #[.val (.long sv), .second, .val (.long (sv &&& (9223372036854775807 : Int64))), .second] [(.long (sv &&& (9223372036854775807 : Int64)))])) _
      refine XS.lconst X0.here hx rfl (hb hby d1_7) ?_
      show Steps p.tables e below (s₁.setTop (mkF m 8 #[.val (.long sv), .second, .val (.long (sv &&& (9223372036854775807 : Int64))), .second] [(.long (0 : Int64)), (.long (sv &&& (9223372036854775807 : Int64)))])) _
      refine XS.lcmp X0.here hx rfl (hb hby d1_8) rfl ?_
      show Steps p.tables e below (s₁.setTop (mkF m 9 #[.val (.long sv), .second, .val (.long (sv &&& (9223372036854775807 : Int64))), .second] [(.int (lcmpW (sv &&& (9223372036854775807 : Int64)) (0 : Int64)))])) _
      refine XS.ifYes X0.here hx rfl (pc0 := 9) (pc' := 14) rfl (hb hby d1_9) rfl ((Jvm.Own.holdsL _ _ _).trans (Jvm.Own.dT q)) (by decide) (by decide) ?_
      show Steps p.tables e below (s₁.setTop (mkF m 14 #[.val (.long sv), .second, .val (.long (sv &&& (9223372036854775807 : Int64))), .second] [])) _
      refine XS.lloadN X0.here hx rfl (hb hby d1_14) rfl ?_
      show Steps p.tables e below (s₁.setTop (mkF m 15 #[.val (.long sv), .second, .val (.long (sv &&& (9223372036854775807 : Int64))), .second] [(.long (sv &&& (9223372036854775807 : Int64)))])) _
      exact X0.lreturnOut hx Bd.returns (hb hby d1_15) hr
    · show QU h0 n0 _ s₁.heap _
      rw [e0]
      exact ⟨_, rfl, N0, rfl, by rw [show (0 : Int64).toInt = 0 from rfl] at q; omega⟩

theorem own_len0 {args : Array Value} {s : State} {t : Term} {x : Addr} {cl : Cell} (hv : (Cond.eq (.length t) (.int 0)).value args s none s [] = some true) (ht : t.eval args s none [] s = some (.ref x)) (ha : s.arrayAt? x = some cl) : cl.slots.size.toInt32 = 0 := by
  by_cases hl : cl.slots.size < 2 ^ 31
  · have e1 := len_f (o := none) (idx := []) ht ha hl
    have e2 : (Term.int 0).eval args s none [] s = some (.int 0) := Term.int_eval 0
    simp only [Cond.value, e1, e2] at hv
    simpa using hv
  · exfalso
    simp [Cond.value, Term.eval, ht, ha, hl] at hv
theorem P1.box {n0 : Nat} {pt la lb lc ta tb tc x : Addr} {j : Int32} {a0 : Array Value} {k : Nat} (P : P1 Z h n0 pt la lb lc ta tb tc j vs) (B : Bx Z h x w) (wi : (Cond.instantiable "java/lang/Double" k).before a0 Z = true) : x ∉ [la, lb, lc, ta, tb, tc] := by
  obtain ⟨-, ⟨va, A⟩, ⟨vb, D⟩, F, -⟩ := P
  exact ninS (B.1.ne A.1 (by decide)) (ninS (B.1.ne D.1 (by decide)) (ninS (B.1.ne F.1 (by decide)) (ninS (A.2.2.2.2.ne B.1 wi) (ninS (D.2.2.2.2.ne B.1 wi) (ninS (F.2.2.2.2.ne B.1 wi) nin0)))))


def PK (r m m' : UInt64) : Prop := (Jvm.Own.z m < Jvm.Own.z r ∧ m' = r) ∨ (¬ Jvm.Own.z m < Jvm.Own.z r ∧ m' = m)
theorem PK.ex (r m : UInt64) : ∃ m', PK r m m' := by
  rcases Decidable.em (Jvm.Own.z m < Jvm.Own.z r) with q | q
  · exact ⟨r, Or.inl ⟨q, rfl⟩⟩
  · exact ⟨m, Or.inr ⟨q, rfl⟩⟩
theorem PK.spec {r m m' : UInt64} (P : PK r m m') (fr : Jvm.FP.Core.DFin r) (fm : Jvm.FP.Core.DFin m) : Jvm.FP.Core.DFin m' ∧ Jvm.Own.z r ≤ Jvm.Own.z m' ∧ Jvm.Own.z m ≤ Jvm.Own.z m' ∧ (Jvm.Own.z m' = Jvm.Own.z r ∨ Jvm.Own.z m' = Jvm.Own.z m) := by
  rcases P with ⟨q, rfl⟩ | ⟨q, rfl⟩
  · exact ⟨fr, by omega, by omega, Or.inl rfl⟩
  · exact ⟨fm, by omega, by omega, Or.inr rfl⟩

set_option maxRecDepth 65536 in
set_option maxHeartbeats 40000000 in
theorem pick_0 {p : Program} {l : Launch} {e : Env} {R : Room} {s : State} {m : MethodId} {args : Array Value} {below : List Frame} {meth : Method} {c : Code} {T : State} {locs : List Loc} {cells slots : Nat} (va sa vb sb vc sc u1 u2 u3 : Int64) (h2_ h3_ : Int32) (pt : Addr) (mm rr r1_ r2_ r3_ m2_ : UInt64)
    (X : Stand p l e R s m args below meth c T locs cells slots) (hx : p.tables.exec = Jvm.exec) (hby : c.code = code) (fr : Jvm.FP.Core.DFin r2_) (fm : Jvm.FP.Core.DFin mm) (P : PK r2_ mm m2_) :
    ∀ target, Steps p.tables e below (T.setTop (mkF m 143 #[.val (.long va), .second, .val (.long sa), .second, .val (.long vb), .second, .val (.long sb), .second, .val (.long vc), .second, .val (.long sc), .second, .val (.int h2_), .val (.long u1), .second, .val (.long u2), .second, .val (.long u3), .second, .val (.double r1_), .second, .val (.double r2_), .second, .val (.double r3_), .second, .val (.ref pt), .val (.double m2_), .second, .unset, .unset] [])) target → Steps p.tables e below (T.setTop (mkF m 131 #[.val (.long va), .second, .val (.long sa), .second, .val (.long vb), .second, .val (.long sb), .second, .val (.long vc), .second, .val (.long sc), .second, .val (.int h2_), .val (.long u1), .second, .val (.long u2), .second, .val (.long u3), .second, .val (.double r1_), .second, .val (.double r2_), .second, .val (.double r3_), .second, .val (.ref pt), .val (.double mm), .second, .unset, .unset] [])) target := by
  intro target kt
  rcases P with ⟨q, e_⟩ | ⟨q, e_⟩ <;> rw [e_] at kt
  · show Steps p.tables e below (T.setTop (mkF m 131 #[.val (.long va), .second, .val (.long sa), .second, .val (.long vb), .second, .val (.long sb), .second, .val (.long vc), .second, .val (.long sc), .second, .val (.int h2_), .val (.long u1), .second, .val (.long u2), .second, .val (.long u3), .second, .val (.double r1_), .second, .val (.double r2_), .second, .val (.double r3_), .second, .val (.ref pt), .val (.double mm), .second, .unset, .unset] [])) _
    refine XS.dload X.here hx rfl (hb hby at_131) rfl ?_
    show Steps p.tables e below (T.setTop (mkF m 133 #[.val (.long va), .second, .val (.long sa), .second, .val (.long vb), .second, .val (.long sb), .second, .val (.long vc), .second, .val (.long sc), .second, .val (.int h2_), .val (.long u1), .second, .val (.long u2), .second, .val (.long u3), .second, .val (.double r1_), .second, .val (.double r2_), .second, .val (.double r3_), .second, .val (.ref pt), .val (.double mm), .second, .unset, .unset] [(.double r2_)])) _
    refine XS.dload X.here hx rfl (hb hby at_133) rfl ?_
    show Steps p.tables e below (T.setTop (mkF m 135 #[.val (.long va), .second, .val (.long sa), .second, .val (.long vb), .second, .val (.long sb), .second, .val (.long vc), .second, .val (.long sc), .second, .val (.int h2_), .val (.long u1), .second, .val (.long u2), .second, .val (.long u3), .second, .val (.double r1_), .second, .val (.double r2_), .second, .val (.double r3_), .second, .val (.ref pt), .val (.double mm), .second, .unset, .unset] [(.double mm), (.double r2_)])) _
    refine XS.dcmpS X.here hx rfl (hb hby at_135) rfl (v := Jvm.Op.cmpValue (FP.dcmp r2_ mm) .l) rfl ?_
    show Steps p.tables e below (T.setTop (mkF m 136 #[.val (.long va), .second, .val (.long sa), .second, .val (.long vb), .second, .val (.long sb), .second, .val (.long vc), .second, .val (.long sc), .second, .val (.int h2_), .val (.long u1), .second, .val (.long u2), .second, .val (.long u3), .second, .val (.double r1_), .second, .val (.double r2_), .second, .val (.double r3_), .second, .val (.ref pt), .val (.double mm), .second, .unset, .unset] [(.int (Jvm.Op.cmpValue (FP.dcmp r2_ mm) .l))])) _
    refine XS.ifNo X.here hx rfl (hb hby at_136) rfl ((Jvm.Own.holdsD fr fm _ _).trans (Jvm.Own.dF (by omega))) ?_
    show Steps p.tables e below (T.setTop (mkF m 139 #[.val (.long va), .second, .val (.long sa), .second, .val (.long vb), .second, .val (.long sb), .second, .val (.long vc), .second, .val (.long sc), .second, .val (.int h2_), .val (.long u1), .second, .val (.long u2), .second, .val (.long u3), .second, .val (.double r1_), .second, .val (.double r2_), .second, .val (.double r3_), .second, .val (.ref pt), .val (.double mm), .second, .unset, .unset] [])) _
    refine XS.dload X.here hx rfl (hb hby at_139) rfl ?_
    show Steps p.tables e below (T.setTop (mkF m 141 #[.val (.long va), .second, .val (.long sa), .second, .val (.long vb), .second, .val (.long sb), .second, .val (.long vc), .second, .val (.long sc), .second, .val (.int h2_), .val (.long u1), .second, .val (.long u2), .second, .val (.long u3), .second, .val (.double r1_), .second, .val (.double r2_), .second, .val (.double r3_), .second, .val (.ref pt), .val (.double mm), .second, .unset, .unset] [(.double r2_)])) _
    refine XS.dstore X.here hx rfl (hb hby at_141) rfl (l' := #[.val (.long va), .second, .val (.long sa), .second, .val (.long vb), .second, .val (.long sb), .second, .val (.long vc), .second, .val (.long sc), .second, .val (.int h2_), .val (.long u1), .second, .val (.long u2), .second, .val (.long u3), .second, .val (.double r1_), .second, .val (.double r2_), .second, .val (.double r3_), .second, .val (.ref pt), .val (.double r2_), .second, .unset, .unset]) rfl ?_
    exact kt
  · show Steps p.tables e below (T.setTop (mkF m 131 #[.val (.long va), .second, .val (.long sa), .second, .val (.long vb), .second, .val (.long sb), .second, .val (.long vc), .second, .val (.long sc), .second, .val (.int h2_), .val (.long u1), .second, .val (.long u2), .second, .val (.long u3), .second, .val (.double r1_), .second, .val (.double r2_), .second, .val (.double r3_), .second, .val (.ref pt), .val (.double mm), .second, .unset, .unset] [])) _
    refine XS.dload X.here hx rfl (hb hby at_131) rfl ?_
    show Steps p.tables e below (T.setTop (mkF m 133 #[.val (.long va), .second, .val (.long sa), .second, .val (.long vb), .second, .val (.long sb), .second, .val (.long vc), .second, .val (.long sc), .second, .val (.int h2_), .val (.long u1), .second, .val (.long u2), .second, .val (.long u3), .second, .val (.double r1_), .second, .val (.double r2_), .second, .val (.double r3_), .second, .val (.ref pt), .val (.double mm), .second, .unset, .unset] [(.double r2_)])) _
    refine XS.dload X.here hx rfl (hb hby at_133) rfl ?_
    show Steps p.tables e below (T.setTop (mkF m 135 #[.val (.long va), .second, .val (.long sa), .second, .val (.long vb), .second, .val (.long sb), .second, .val (.long vc), .second, .val (.long sc), .second, .val (.int h2_), .val (.long u1), .second, .val (.long u2), .second, .val (.long u3), .second, .val (.double r1_), .second, .val (.double r2_), .second, .val (.double r3_), .second, .val (.ref pt), .val (.double mm), .second, .unset, .unset] [(.double mm), (.double r2_)])) _
    refine XS.dcmpS X.here hx rfl (hb hby at_135) rfl (v := Jvm.Op.cmpValue (FP.dcmp r2_ mm) .l) rfl ?_
    show Steps p.tables e below (T.setTop (mkF m 136 #[.val (.long va), .second, .val (.long sa), .second, .val (.long vb), .second, .val (.long sb), .second, .val (.long vc), .second, .val (.long sc), .second, .val (.int h2_), .val (.long u1), .second, .val (.long u2), .second, .val (.long u3), .second, .val (.double r1_), .second, .val (.double r2_), .second, .val (.double r3_), .second, .val (.ref pt), .val (.double mm), .second, .unset, .unset] [(.int (Jvm.Op.cmpValue (FP.dcmp r2_ mm) .l))])) _
    refine XS.ifYes X.here hx rfl (pc0 := 136) (pc' := 143) rfl (hb hby at_136) rfl ((Jvm.Own.holdsD fr fm _ _).trans (Jvm.Own.dT (by omega))) (by decide) (by decide) ?_
    exact kt
set_option maxRecDepth 65536 in
set_option maxHeartbeats 40000000 in
theorem pick_1 {p : Program} {l : Launch} {e : Env} {R : Room} {s : State} {m : MethodId} {args : Array Value} {below : List Frame} {meth : Method} {c : Code} {T : State} {locs : List Loc} {cells slots : Nat} (va sa vb sb vc sc u1 u2 u3 : Int64) (h2_ h3_ : Int32) (pt : Addr) (mm rr r1_ r2_ r3_ m2_ : UInt64)
    (X : Stand p l e R s m args below meth c T locs cells slots) (hx : p.tables.exec = Jvm.exec) (hby : c.code = code) (fr : Jvm.FP.Core.DFin r3_) (fm : Jvm.FP.Core.DFin mm) (P : PK r3_ mm m2_) :
    ∀ target, Steps p.tables e below (T.setTop (mkF m 161 #[.val (.long va), .second, .val (.long sa), .second, .val (.long vb), .second, .val (.long sb), .second, .val (.long vc), .second, .val (.long sc), .second, .val (.int h2_), .val (.long u1), .second, .val (.long u2), .second, .val (.long u3), .second, .val (.double r1_), .second, .val (.double r2_), .second, .val (.double r3_), .second, .val (.ref pt), .val (.double m2_), .second, .unset, .unset] [])) target → Steps p.tables e below (T.setTop (mkF m 149 #[.val (.long va), .second, .val (.long sa), .second, .val (.long vb), .second, .val (.long sb), .second, .val (.long vc), .second, .val (.long sc), .second, .val (.int h2_), .val (.long u1), .second, .val (.long u2), .second, .val (.long u3), .second, .val (.double r1_), .second, .val (.double r2_), .second, .val (.double r3_), .second, .val (.ref pt), .val (.double mm), .second, .unset, .unset] [])) target := by
  intro target kt
  rcases P with ⟨q, e_⟩ | ⟨q, e_⟩ <;> rw [e_] at kt
  · show Steps p.tables e below (T.setTop (mkF m 149 #[.val (.long va), .second, .val (.long sa), .second, .val (.long vb), .second, .val (.long sb), .second, .val (.long vc), .second, .val (.long sc), .second, .val (.int h2_), .val (.long u1), .second, .val (.long u2), .second, .val (.long u3), .second, .val (.double r1_), .second, .val (.double r2_), .second, .val (.double r3_), .second, .val (.ref pt), .val (.double mm), .second, .unset, .unset] [])) _
    refine XS.dload X.here hx rfl (hb hby at_149) rfl ?_
    show Steps p.tables e below (T.setTop (mkF m 151 #[.val (.long va), .second, .val (.long sa), .second, .val (.long vb), .second, .val (.long sb), .second, .val (.long vc), .second, .val (.long sc), .second, .val (.int h2_), .val (.long u1), .second, .val (.long u2), .second, .val (.long u3), .second, .val (.double r1_), .second, .val (.double r2_), .second, .val (.double r3_), .second, .val (.ref pt), .val (.double mm), .second, .unset, .unset] [(.double r3_)])) _
    refine XS.dload X.here hx rfl (hb hby at_151) rfl ?_
    show Steps p.tables e below (T.setTop (mkF m 153 #[.val (.long va), .second, .val (.long sa), .second, .val (.long vb), .second, .val (.long sb), .second, .val (.long vc), .second, .val (.long sc), .second, .val (.int h2_), .val (.long u1), .second, .val (.long u2), .second, .val (.long u3), .second, .val (.double r1_), .second, .val (.double r2_), .second, .val (.double r3_), .second, .val (.ref pt), .val (.double mm), .second, .unset, .unset] [(.double mm), (.double r3_)])) _
    refine XS.dcmpS X.here hx rfl (hb hby at_153) rfl (v := Jvm.Op.cmpValue (FP.dcmp r3_ mm) .l) rfl ?_
    show Steps p.tables e below (T.setTop (mkF m 154 #[.val (.long va), .second, .val (.long sa), .second, .val (.long vb), .second, .val (.long sb), .second, .val (.long vc), .second, .val (.long sc), .second, .val (.int h2_), .val (.long u1), .second, .val (.long u2), .second, .val (.long u3), .second, .val (.double r1_), .second, .val (.double r2_), .second, .val (.double r3_), .second, .val (.ref pt), .val (.double mm), .second, .unset, .unset] [(.int (Jvm.Op.cmpValue (FP.dcmp r3_ mm) .l))])) _
    refine XS.ifNo X.here hx rfl (hb hby at_154) rfl ((Jvm.Own.holdsD fr fm _ _).trans (Jvm.Own.dF (by omega))) ?_
    show Steps p.tables e below (T.setTop (mkF m 157 #[.val (.long va), .second, .val (.long sa), .second, .val (.long vb), .second, .val (.long sb), .second, .val (.long vc), .second, .val (.long sc), .second, .val (.int h2_), .val (.long u1), .second, .val (.long u2), .second, .val (.long u3), .second, .val (.double r1_), .second, .val (.double r2_), .second, .val (.double r3_), .second, .val (.ref pt), .val (.double mm), .second, .unset, .unset] [])) _
    refine XS.dload X.here hx rfl (hb hby at_157) rfl ?_
    show Steps p.tables e below (T.setTop (mkF m 159 #[.val (.long va), .second, .val (.long sa), .second, .val (.long vb), .second, .val (.long sb), .second, .val (.long vc), .second, .val (.long sc), .second, .val (.int h2_), .val (.long u1), .second, .val (.long u2), .second, .val (.long u3), .second, .val (.double r1_), .second, .val (.double r2_), .second, .val (.double r3_), .second, .val (.ref pt), .val (.double mm), .second, .unset, .unset] [(.double r3_)])) _
    refine XS.dstore X.here hx rfl (hb hby at_159) rfl (l' := #[.val (.long va), .second, .val (.long sa), .second, .val (.long vb), .second, .val (.long sb), .second, .val (.long vc), .second, .val (.long sc), .second, .val (.int h2_), .val (.long u1), .second, .val (.long u2), .second, .val (.long u3), .second, .val (.double r1_), .second, .val (.double r2_), .second, .val (.double r3_), .second, .val (.ref pt), .val (.double r3_), .second, .unset, .unset]) rfl ?_
    exact kt
  · show Steps p.tables e below (T.setTop (mkF m 149 #[.val (.long va), .second, .val (.long sa), .second, .val (.long vb), .second, .val (.long sb), .second, .val (.long vc), .second, .val (.long sc), .second, .val (.int h2_), .val (.long u1), .second, .val (.long u2), .second, .val (.long u3), .second, .val (.double r1_), .second, .val (.double r2_), .second, .val (.double r3_), .second, .val (.ref pt), .val (.double mm), .second, .unset, .unset] [])) _
    refine XS.dload X.here hx rfl (hb hby at_149) rfl ?_
    show Steps p.tables e below (T.setTop (mkF m 151 #[.val (.long va), .second, .val (.long sa), .second, .val (.long vb), .second, .val (.long sb), .second, .val (.long vc), .second, .val (.long sc), .second, .val (.int h2_), .val (.long u1), .second, .val (.long u2), .second, .val (.long u3), .second, .val (.double r1_), .second, .val (.double r2_), .second, .val (.double r3_), .second, .val (.ref pt), .val (.double mm), .second, .unset, .unset] [(.double r3_)])) _
    refine XS.dload X.here hx rfl (hb hby at_151) rfl ?_
    show Steps p.tables e below (T.setTop (mkF m 153 #[.val (.long va), .second, .val (.long sa), .second, .val (.long vb), .second, .val (.long sb), .second, .val (.long vc), .second, .val (.long sc), .second, .val (.int h2_), .val (.long u1), .second, .val (.long u2), .second, .val (.long u3), .second, .val (.double r1_), .second, .val (.double r2_), .second, .val (.double r3_), .second, .val (.ref pt), .val (.double mm), .second, .unset, .unset] [(.double mm), (.double r3_)])) _
    refine XS.dcmpS X.here hx rfl (hb hby at_153) rfl (v := Jvm.Op.cmpValue (FP.dcmp r3_ mm) .l) rfl ?_
    show Steps p.tables e below (T.setTop (mkF m 154 #[.val (.long va), .second, .val (.long sa), .second, .val (.long vb), .second, .val (.long sb), .second, .val (.long vc), .second, .val (.long sc), .second, .val (.int h2_), .val (.long u1), .second, .val (.long u2), .second, .val (.long u3), .second, .val (.double r1_), .second, .val (.double r2_), .second, .val (.double r3_), .second, .val (.ref pt), .val (.double mm), .second, .unset, .unset] [(.int (Jvm.Op.cmpValue (FP.dcmp r3_ mm) .l))])) _
    refine XS.ifYes X.here hx rfl (pc0 := 154) (pc' := 161) rfl (hb hby at_154) rfl ((Jvm.Own.holdsD fr fm _ _).trans (Jvm.Own.dT (by omega))) (by decide) (by decide) ?_
    exact kt
theorem ef_rm0 (m : MethodId) (va : Int64) (sa : Int64) (vb : Int64) (sb : Int64) (vc : Int64) (sc : Int64) : entryFrame m #[(.long va), (.long sa), (.long vb), (.long sb), (.long vc), (.long sc)] maxLocals = mkF m 0 #[.val (.long va), .second, .val (.long sa), .second, .val (.long vb), .second, .val (.long sb), .second, .val (.long vc), .second, .val (.long sc), .second, .unset, .unset, .unset, .unset, .unset, .unset, .unset, .unset, .unset, .unset, .unset, .unset, .unset, .unset, .unset, .unset, .unset, .unset] [] := by first | (simp [entryFrame, mkF, argsToLocals, Value.category, maxLocals]; done) | rfl
set_option maxRecDepth 65536 in
set_option maxHeartbeats 40000000 in
theorem rm0 (l : Launch) (Z : State) (a0 : Array Value) (hw : ∀ d ∈ tables_1, d.before a0 Z = true) (ws : List Jvm.Cond) (va : Int64) (sa : Int64) (vb : Int64) (sb : Int64) (vc : Int64) (sc : Int64) (h0 : Heap) (n0 : Nat) (Z0 : n0 ≤ h0.size) (w3 : Addr) (O : Old Z n0 h0) (S : EA Z w3) :
    MetFree l x (head1 (Jvm.Cond.code x code maxLocals ret :: ws) room_1) (fun a_ U_ => a_ = #[(.long va), (.long sa), (.long vb), (.long sb), (.long vc), (.long sc)] ∧ Z.Warmed39 U_.vm ∧ U_.heap = h0) (fun _ _ _ _ _ => True) (fun _ U_ o_ V_ => ∃ v_ L_, o_ = .returned v_ ∧ QL n0 v_ V_.heap L_ ∧ FrameEnd U_ o_ V_ L_ room_1.cells room_1.slots) := by
  refine MetFree.of_bodySF (plainFor_of_name pn_8) hisR ?_
  intro p e s m args below meth c s₁ Bd hml0 hP hK
  obtain ⟨rfl, hZ, hh⟩ := hP
  have hx := Bd.exec
  have hby := Bd.bytes
  have hml : c.maxLocals = 30 := hml0
  have hown : s.vm.findClass "com/example/quadwarden/quadwarden/cli/PairedTimingsRatioMaxPinLaw" = some m.cls := findClass_of_methodNamed Bd.named
  have hnm := (name_of_methodNamed Bd.named Bd.method).1
  have X0 : Stand p l e room_1 s m #[(.long va), (.long sa), (.long vb), (.long sb), (.long vc), (.long sc)] below meth c s₁ [] 0 0 := Stand.of_body Bd
  have e0 : s₁.heap = h0 := by rw [← hh, Bd.state]; rfl
  have N0 := Fr.nil n0
  have pre0 : ∀ t_1, Steps p.tables e below (s₁.setTop (mkF m 0 #[.val (.long va), .second, .val (.long sa), .second, .val (.long vb), .second, .val (.long sb), .second, .val (.long vc), .second, .val (.long sc), .second, .unset, .unset, .unset, .unset, .unset, .unset, .unset, .unset, .unset, .unset, .unset, .unset, .unset, .unset, .unset, .unset, .unset, .unset] [])) t_1 → Steps p.tables e below (s₁.setTop (entryFrame m #[(.long va), (.long sa), (.long vb), (.long sb), (.long vc), (.long sc)] maxLocals)) t_1 := fun t_ k_ => castTop (ef_rm0 m va sa vb sb vc sc) k_
  rcases Decidable.em (sa.toInt < (0 : Int64).toInt) with q2 | q2
  · rcases Decidable.em (sb.toInt < (0 : Int64).toInt) with q3 | q3
    · obtain ⟨_, _, ⟨T1, L1, k1, n1⟩, -, X1, ⟨Lc1, hQ1, l1, y1, z1⟩, st1⟩ := Jvm.LawKit.callS X0 hx (y := (⟨"com/example/quadwarden/quadwarden/cli/PairedTimingsRatioMaxPinLaw", "positive", "(J)J"⟩ : MethodName)) hown (mvT hZ (hw _ (List.mem_of_getElem? (i := 0) rfl))) (mvT hZ (hw _ (List.mem_of_getElem? (i := 1) rfl))) (mvT hZ (hw _ (List.mem_of_getElem? (i := 2) rfl))) (mvT hZ (hw _ (List.mem_of_getElem? (i := 3) rfl))) (by decide) (backOf (W := 0) (rmPos l Z a0 hw [] sa h0 n0 Z0) hZ (hw _ (List.mem_of_getElem? (i := 3) rfl)) (hw _ (List.mem_of_getElem? (i := 2) rfl)) (by decide) (by decide)) (g := (mkF m 29 #[.val (.long va), .second, .val (.long sa), .second, .val (.long vb), .second, .val (.long sb), .second, .val (.long vc), .second, .val (.long sc), .second, .val (.int (((1 : Int32) + (1 : Int32)) + (1 : Int32))), .unset, .unset, .unset, .unset, .unset, .unset, .unset, .unset, .unset, .unset, .unset, .unset, .unset, .unset, .unset, .unset, .unset] [(.long sa)])) rfl (by rw [hml]; rfl) (argsL := [(.long sa)]) (rest := []) (lenOf pd_19 rfl) rfl (by show 2 * 0 + _ ≤ _; exact Nat.le_of_eq rfl) (hb hby at_29) (fun _ _ => ⟨rfl, e0, (by decide : 0 + 0 ≤ _), (by decide : 0 + 0 ≤ _)⟩)
      dsimp only [Pt.U, Pt.locs, Pt.cells, Pt.slots] at X1 l1 y1 z1 st1 hQ1
      subst l1 y1 z1
      obtain ⟨u1, rfl, N1, e1, p1⟩ := hQ1
      obtain ⟨_, _, ⟨T2, L2, k2, n2⟩, -, X2, ⟨Lc2, hQ2, l2, y2, z2⟩, st2⟩ := Jvm.LawKit.callS X1 hx (y := (⟨"com/example/quadwarden/quadwarden/cli/PairedTimingsRatioMaxPinLaw", "positive", "(J)J"⟩ : MethodName)) hown (mvT hZ (hw _ (List.mem_of_getElem? (i := 0) rfl))) (mvT hZ (hw _ (List.mem_of_getElem? (i := 1) rfl))) (mvT hZ (hw _ (List.mem_of_getElem? (i := 2) rfl))) (mvT hZ (hw _ (List.mem_of_getElem? (i := 3) rfl))) (by decide) (backOf (W := 0) (rmPos l Z a0 hw [] sb h0 n0 Z0) hZ (hw _ (List.mem_of_getElem? (i := 3) rfl)) (hw _ (List.mem_of_getElem? (i := 2) rfl)) (by decide) (by decide)) (g := (mkF m 36 #[.val (.long va), .second, .val (.long sa), .second, .val (.long vb), .second, .val (.long sb), .second, .val (.long vc), .second, .val (.long sc), .second, .val (.int (((1 : Int32) + (1 : Int32)) + (1 : Int32))), .val (.long u1), .second, .unset, .unset, .unset, .unset, .unset, .unset, .unset, .unset, .unset, .unset, .unset, .unset, .unset, .unset, .unset] [(.long sb)])) rfl (by rw [hml]; rfl) (argsL := [(.long sb)]) (rest := []) (lenOf pd_19 rfl) rfl (by show 2 * 0 + _ ≤ _; exact Nat.le_of_eq rfl) (hb hby at_36) (fun _ _ => ⟨rfl, e1, (by decide : 0 + 0 ≤ _), (by decide : 0 + 0 ≤ _)⟩)
      dsimp only [Pt.U, Pt.locs, Pt.cells, Pt.slots] at X2 l2 y2 z2 st2 hQ2
      subst l2 y2 z2
      obtain ⟨u2, rfl, N2, e2, p2⟩ := hQ2
      obtain ⟨_, _, ⟨T3, L3, k3, n3⟩, -, X3, ⟨Lc3, hQ3, l3, y3, z3⟩, st3⟩ := Jvm.LawKit.callS X2 hx (y := (⟨"com/example/quadwarden/quadwarden/cli/PairedTimingsRatioMaxPinLaw", "positive", "(J)J"⟩ : MethodName)) hown (mvT hZ (hw _ (List.mem_of_getElem? (i := 0) rfl))) (mvT hZ (hw _ (List.mem_of_getElem? (i := 1) rfl))) (mvT hZ (hw _ (List.mem_of_getElem? (i := 2) rfl))) (mvT hZ (hw _ (List.mem_of_getElem? (i := 3) rfl))) (by decide) (backOf (W := 0) (rmPos l Z a0 hw [] sc h0 n0 Z0) hZ (hw _ (List.mem_of_getElem? (i := 3) rfl)) (hw _ (List.mem_of_getElem? (i := 2) rfl)) (by decide) (by decide)) (g := (mkF m 43 #[.val (.long va), .second, .val (.long sa), .second, .val (.long vb), .second, .val (.long sb), .second, .val (.long vc), .second, .val (.long sc), .second, .val (.int (((1 : Int32) + (1 : Int32)) + (1 : Int32))), .val (.long u1), .second, .val (.long u2), .second, .unset, .unset, .unset, .unset, .unset, .unset, .unset, .unset, .unset, .unset, .unset, .unset, .unset] [(.long sc)])) rfl (by rw [hml]; rfl) (argsL := [(.long sc)]) (rest := []) (lenOf pd_19 rfl) rfl (by show 2 * 0 + _ ≤ _; exact Nat.le_of_eq rfl) (hb hby at_43) (fun _ _ => ⟨rfl, e2, (by decide : 0 + 0 ≤ _), (by decide : 0 + 0 ≤ _)⟩)
      dsimp only [Pt.U, Pt.locs, Pt.cells, Pt.slots] at X3 l3 y3 z3 st3 hQ3
      subst l3 y3 z3
      obtain ⟨u3, rfl, N3, e3, p3⟩ := hQ3
      obtain ⟨T4, h4, X4, e4, E4, A4, D4, -, st4⟩ := newO X3 hx hZ hown (hw _ (List.mem_of_getElem? (i := 5) rfl)) (hw _ (List.mem_of_getElem? (i := 6) rfl)) (hw _ (List.mem_of_getElem? (i := 7) rfl)) e3 (g := (mkF m 74 #[.val (.long va), .second, .val (.long sa), .second, .val (.long vb), .second, .val (.long sb), .second, .val (.long vc), .second, .val (.long sc), .second, .val (.int (((1 : Int32) + (1 : Int32)) + (1 : Int32))), .val (.long u1), .second, .val (.long u2), .second, .val (.long u3), .second, .val (.double (FP.ddiv (FP.l2d va) (FP.l2d u1))), .second, .val (.double (FP.ddiv (FP.l2d vb) (FP.l2d u2))), .second, .val (.double (FP.ddiv (FP.l2d vc) (FP.l2d u3))), .second, .unset, .unset, .unset, .unset, .unset] [])) rfl (hb hby at_74) (by decide) (by decide)
      obtain ⟨a4, g4⟩ : ∃ z, z = h0.size := ⟨_, rfl⟩
      rw [← g4] at A4 D4 st4
      have D_0 := D4 (Or.inr (hw _ (List.mem_of_getElem? (i := 39) rfl))) (ty := (.object "java/util/List")) (by decide)
      have D_1 := D4 (Or.inr (hw _ (List.mem_of_getElem? (i := 41) rfl))) (ty := (.object "java/util/List")) (by decide)
      have D_2 := D4 (Or.inr (hw _ (List.mem_of_getElem? (i := 43) rfl))) (ty := (.object "java/util/List")) (by decide)
      have g_4 : n0 ≤ a4 := Nat.le_trans Z0 (Nat.le_of_eq g4.symm)
      have O4 := O.ext E4
      have Z4 : n0 ≤ h4.size := Nat.le_trans Z0 E4.1
      obtain ⟨_, _, ⟨T5, L5, k5, n5⟩, -, X5, ⟨Lc5, hQ5, l5, y5, z5⟩, st5⟩ := X4.specialBack hx (y := (⟨"com/example/quadwarden/quadwarden/cli/PairedTimings", "<init>", "()V"⟩ : MethodName)) rfl hown (mvT hZ (hw _ (List.mem_of_getElem? (i := 8) rfl))) (mvT hZ (hw _ (List.mem_of_getElem? (i := 9) rfl))) (mvT hZ (hw _ (List.mem_of_getElem? (i := 10) rfl))) (by decide) (backOf (W := 1) (rmPi l Z a0 hw [] a4 h4 n0 Z4 w3 O4 S g_4 A4 D_0 D_1 D_2) hZ (hw _ (List.mem_of_getElem? (i := 10) rfl)) (hw _ (List.mem_of_getElem? (i := 7) rfl)) (by decide) (by decide)) (g := (mkF m 78 #[.val (.long va), .second, .val (.long sa), .second, .val (.long vb), .second, .val (.long sb), .second, .val (.long vc), .second, .val (.long sc), .second, .val (.int (((1 : Int32) + (1 : Int32)) + (1 : Int32))), .val (.long u1), .second, .val (.long u2), .second, .val (.long u3), .second, .val (.double (FP.ddiv (FP.l2d va) (FP.l2d u1))), .second, .val (.double (FP.ddiv (FP.l2d vb) (FP.l2d u2))), .second, .val (.double (FP.ddiv (FP.l2d vc) (FP.l2d u3))), .second, .unset, .unset, .unset, .unset, .unset] [(.ref a4), (.ref a4)])) rfl (by rw [hml]; rfl) (Steps.refl _) (a := a4) (argsL := []) (rest := [(.ref a4)]) (lenOf pd_0 rfl) rfl (by show 2 * 0 + _ ≤ _; exact Nat.le_of_eq rfl) (hb hby at_78) (fun _ _ => ⟨rfl, e4, (by decide : 1 + 3 ≤ _), (by decide : 3 + 9 ≤ _)⟩)
      dsimp only [Pt.U, Pt.locs, Pt.cells, Pt.slots] at X5 l5 y5 z5 st5 hQ5
      subst l5 y5 z5
      obtain ⟨rfl, N5, K5, la, lb, lc, P5⟩ := hQ5
      have O5 := O4.keep K5 (allS g_4 all0)
      have Z5 : n0 ≤ T5.heap.size := Nat.le_trans Z4 K5.1
      have M5 := Fr.app (Fr.app (Fr.app (Fr.app N0 N1) N2) N3) N5
      obtain ⟨cq6, kq6, q6a, q6b, q6c⟩ := isOf hZ rfl P5.1.1
      obtain ⟨_, _, ⟨T6, L6, k6, n6⟩, -, X6, ⟨Lc6, hQ6, l6, y6, z6⟩, st6⟩ := X5.virtualBack hx (y := (⟨"com/example/quadwarden/quadwarden/cli/PairedTimings", "add", "(JJ)V"⟩ : MethodName)) (z := (⟨"com/example/quadwarden/quadwarden/cli/PairedTimings", "add", "(JJ)V"⟩ : MethodName)) hown (mvT hZ (hw _ (List.mem_of_getElem? (i := 44) rfl))) (mvT hZ (hw _ (List.mem_of_getElem? (i := 45) rfl))) (notFace_of_selects (args := #[]) (mvT hZ (hw _ (List.mem_of_getElem? (i := 47) rfl)))) (mvT hZ (hw _ (List.mem_of_getElem? (i := 47) rfl))) (mvT hZ (hw _ (List.mem_of_getElem? (i := 46) rfl))) (by decide) (backOf (W := 0) (rmP1 l Z a0 hw [] a4 va u1 T5.heap n0 Z5 la lb lc w3 O5 S P5 (Jvm.Own.nn (own_q va u1 p1))) hZ (hw _ (List.mem_of_getElem? (i := 48) rfl)) (hw _ (List.mem_of_getElem? (i := 7) rfl)) (by decide) (by decide)) q6a q6c (g := (mkF m 88 #[.val (.long va), .second, .val (.long sa), .second, .val (.long vb), .second, .val (.long sb), .second, .val (.long vc), .second, .val (.long sc), .second, .val (.int (((1 : Int32) + (1 : Int32)) + (1 : Int32))), .val (.long u1), .second, .val (.long u2), .second, .val (.long u3), .second, .val (.double (FP.ddiv (FP.l2d va) (FP.l2d u1))), .second, .val (.double (FP.ddiv (FP.l2d vb) (FP.l2d u2))), .second, .val (.double (FP.ddiv (FP.l2d vc) (FP.l2d u3))), .second, .val (.ref a4), .unset, .unset, .unset, .unset] [(.long u1), (.long va), (.ref a4)])) rfl (by rw [hml]; rfl) (Steps.refl _) (argsL := [(.long va), (.long u1)]) (rest := []) (lenOf pd_20 rfl) rfl (by show 2 * 0 + _ ≤ _; exact Nat.le_of_eq rfl) (hb hby at_88) (fun _ _ => ⟨rfl, rfl, (by decide : 4 + 6 ≤ _), (by decide : 12 + 33 ≤ _)⟩)
      dsimp only [Pt.U, Pt.locs, Pt.cells, Pt.slots] at X6 l6 y6 z6 st6 hQ6
      subst l6 y6 z6
      obtain ⟨rfl, N6, K6, ta, tb, tc, x0_, P6, B6⟩ := hQ6
      have Z6 : n0 ≤ T6.heap.size := Nat.le_trans Z5 K6.1
      have M6 := Fr.app M5 N6
      obtain ⟨cq17, kq17, q17a, q17b, q17c⟩ := isOf hZ rfl P6.1.1
      obtain ⟨_, _, ⟨T17, L17, k17, n17⟩, -, X17, ⟨Lc17, hQ17, l17, y17, z17⟩, st17⟩ := X6.virtualBack hx (y := (⟨"com/example/quadwarden/quadwarden/cli/PairedTimings", "add", "(JJ)V"⟩ : MethodName)) (z := (⟨"com/example/quadwarden/quadwarden/cli/PairedTimings", "add", "(JJ)V"⟩ : MethodName)) hown (mvT hZ (hw _ (List.mem_of_getElem? (i := 44) rfl))) (mvT hZ (hw _ (List.mem_of_getElem? (i := 45) rfl))) (notFace_of_selects (args := #[]) (mvT hZ (hw _ (List.mem_of_getElem? (i := 47) rfl)))) (mvT hZ (hw _ (List.mem_of_getElem? (i := 47) rfl))) (mvT hZ (hw _ (List.mem_of_getElem? (i := 46) rfl))) (by decide) (backOf (W := 0) (rmP2 l Z a0 hw [] a4 vb u2 T6.heap n0 Z6 la lb lc ta tb tc ((0 : Int32) + 1) 1 ((List.replicate 10 .null).set 0 (.ref x0_)) rfl (by decide) P6 (Jvm.Own.nn (own_q vb u2 p2))) hZ (hw _ (List.mem_of_getElem? (i := 48) rfl)) (hw _ (List.mem_of_getElem? (i := 7) rfl)) (by decide) (by decide)) q17a q17c (g := (mkF m 103 #[.val (.long va), .second, .val (.long sa), .second, .val (.long vb), .second, .val (.long sb), .second, .val (.long vc), .second, .val (.long sc), .second, .val (.int (((1 : Int32) + (1 : Int32)) + (1 : Int32))), .val (.long u1), .second, .val (.long u2), .second, .val (.long u3), .second, .val (.double (FP.ddiv (FP.l2d va) (FP.l2d u1))), .second, .val (.double (FP.ddiv (FP.l2d vb) (FP.l2d u2))), .second, .val (.double (FP.ddiv (FP.l2d vc) (FP.l2d u3))), .second, .val (.ref a4), .unset, .unset, .unset, .unset] [(.long u2), (.long vb), (.ref a4)])) rfl (by rw [hml]; rfl) (Steps.refl _) (argsL := [(.long vb), (.long u2)]) (rest := []) (lenOf pd_20 rfl) rfl (by show 2 * 0 + _ ≤ _; exact Nat.le_of_eq rfl) (hb hby at_103) (fun _ _ => ⟨rfl, rfl, (by decide : 10 + 3 ≤ _), (by decide : 45 + 3 ≤ _)⟩)
      dsimp only [Pt.U, Pt.locs, Pt.cells, Pt.slots] at X17 l17 y17 z17 st17 hQ17
      subst l17 y17 z17
      obtain ⟨rfl, N17, K17, x1_, P17, B17⟩ := hQ17
      have B17_0 := B6.keep K17 (P6.box B6 (hw _ (List.mem_of_getElem? (i := 54) rfl)))
      have Z17 : n0 ≤ T17.heap.size := Nat.le_trans Z6 K17.1
      have M17 := Fr.app M6 N17
      obtain ⟨cq27, kq27, q27a, q27b, q27c⟩ := isOf hZ rfl P17.1.1
      obtain ⟨_, _, ⟨T27, L27, k27, n27⟩, -, X27, ⟨Lc27, hQ27, l27, y27, z27⟩, st27⟩ := X17.virtualBack hx (y := (⟨"com/example/quadwarden/quadwarden/cli/PairedTimings", "add", "(JJ)V"⟩ : MethodName)) (z := (⟨"com/example/quadwarden/quadwarden/cli/PairedTimings", "add", "(JJ)V"⟩ : MethodName)) hown (mvT hZ (hw _ (List.mem_of_getElem? (i := 44) rfl))) (mvT hZ (hw _ (List.mem_of_getElem? (i := 45) rfl))) (notFace_of_selects (args := #[]) (mvT hZ (hw _ (List.mem_of_getElem? (i := 47) rfl)))) (mvT hZ (hw _ (List.mem_of_getElem? (i := 47) rfl))) (mvT hZ (hw _ (List.mem_of_getElem? (i := 46) rfl))) (by decide) (backOf (W := 0) (rmP2 l Z a0 hw [] a4 vc u3 T17.heap n0 Z17 la lb lc ta tb tc (((0 : Int32) + 1) + 1) 2 (((List.replicate 10 .null).set 0 (.ref x0_)).set 1 (.ref x1_)) rfl (by decide) P17 (Jvm.Own.nn (own_q vc u3 p3))) hZ (hw _ (List.mem_of_getElem? (i := 48) rfl)) (hw _ (List.mem_of_getElem? (i := 7) rfl)) (by decide) (by decide)) q27a q27c (g := (mkF m 118 #[.val (.long va), .second, .val (.long sa), .second, .val (.long vb), .second, .val (.long sb), .second, .val (.long vc), .second, .val (.long sc), .second, .val (.int (((1 : Int32) + (1 : Int32)) + (1 : Int32))), .val (.long u1), .second, .val (.long u2), .second, .val (.long u3), .second, .val (.double (FP.ddiv (FP.l2d va) (FP.l2d u1))), .second, .val (.double (FP.ddiv (FP.l2d vb) (FP.l2d u2))), .second, .val (.double (FP.ddiv (FP.l2d vc) (FP.l2d u3))), .second, .val (.ref a4), .unset, .unset, .unset, .unset] [(.long u3), (.long vc), (.ref a4)])) rfl (by rw [hml]; rfl) (Steps.refl _) (argsL := [(.long vc), (.long u3)]) (rest := []) (lenOf pd_20 rfl) rfl (by show 2 * 0 + _ ≤ _; exact Nat.le_of_eq rfl) (hb hby at_118) (fun _ _ => ⟨rfl, rfl, (by decide : 13 + 3 ≤ _), (by decide : 48 + 3 ≤ _)⟩)
      dsimp only [Pt.U, Pt.locs, Pt.cells, Pt.slots] at X27 l27 y27 z27 st27 hQ27
      subst l27 y27 z27
      obtain ⟨rfl, N27, K27, x2_, P27, B27⟩ := hQ27
      have B27_0 := B17_0.keep K27 (P17.box B17_0 (hw _ (List.mem_of_getElem? (i := 54) rfl)))
      have B27_1 := B17.keep K27 (P17.box B17 (hw _ (List.mem_of_getElem? (i := 54) rfl)))
      have Z27 : n0 ≤ T27.heap.size := Nat.le_trans Z17 K27.1
      have M27 := Fr.app M17 N27
      obtain ⟨m1_, hm1⟩ := PK.ex (FP.ddiv (FP.l2d vb) (FP.l2d u2)) (FP.ddiv (FP.l2d va) (FP.l2d u1))
      obtain ⟨fm1, ma1, mb1, mc1⟩ := hm1.spec (own_q vb u2 p2) (own_q va u1 p1)
      obtain ⟨m2_, hm2⟩ := PK.ex (FP.ddiv (FP.l2d vc) (FP.l2d u3)) m1_
      obtain ⟨fm2, ma2, mb2, mc2⟩ := hm2.spec (own_q vc u3 p3) fm1
      obtain ⟨PX_, -, -, LC_, -⟩ := id P27
      obtain ⟨cq9, kq9, q9a, q9b, q9c⟩ := isOf hZ rfl PX_.1
      obtain ⟨_, _, ⟨T9, L9, k9, n9⟩, -, X9, ⟨Lc9, hQ9, l9, y9, z9⟩, st9⟩ := X27.virtualBack hx (y := (⟨"com/example/quadwarden/quadwarden/cli/PairedTimings", "ratioMax", "()D"⟩ : MethodName)) (z := (⟨"com/example/quadwarden/quadwarden/cli/PairedTimings", "ratioMax", "()D"⟩ : MethodName)) hown (mvT hZ (hw _ (List.mem_of_getElem? (i := 103) rfl))) (mvT hZ (hw _ (List.mem_of_getElem? (i := 104) rfl))) (notFace_of_selects (args := #[]) (mvT hZ (hw _ (List.mem_of_getElem? (i := 106) rfl)))) (mvT hZ (hw _ (List.mem_of_getElem? (i := 106) rfl))) (mvT hZ (hw _ (List.mem_of_getElem? (i := 105) rfl))) (by decide) (backOf (W := 0) (rmR3 l Z a0 hw [] a4 T27.heap n0 Z27 la lb lc PX_ _ _ tc _ LC_ (by decide) x0_ x1_ x2_ (FP.ddiv (FP.l2d va) (FP.l2d u1)) (FP.ddiv (FP.l2d vb) (FP.l2d u2)) (FP.ddiv (FP.l2d vc) (FP.l2d u3)) rfl B27_0 (own_q va u1 p1) rfl B27_1 (own_q vb u2 p2) rfl B27 (own_q vc u3 p3)) hZ (hw _ (List.mem_of_getElem? (i := 107) rfl)) (hw _ (List.mem_of_getElem? (i := 7) rfl)) (by decide) (by decide)) q9a q9c (g := (mkF m 163 #[.val (.long va), .second, .val (.long sa), .second, .val (.long vb), .second, .val (.long sb), .second, .val (.long vc), .second, .val (.long sc), .second, .val (.int (((1 : Int32) + (1 : Int32)) + (1 : Int32))), .val (.long u1), .second, .val (.long u2), .second, .val (.long u3), .second, .val (.double (FP.ddiv (FP.l2d va) (FP.l2d u1))), .second, .val (.double (FP.ddiv (FP.l2d vb) (FP.l2d u2))), .second, .val (.double (FP.ddiv (FP.l2d vc) (FP.l2d u3))), .second, .val (.ref a4), .val (.double m2_), .second, .unset, .unset] [(.ref a4)])) rfl (by rw [hml]; rfl) (Steps.refl _) (argsL := []) (rest := []) (lenOf pd_18 rfl) rfl (by show 2 * 0 + _ ≤ _; exact Nat.le_of_eq rfl) (hb hby at_163) (fun _ _ => ⟨rfl, rfl, (by decide : 16 + 1 ≤ _), (by decide : 51 + 4 ≤ _)⟩)
      dsimp only [Pt.U, Pt.locs, Pt.cells, Pt.slots] at X9 l9 y9 z9 st9 hQ9
      subst l9 y9 z9
      obtain ⟨w9, rfl, N9, f9, o9, l9_0, l9_1, l9_2⟩ := hQ9
      have z9 := o9.imp (congrArg Jvm.Own.z) (Or.imp (congrArg Jvm.Own.z) (congrArg Jvm.Own.z))
      have heq : Jvm.Own.z w9 = Jvm.Own.z m2_ := by omega
      obtain ⟨fs, hr, hrun, hended, hW, hsame⟩ := X9.leave (v := some (.int (1 : Int32))) (fun h => by rw [Bd.returns] at h; cases h)
      refine ⟨_, _, pre0 _ ?_, hrun, hended, _, _, rfl, ?_, ⟨_, rfl⟩, hW, hsame.mono (by decide) (by decide)⟩
      · show Steps p.tables e below (s₁.setTop (mkF m 0 #[.val (.long va), .second, .val (.long sa), .second, .val (.long vb), .second, .val (.long sb), .second, .val (.long vc), .second, .val (.long sc), .second, .unset, .unset, .unset, .unset, .unset, .unset, .unset, .unset, .unset, .unset, .unset, .unset, .unset, .unset, .unset, .unset, .unset, .unset] [])) _
        refine XS.iconst X0.here hx rfl (hb hby at_0) ?_
        show Steps p.tables e below (s₁.setTop (mkF m 1 #[.val (.long va), .second, .val (.long sa), .second, .val (.long vb), .second, .val (.long sb), .second, .val (.long vc), .second, .val (.long sc), .second, .unset, .unset, .unset, .unset, .unset, .unset, .unset, .unset, .unset, .unset, .unset, .unset, .unset, .unset, .unset, .unset, .unset, .unset] [(.int (1 : Int32))])) _
        refine XS.lloadN X0.here hx rfl (hb hby at_1) rfl ?_
        show Steps p.tables e below (s₁.setTop (mkF m 2 #[.val (.long va), .second, .val (.long sa), .second, .val (.long vb), .second, .val (.long sb), .second, .val (.long vc), .second, .val (.long sc), .second, .unset, .unset, .unset, .unset, .unset, .unset, .unset, .unset, .unset, .unset, .unset, .unset, .unset, .unset, .unset, .unset, .unset, .unset] [(.long sa), (.int (1 : Int32))])) _
        refine XS.lconst X0.here hx rfl (hb hby at_2) ?_
        show Steps p.tables e below (s₁.setTop (mkF m 3 #[.val (.long va), .second, .val (.long sa), .second, .val (.long vb), .second, .val (.long sb), .second, .val (.long vc), .second, .val (.long sc), .second, .unset, .unset, .unset, .unset, .unset, .unset, .unset, .unset, .unset, .unset, .unset, .unset, .unset, .unset, .unset, .unset, .unset, .unset] [(.long (0 : Int64)), (.long sa), (.int (1 : Int32))])) _
        refine XS.lcmp X0.here hx rfl (hb hby at_3) rfl ?_
        show Steps p.tables e below (s₁.setTop (mkF m 4 #[.val (.long va), .second, .val (.long sa), .second, .val (.long vb), .second, .val (.long sb), .second, .val (.long vc), .second, .val (.long sc), .second, .unset, .unset, .unset, .unset, .unset, .unset, .unset, .unset, .unset, .unset, .unset, .unset, .unset, .unset, .unset, .unset, .unset, .unset] [(.int (lcmpW sa (0 : Int64))), (.int (1 : Int32))])) _
        refine XS.ifNo X0.here hx rfl (hb hby at_4) rfl ((Jvm.Own.holdsL _ _ _).trans (Jvm.Own.dF (by omega))) ?_
        show Steps p.tables e below (s₁.setTop (mkF m 7 #[.val (.long va), .second, .val (.long sa), .second, .val (.long vb), .second, .val (.long sb), .second, .val (.long vc), .second, .val (.long sc), .second, .unset, .unset, .unset, .unset, .unset, .unset, .unset, .unset, .unset, .unset, .unset, .unset, .unset, .unset, .unset, .unset, .unset, .unset] [(.int (1 : Int32))])) _
        refine XS.iconst X0.here hx rfl (hb hby at_7) ?_
        show Steps p.tables e below (s₁.setTop (mkF m 8 #[.val (.long va), .second, .val (.long sa), .second, .val (.long vb), .second, .val (.long sb), .second, .val (.long vc), .second, .val (.long sc), .second, .unset, .unset, .unset, .unset, .unset, .unset, .unset, .unset, .unset, .unset, .unset, .unset, .unset, .unset, .unset, .unset, .unset, .unset] [(.int (1 : Int32)), (.int (1 : Int32))])) _
        refine XS.goto X0.here hx rfl (pc0 := 8) (pc' := 12) rfl (hb hby at_8) (by decide) (by decide) ?_
        show Steps p.tables e below (s₁.setTop (mkF m 12 #[.val (.long va), .second, .val (.long sa), .second, .val (.long vb), .second, .val (.long sb), .second, .val (.long vc), .second, .val (.long sc), .second, .unset, .unset, .unset, .unset, .unset, .unset, .unset, .unset, .unset, .unset, .unset, .unset, .unset, .unset, .unset, .unset, .unset, .unset] [(.int (1 : Int32)), (.int (1 : Int32))])) _
        refine XS.iadd X0.here hx rfl (hb hby at_12) rfl ?_
        show Steps p.tables e below (s₁.setTop (mkF m 13 #[.val (.long va), .second, .val (.long sa), .second, .val (.long vb), .second, .val (.long sb), .second, .val (.long vc), .second, .val (.long sc), .second, .unset, .unset, .unset, .unset, .unset, .unset, .unset, .unset, .unset, .unset, .unset, .unset, .unset, .unset, .unset, .unset, .unset, .unset] [(.int ((1 : Int32) + (1 : Int32)))])) _
        refine XS.lload X0.here hx rfl (hb hby at_13) rfl ?_
        show Steps p.tables e below (s₁.setTop (mkF m 15 #[.val (.long va), .second, .val (.long sa), .second, .val (.long vb), .second, .val (.long sb), .second, .val (.long vc), .second, .val (.long sc), .second, .unset, .unset, .unset, .unset, .unset, .unset, .unset, .unset, .unset, .unset, .unset, .unset, .unset, .unset, .unset, .unset, .unset, .unset] [(.long sb), (.int ((1 : Int32) + (1 : Int32)))])) _
        refine XS.lconst X0.here hx rfl (hb hby at_15) ?_
        show Steps p.tables e below (s₁.setTop (mkF m 16 #[.val (.long va), .second, .val (.long sa), .second, .val (.long vb), .second, .val (.long sb), .second, .val (.long vc), .second, .val (.long sc), .second, .unset, .unset, .unset, .unset, .unset, .unset, .unset, .unset, .unset, .unset, .unset, .unset, .unset, .unset, .unset, .unset, .unset, .unset] [(.long (0 : Int64)), (.long sb), (.int ((1 : Int32) + (1 : Int32)))])) _
        refine XS.lcmp X0.here hx rfl (hb hby at_16) rfl ?_
        show Steps p.tables e below (s₁.setTop (mkF m 17 #[.val (.long va), .second, .val (.long sa), .second, .val (.long vb), .second, .val (.long sb), .second, .val (.long vc), .second, .val (.long sc), .second, .unset, .unset, .unset, .unset, .unset, .unset, .unset, .unset, .unset, .unset, .unset, .unset, .unset, .unset, .unset, .unset, .unset, .unset] [(.int (lcmpW sb (0 : Int64))), (.int ((1 : Int32) + (1 : Int32)))])) _
        refine XS.ifNo X0.here hx rfl (hb hby at_17) rfl ((Jvm.Own.holdsL _ _ _).trans (Jvm.Own.dF (by omega))) ?_
        show Steps p.tables e below (s₁.setTop (mkF m 20 #[.val (.long va), .second, .val (.long sa), .second, .val (.long vb), .second, .val (.long sb), .second, .val (.long vc), .second, .val (.long sc), .second, .unset, .unset, .unset, .unset, .unset, .unset, .unset, .unset, .unset, .unset, .unset, .unset, .unset, .unset, .unset, .unset, .unset, .unset] [(.int ((1 : Int32) + (1 : Int32)))])) _
        refine XS.iconst X0.here hx rfl (hb hby at_20) ?_
        show Steps p.tables e below (s₁.setTop (mkF m 21 #[.val (.long va), .second, .val (.long sa), .second, .val (.long vb), .second, .val (.long sb), .second, .val (.long vc), .second, .val (.long sc), .second, .unset, .unset, .unset, .unset, .unset, .unset, .unset, .unset, .unset, .unset, .unset, .unset, .unset, .unset, .unset, .unset, .unset, .unset] [(.int (1 : Int32)), (.int ((1 : Int32) + (1 : Int32)))])) _
        refine XS.goto X0.here hx rfl (pc0 := 21) (pc' := 25) rfl (hb hby at_21) (by decide) (by decide) ?_
        show Steps p.tables e below (s₁.setTop (mkF m 25 #[.val (.long va), .second, .val (.long sa), .second, .val (.long vb), .second, .val (.long sb), .second, .val (.long vc), .second, .val (.long sc), .second, .unset, .unset, .unset, .unset, .unset, .unset, .unset, .unset, .unset, .unset, .unset, .unset, .unset, .unset, .unset, .unset, .unset, .unset] [(.int (1 : Int32)), (.int ((1 : Int32) + (1 : Int32)))])) _
        refine XS.iadd X0.here hx rfl (hb hby at_25) rfl ?_
        show Steps p.tables e below (s₁.setTop (mkF m 26 #[.val (.long va), .second, .val (.long sa), .second, .val (.long vb), .second, .val (.long sb), .second, .val (.long vc), .second, .val (.long sc), .second, .unset, .unset, .unset, .unset, .unset, .unset, .unset, .unset, .unset, .unset, .unset, .unset, .unset, .unset, .unset, .unset, .unset, .unset] [(.int (((1 : Int32) + (1 : Int32)) + (1 : Int32)))])) _
        refine XS.istore X0.here hx rfl (hb hby at_26) rfl (l' := #[.val (.long va), .second, .val (.long sa), .second, .val (.long vb), .second, .val (.long sb), .second, .val (.long vc), .second, .val (.long sc), .second, .val (.int (((1 : Int32) + (1 : Int32)) + (1 : Int32))), .unset, .unset, .unset, .unset, .unset, .unset, .unset, .unset, .unset, .unset, .unset, .unset, .unset, .unset, .unset, .unset, .unset]) rfl ?_
        show Steps p.tables e below (s₁.setTop (mkF m 28 #[.val (.long va), .second, .val (.long sa), .second, .val (.long vb), .second, .val (.long sb), .second, .val (.long vc), .second, .val (.long sc), .second, .val (.int (((1 : Int32) + (1 : Int32)) + (1 : Int32))), .unset, .unset, .unset, .unset, .unset, .unset, .unset, .unset, .unset, .unset, .unset, .unset, .unset, .unset, .unset, .unset, .unset] [])) _
        refine XS.lloadN X0.here hx rfl (hb hby at_28) rfl ?_
        show Steps p.tables e below (s₁.setTop (mkF m 29 #[.val (.long va), .second, .val (.long sa), .second, .val (.long vb), .second, .val (.long sb), .second, .val (.long vc), .second, .val (.long sc), .second, .val (.int (((1 : Int32) + (1 : Int32)) + (1 : Int32))), .unset, .unset, .unset, .unset, .unset, .unset, .unset, .unset, .unset, .unset, .unset, .unset, .unset, .unset, .unset, .unset, .unset] [(.long sa)])) _
        refine st1 _ ?_
        show Steps p.tables e below (T1.setTop (mkF m 32 #[.val (.long va), .second, .val (.long sa), .second, .val (.long vb), .second, .val (.long sb), .second, .val (.long vc), .second, .val (.long sc), .second, .val (.int (((1 : Int32) + (1 : Int32)) + (1 : Int32))), .unset, .unset, .unset, .unset, .unset, .unset, .unset, .unset, .unset, .unset, .unset, .unset, .unset, .unset, .unset, .unset, .unset] [(.long u1)])) _
        refine XS.lstore X1.here hx rfl (hb hby at_32) rfl (l' := #[.val (.long va), .second, .val (.long sa), .second, .val (.long vb), .second, .val (.long sb), .second, .val (.long vc), .second, .val (.long sc), .second, .val (.int (((1 : Int32) + (1 : Int32)) + (1 : Int32))), .val (.long u1), .second, .unset, .unset, .unset, .unset, .unset, .unset, .unset, .unset, .unset, .unset, .unset, .unset, .unset, .unset, .unset]) rfl ?_
        show Steps p.tables e below (T1.setTop (mkF m 34 #[.val (.long va), .second, .val (.long sa), .second, .val (.long vb), .second, .val (.long sb), .second, .val (.long vc), .second, .val (.long sc), .second, .val (.int (((1 : Int32) + (1 : Int32)) + (1 : Int32))), .val (.long u1), .second, .unset, .unset, .unset, .unset, .unset, .unset, .unset, .unset, .unset, .unset, .unset, .unset, .unset, .unset, .unset] [])) _
        refine XS.lload X1.here hx rfl (hb hby at_34) rfl ?_
        show Steps p.tables e below (T1.setTop (mkF m 36 #[.val (.long va), .second, .val (.long sa), .second, .val (.long vb), .second, .val (.long sb), .second, .val (.long vc), .second, .val (.long sc), .second, .val (.int (((1 : Int32) + (1 : Int32)) + (1 : Int32))), .val (.long u1), .second, .unset, .unset, .unset, .unset, .unset, .unset, .unset, .unset, .unset, .unset, .unset, .unset, .unset, .unset, .unset] [(.long sb)])) _
        refine st2 _ ?_
        show Steps p.tables e below (T2.setTop (mkF m 39 #[.val (.long va), .second, .val (.long sa), .second, .val (.long vb), .second, .val (.long sb), .second, .val (.long vc), .second, .val (.long sc), .second, .val (.int (((1 : Int32) + (1 : Int32)) + (1 : Int32))), .val (.long u1), .second, .unset, .unset, .unset, .unset, .unset, .unset, .unset, .unset, .unset, .unset, .unset, .unset, .unset, .unset, .unset] [(.long u2)])) _
        refine XS.lstore X2.here hx rfl (hb hby at_39) rfl (l' := #[.val (.long va), .second, .val (.long sa), .second, .val (.long vb), .second, .val (.long sb), .second, .val (.long vc), .second, .val (.long sc), .second, .val (.int (((1 : Int32) + (1 : Int32)) + (1 : Int32))), .val (.long u1), .second, .val (.long u2), .second, .unset, .unset, .unset, .unset, .unset, .unset, .unset, .unset, .unset, .unset, .unset, .unset, .unset]) rfl ?_
        show Steps p.tables e below (T2.setTop (mkF m 41 #[.val (.long va), .second, .val (.long sa), .second, .val (.long vb), .second, .val (.long sb), .second, .val (.long vc), .second, .val (.long sc), .second, .val (.int (((1 : Int32) + (1 : Int32)) + (1 : Int32))), .val (.long u1), .second, .val (.long u2), .second, .unset, .unset, .unset, .unset, .unset, .unset, .unset, .unset, .unset, .unset, .unset, .unset, .unset] [])) _
        refine XS.lload X2.here hx rfl (hb hby at_41) rfl ?_
        show Steps p.tables e below (T2.setTop (mkF m 43 #[.val (.long va), .second, .val (.long sa), .second, .val (.long vb), .second, .val (.long sb), .second, .val (.long vc), .second, .val (.long sc), .second, .val (.int (((1 : Int32) + (1 : Int32)) + (1 : Int32))), .val (.long u1), .second, .val (.long u2), .second, .unset, .unset, .unset, .unset, .unset, .unset, .unset, .unset, .unset, .unset, .unset, .unset, .unset] [(.long sc)])) _
        refine st3 _ ?_
        show Steps p.tables e below (T3.setTop (mkF m 46 #[.val (.long va), .second, .val (.long sa), .second, .val (.long vb), .second, .val (.long sb), .second, .val (.long vc), .second, .val (.long sc), .second, .val (.int (((1 : Int32) + (1 : Int32)) + (1 : Int32))), .val (.long u1), .second, .val (.long u2), .second, .unset, .unset, .unset, .unset, .unset, .unset, .unset, .unset, .unset, .unset, .unset, .unset, .unset] [(.long u3)])) _
        refine XS.lstore X3.here hx rfl (hb hby at_46) rfl (l' := #[.val (.long va), .second, .val (.long sa), .second, .val (.long vb), .second, .val (.long sb), .second, .val (.long vc), .second, .val (.long sc), .second, .val (.int (((1 : Int32) + (1 : Int32)) + (1 : Int32))), .val (.long u1), .second, .val (.long u2), .second, .val (.long u3), .second, .unset, .unset, .unset, .unset, .unset, .unset, .unset, .unset, .unset, .unset, .unset]) rfl ?_
        show Steps p.tables e below (T3.setTop (mkF m 48 #[.val (.long va), .second, .val (.long sa), .second, .val (.long vb), .second, .val (.long sb), .second, .val (.long vc), .second, .val (.long sc), .second, .val (.int (((1 : Int32) + (1 : Int32)) + (1 : Int32))), .val (.long u1), .second, .val (.long u2), .second, .val (.long u3), .second, .unset, .unset, .unset, .unset, .unset, .unset, .unset, .unset, .unset, .unset, .unset] [])) _
        refine XS.lloadN X3.here hx rfl (hb hby at_48) rfl ?_
        show Steps p.tables e below (T3.setTop (mkF m 49 #[.val (.long va), .second, .val (.long sa), .second, .val (.long vb), .second, .val (.long sb), .second, .val (.long vc), .second, .val (.long sc), .second, .val (.int (((1 : Int32) + (1 : Int32)) + (1 : Int32))), .val (.long u1), .second, .val (.long u2), .second, .val (.long u3), .second, .unset, .unset, .unset, .unset, .unset, .unset, .unset, .unset, .unset, .unset, .unset] [(.long va)])) _
        refine XS.l2dS X3.here hx rfl (hb hby at_49) rfl (v := FP.l2d va) rfl ?_
        show Steps p.tables e below (T3.setTop (mkF m 50 #[.val (.long va), .second, .val (.long sa), .second, .val (.long vb), .second, .val (.long sb), .second, .val (.long vc), .second, .val (.long sc), .second, .val (.int (((1 : Int32) + (1 : Int32)) + (1 : Int32))), .val (.long u1), .second, .val (.long u2), .second, .val (.long u3), .second, .unset, .unset, .unset, .unset, .unset, .unset, .unset, .unset, .unset, .unset, .unset] [(.double (FP.l2d va))])) _
        refine XS.lload X3.here hx rfl (hb hby at_50) rfl ?_
        show Steps p.tables e below (T3.setTop (mkF m 52 #[.val (.long va), .second, .val (.long sa), .second, .val (.long vb), .second, .val (.long sb), .second, .val (.long vc), .second, .val (.long sc), .second, .val (.int (((1 : Int32) + (1 : Int32)) + (1 : Int32))), .val (.long u1), .second, .val (.long u2), .second, .val (.long u3), .second, .unset, .unset, .unset, .unset, .unset, .unset, .unset, .unset, .unset, .unset, .unset] [(.long u1), (.double (FP.l2d va))])) _
        refine XS.l2dS X3.here hx rfl (hb hby at_52) rfl (v := FP.l2d u1) rfl ?_
        show Steps p.tables e below (T3.setTop (mkF m 53 #[.val (.long va), .second, .val (.long sa), .second, .val (.long vb), .second, .val (.long sb), .second, .val (.long vc), .second, .val (.long sc), .second, .val (.int (((1 : Int32) + (1 : Int32)) + (1 : Int32))), .val (.long u1), .second, .val (.long u2), .second, .val (.long u3), .second, .unset, .unset, .unset, .unset, .unset, .unset, .unset, .unset, .unset, .unset, .unset] [(.double (FP.l2d u1)), (.double (FP.l2d va))])) _
        refine XS.ddivS X3.here hx rfl (hb hby at_53) rfl (Jvm.Own.nn (own_q va u1 p1)) (v := FP.ddiv (FP.l2d va) (FP.l2d u1)) rfl ?_
        show Steps p.tables e below (T3.setTop (mkF m 54 #[.val (.long va), .second, .val (.long sa), .second, .val (.long vb), .second, .val (.long sb), .second, .val (.long vc), .second, .val (.long sc), .second, .val (.int (((1 : Int32) + (1 : Int32)) + (1 : Int32))), .val (.long u1), .second, .val (.long u2), .second, .val (.long u3), .second, .unset, .unset, .unset, .unset, .unset, .unset, .unset, .unset, .unset, .unset, .unset] [(.double (FP.ddiv (FP.l2d va) (FP.l2d u1)))])) _
        refine XS.dstore X3.here hx rfl (hb hby at_54) rfl (l' := #[.val (.long va), .second, .val (.long sa), .second, .val (.long vb), .second, .val (.long sb), .second, .val (.long vc), .second, .val (.long sc), .second, .val (.int (((1 : Int32) + (1 : Int32)) + (1 : Int32))), .val (.long u1), .second, .val (.long u2), .second, .val (.long u3), .second, .val (.double (FP.ddiv (FP.l2d va) (FP.l2d u1))), .second, .unset, .unset, .unset, .unset, .unset, .unset, .unset, .unset, .unset]) rfl ?_
        show Steps p.tables e below (T3.setTop (mkF m 56 #[.val (.long va), .second, .val (.long sa), .second, .val (.long vb), .second, .val (.long sb), .second, .val (.long vc), .second, .val (.long sc), .second, .val (.int (((1 : Int32) + (1 : Int32)) + (1 : Int32))), .val (.long u1), .second, .val (.long u2), .second, .val (.long u3), .second, .val (.double (FP.ddiv (FP.l2d va) (FP.l2d u1))), .second, .unset, .unset, .unset, .unset, .unset, .unset, .unset, .unset, .unset] [])) _
        refine XS.lload X3.here hx rfl (hb hby at_56) rfl ?_
        show Steps p.tables e below (T3.setTop (mkF m 58 #[.val (.long va), .second, .val (.long sa), .second, .val (.long vb), .second, .val (.long sb), .second, .val (.long vc), .second, .val (.long sc), .second, .val (.int (((1 : Int32) + (1 : Int32)) + (1 : Int32))), .val (.long u1), .second, .val (.long u2), .second, .val (.long u3), .second, .val (.double (FP.ddiv (FP.l2d va) (FP.l2d u1))), .second, .unset, .unset, .unset, .unset, .unset, .unset, .unset, .unset, .unset] [(.long vb)])) _
        refine XS.l2dS X3.here hx rfl (hb hby at_58) rfl (v := FP.l2d vb) rfl ?_
        show Steps p.tables e below (T3.setTop (mkF m 59 #[.val (.long va), .second, .val (.long sa), .second, .val (.long vb), .second, .val (.long sb), .second, .val (.long vc), .second, .val (.long sc), .second, .val (.int (((1 : Int32) + (1 : Int32)) + (1 : Int32))), .val (.long u1), .second, .val (.long u2), .second, .val (.long u3), .second, .val (.double (FP.ddiv (FP.l2d va) (FP.l2d u1))), .second, .unset, .unset, .unset, .unset, .unset, .unset, .unset, .unset, .unset] [(.double (FP.l2d vb))])) _
        refine XS.lload X3.here hx rfl (hb hby at_59) rfl ?_
        show Steps p.tables e below (T3.setTop (mkF m 61 #[.val (.long va), .second, .val (.long sa), .second, .val (.long vb), .second, .val (.long sb), .second, .val (.long vc), .second, .val (.long sc), .second, .val (.int (((1 : Int32) + (1 : Int32)) + (1 : Int32))), .val (.long u1), .second, .val (.long u2), .second, .val (.long u3), .second, .val (.double (FP.ddiv (FP.l2d va) (FP.l2d u1))), .second, .unset, .unset, .unset, .unset, .unset, .unset, .unset, .unset, .unset] [(.long u2), (.double (FP.l2d vb))])) _
        refine XS.l2dS X3.here hx rfl (hb hby at_61) rfl (v := FP.l2d u2) rfl ?_
        show Steps p.tables e below (T3.setTop (mkF m 62 #[.val (.long va), .second, .val (.long sa), .second, .val (.long vb), .second, .val (.long sb), .second, .val (.long vc), .second, .val (.long sc), .second, .val (.int (((1 : Int32) + (1 : Int32)) + (1 : Int32))), .val (.long u1), .second, .val (.long u2), .second, .val (.long u3), .second, .val (.double (FP.ddiv (FP.l2d va) (FP.l2d u1))), .second, .unset, .unset, .unset, .unset, .unset, .unset, .unset, .unset, .unset] [(.double (FP.l2d u2)), (.double (FP.l2d vb))])) _
        refine XS.ddivS X3.here hx rfl (hb hby at_62) rfl (Jvm.Own.nn (own_q vb u2 p2)) (v := FP.ddiv (FP.l2d vb) (FP.l2d u2)) rfl ?_
        show Steps p.tables e below (T3.setTop (mkF m 63 #[.val (.long va), .second, .val (.long sa), .second, .val (.long vb), .second, .val (.long sb), .second, .val (.long vc), .second, .val (.long sc), .second, .val (.int (((1 : Int32) + (1 : Int32)) + (1 : Int32))), .val (.long u1), .second, .val (.long u2), .second, .val (.long u3), .second, .val (.double (FP.ddiv (FP.l2d va) (FP.l2d u1))), .second, .unset, .unset, .unset, .unset, .unset, .unset, .unset, .unset, .unset] [(.double (FP.ddiv (FP.l2d vb) (FP.l2d u2)))])) _
        refine XS.dstore X3.here hx rfl (hb hby at_63) rfl (l' := #[.val (.long va), .second, .val (.long sa), .second, .val (.long vb), .second, .val (.long sb), .second, .val (.long vc), .second, .val (.long sc), .second, .val (.int (((1 : Int32) + (1 : Int32)) + (1 : Int32))), .val (.long u1), .second, .val (.long u2), .second, .val (.long u3), .second, .val (.double (FP.ddiv (FP.l2d va) (FP.l2d u1))), .second, .val (.double (FP.ddiv (FP.l2d vb) (FP.l2d u2))), .second, .unset, .unset, .unset, .unset, .unset, .unset, .unset]) rfl ?_
        show Steps p.tables e below (T3.setTop (mkF m 65 #[.val (.long va), .second, .val (.long sa), .second, .val (.long vb), .second, .val (.long sb), .second, .val (.long vc), .second, .val (.long sc), .second, .val (.int (((1 : Int32) + (1 : Int32)) + (1 : Int32))), .val (.long u1), .second, .val (.long u2), .second, .val (.long u3), .second, .val (.double (FP.ddiv (FP.l2d va) (FP.l2d u1))), .second, .val (.double (FP.ddiv (FP.l2d vb) (FP.l2d u2))), .second, .unset, .unset, .unset, .unset, .unset, .unset, .unset] [])) _
        refine XS.lload X3.here hx rfl (hb hby at_65) rfl ?_
        show Steps p.tables e below (T3.setTop (mkF m 67 #[.val (.long va), .second, .val (.long sa), .second, .val (.long vb), .second, .val (.long sb), .second, .val (.long vc), .second, .val (.long sc), .second, .val (.int (((1 : Int32) + (1 : Int32)) + (1 : Int32))), .val (.long u1), .second, .val (.long u2), .second, .val (.long u3), .second, .val (.double (FP.ddiv (FP.l2d va) (FP.l2d u1))), .second, .val (.double (FP.ddiv (FP.l2d vb) (FP.l2d u2))), .second, .unset, .unset, .unset, .unset, .unset, .unset, .unset] [(.long vc)])) _
        refine XS.l2dS X3.here hx rfl (hb hby at_67) rfl (v := FP.l2d vc) rfl ?_
        show Steps p.tables e below (T3.setTop (mkF m 68 #[.val (.long va), .second, .val (.long sa), .second, .val (.long vb), .second, .val (.long sb), .second, .val (.long vc), .second, .val (.long sc), .second, .val (.int (((1 : Int32) + (1 : Int32)) + (1 : Int32))), .val (.long u1), .second, .val (.long u2), .second, .val (.long u3), .second, .val (.double (FP.ddiv (FP.l2d va) (FP.l2d u1))), .second, .val (.double (FP.ddiv (FP.l2d vb) (FP.l2d u2))), .second, .unset, .unset, .unset, .unset, .unset, .unset, .unset] [(.double (FP.l2d vc))])) _
        refine XS.lload X3.here hx rfl (hb hby at_68) rfl ?_
        show Steps p.tables e below (T3.setTop (mkF m 70 #[.val (.long va), .second, .val (.long sa), .second, .val (.long vb), .second, .val (.long sb), .second, .val (.long vc), .second, .val (.long sc), .second, .val (.int (((1 : Int32) + (1 : Int32)) + (1 : Int32))), .val (.long u1), .second, .val (.long u2), .second, .val (.long u3), .second, .val (.double (FP.ddiv (FP.l2d va) (FP.l2d u1))), .second, .val (.double (FP.ddiv (FP.l2d vb) (FP.l2d u2))), .second, .unset, .unset, .unset, .unset, .unset, .unset, .unset] [(.long u3), (.double (FP.l2d vc))])) _
        refine XS.l2dS X3.here hx rfl (hb hby at_70) rfl (v := FP.l2d u3) rfl ?_
        show Steps p.tables e below (T3.setTop (mkF m 71 #[.val (.long va), .second, .val (.long sa), .second, .val (.long vb), .second, .val (.long sb), .second, .val (.long vc), .second, .val (.long sc), .second, .val (.int (((1 : Int32) + (1 : Int32)) + (1 : Int32))), .val (.long u1), .second, .val (.long u2), .second, .val (.long u3), .second, .val (.double (FP.ddiv (FP.l2d va) (FP.l2d u1))), .second, .val (.double (FP.ddiv (FP.l2d vb) (FP.l2d u2))), .second, .unset, .unset, .unset, .unset, .unset, .unset, .unset] [(.double (FP.l2d u3)), (.double (FP.l2d vc))])) _
        refine XS.ddivS X3.here hx rfl (hb hby at_71) rfl (Jvm.Own.nn (own_q vc u3 p3)) (v := FP.ddiv (FP.l2d vc) (FP.l2d u3)) rfl ?_
        show Steps p.tables e below (T3.setTop (mkF m 72 #[.val (.long va), .second, .val (.long sa), .second, .val (.long vb), .second, .val (.long sb), .second, .val (.long vc), .second, .val (.long sc), .second, .val (.int (((1 : Int32) + (1 : Int32)) + (1 : Int32))), .val (.long u1), .second, .val (.long u2), .second, .val (.long u3), .second, .val (.double (FP.ddiv (FP.l2d va) (FP.l2d u1))), .second, .val (.double (FP.ddiv (FP.l2d vb) (FP.l2d u2))), .second, .unset, .unset, .unset, .unset, .unset, .unset, .unset] [(.double (FP.ddiv (FP.l2d vc) (FP.l2d u3)))])) _
        refine XS.dstore X3.here hx rfl (hb hby at_72) rfl (l' := #[.val (.long va), .second, .val (.long sa), .second, .val (.long vb), .second, .val (.long sb), .second, .val (.long vc), .second, .val (.long sc), .second, .val (.int (((1 : Int32) + (1 : Int32)) + (1 : Int32))), .val (.long u1), .second, .val (.long u2), .second, .val (.long u3), .second, .val (.double (FP.ddiv (FP.l2d va) (FP.l2d u1))), .second, .val (.double (FP.ddiv (FP.l2d vb) (FP.l2d u2))), .second, .val (.double (FP.ddiv (FP.l2d vc) (FP.l2d u3))), .second, .unset, .unset, .unset, .unset, .unset]) rfl ?_
        show Steps p.tables e below (T3.setTop (mkF m 74 #[.val (.long va), .second, .val (.long sa), .second, .val (.long vb), .second, .val (.long sb), .second, .val (.long vc), .second, .val (.long sc), .second, .val (.int (((1 : Int32) + (1 : Int32)) + (1 : Int32))), .val (.long u1), .second, .val (.long u2), .second, .val (.long u3), .second, .val (.double (FP.ddiv (FP.l2d va) (FP.l2d u1))), .second, .val (.double (FP.ddiv (FP.l2d vb) (FP.l2d u2))), .second, .val (.double (FP.ddiv (FP.l2d vc) (FP.l2d u3))), .second, .unset, .unset, .unset, .unset, .unset] [])) _
        refine st4 _ ?_
        show Steps p.tables e below (T4.setTop (mkF m 77 #[.val (.long va), .second, .val (.long sa), .second, .val (.long vb), .second, .val (.long sb), .second, .val (.long vc), .second, .val (.long sc), .second, .val (.int (((1 : Int32) + (1 : Int32)) + (1 : Int32))), .val (.long u1), .second, .val (.long u2), .second, .val (.long u3), .second, .val (.double (FP.ddiv (FP.l2d va) (FP.l2d u1))), .second, .val (.double (FP.ddiv (FP.l2d vb) (FP.l2d u2))), .second, .val (.double (FP.ddiv (FP.l2d vc) (FP.l2d u3))), .second, .unset, .unset, .unset, .unset, .unset] [(.ref a4)])) _
        refine XS.dup X4.here hx rfl (hb hby at_77) rfl rfl ?_
        show Steps p.tables e below (T4.setTop (mkF m 78 #[.val (.long va), .second, .val (.long sa), .second, .val (.long vb), .second, .val (.long sb), .second, .val (.long vc), .second, .val (.long sc), .second, .val (.int (((1 : Int32) + (1 : Int32)) + (1 : Int32))), .val (.long u1), .second, .val (.long u2), .second, .val (.long u3), .second, .val (.double (FP.ddiv (FP.l2d va) (FP.l2d u1))), .second, .val (.double (FP.ddiv (FP.l2d vb) (FP.l2d u2))), .second, .val (.double (FP.ddiv (FP.l2d vc) (FP.l2d u3))), .second, .unset, .unset, .unset, .unset, .unset] [(.ref a4), (.ref a4)])) _
        refine st5.trans ?_
        show Steps p.tables e below (T5.setTop (mkF m 81 #[.val (.long va), .second, .val (.long sa), .second, .val (.long vb), .second, .val (.long sb), .second, .val (.long vc), .second, .val (.long sc), .second, .val (.int (((1 : Int32) + (1 : Int32)) + (1 : Int32))), .val (.long u1), .second, .val (.long u2), .second, .val (.long u3), .second, .val (.double (FP.ddiv (FP.l2d va) (FP.l2d u1))), .second, .val (.double (FP.ddiv (FP.l2d vb) (FP.l2d u2))), .second, .val (.double (FP.ddiv (FP.l2d vc) (FP.l2d u3))), .second, .unset, .unset, .unset, .unset, .unset] [(.ref a4)])) _
        refine XS.astore X5.here hx rfl (hb hby at_81) rfl rfl (l' := #[.val (.long va), .second, .val (.long sa), .second, .val (.long vb), .second, .val (.long sb), .second, .val (.long vc), .second, .val (.long sc), .second, .val (.int (((1 : Int32) + (1 : Int32)) + (1 : Int32))), .val (.long u1), .second, .val (.long u2), .second, .val (.long u3), .second, .val (.double (FP.ddiv (FP.l2d va) (FP.l2d u1))), .second, .val (.double (FP.ddiv (FP.l2d vb) (FP.l2d u2))), .second, .val (.double (FP.ddiv (FP.l2d vc) (FP.l2d u3))), .second, .val (.ref a4), .unset, .unset, .unset, .unset]) rfl ?_
        show Steps p.tables e below (T5.setTop (mkF m 83 #[.val (.long va), .second, .val (.long sa), .second, .val (.long vb), .second, .val (.long sb), .second, .val (.long vc), .second, .val (.long sc), .second, .val (.int (((1 : Int32) + (1 : Int32)) + (1 : Int32))), .val (.long u1), .second, .val (.long u2), .second, .val (.long u3), .second, .val (.double (FP.ddiv (FP.l2d va) (FP.l2d u1))), .second, .val (.double (FP.ddiv (FP.l2d vb) (FP.l2d u2))), .second, .val (.double (FP.ddiv (FP.l2d vc) (FP.l2d u3))), .second, .val (.ref a4), .unset, .unset, .unset, .unset] [])) _
        refine XS.aload X5.here hx rfl (hb hby at_83) rfl rfl ?_
        show Steps p.tables e below (T5.setTop (mkF m 85 #[.val (.long va), .second, .val (.long sa), .second, .val (.long vb), .second, .val (.long sb), .second, .val (.long vc), .second, .val (.long sc), .second, .val (.int (((1 : Int32) + (1 : Int32)) + (1 : Int32))), .val (.long u1), .second, .val (.long u2), .second, .val (.long u3), .second, .val (.double (FP.ddiv (FP.l2d va) (FP.l2d u1))), .second, .val (.double (FP.ddiv (FP.l2d vb) (FP.l2d u2))), .second, .val (.double (FP.ddiv (FP.l2d vc) (FP.l2d u3))), .second, .val (.ref a4), .unset, .unset, .unset, .unset] [(.ref a4)])) _
        refine XS.lloadN X5.here hx rfl (hb hby at_85) rfl ?_
        show Steps p.tables e below (T5.setTop (mkF m 86 #[.val (.long va), .second, .val (.long sa), .second, .val (.long vb), .second, .val (.long sb), .second, .val (.long vc), .second, .val (.long sc), .second, .val (.int (((1 : Int32) + (1 : Int32)) + (1 : Int32))), .val (.long u1), .second, .val (.long u2), .second, .val (.long u3), .second, .val (.double (FP.ddiv (FP.l2d va) (FP.l2d u1))), .second, .val (.double (FP.ddiv (FP.l2d vb) (FP.l2d u2))), .second, .val (.double (FP.ddiv (FP.l2d vc) (FP.l2d u3))), .second, .val (.ref a4), .unset, .unset, .unset, .unset] [(.long va), (.ref a4)])) _
        refine XS.lload X5.here hx rfl (hb hby at_86) rfl ?_
        show Steps p.tables e below (T5.setTop (mkF m 88 #[.val (.long va), .second, .val (.long sa), .second, .val (.long vb), .second, .val (.long sb), .second, .val (.long vc), .second, .val (.long sc), .second, .val (.int (((1 : Int32) + (1 : Int32)) + (1 : Int32))), .val (.long u1), .second, .val (.long u2), .second, .val (.long u3), .second, .val (.double (FP.ddiv (FP.l2d va) (FP.l2d u1))), .second, .val (.double (FP.ddiv (FP.l2d vb) (FP.l2d u2))), .second, .val (.double (FP.ddiv (FP.l2d vc) (FP.l2d u3))), .second, .val (.ref a4), .unset, .unset, .unset, .unset] [(.long u1), (.long va), (.ref a4)])) _
        refine st6.trans ?_
        show Steps p.tables e below (T6.setTop (mkF m 91 #[.val (.long va), .second, .val (.long sa), .second, .val (.long vb), .second, .val (.long sb), .second, .val (.long vc), .second, .val (.long sc), .second, .val (.int (((1 : Int32) + (1 : Int32)) + (1 : Int32))), .val (.long u1), .second, .val (.long u2), .second, .val (.long u3), .second, .val (.double (FP.ddiv (FP.l2d va) (FP.l2d u1))), .second, .val (.double (FP.ddiv (FP.l2d vb) (FP.l2d u2))), .second, .val (.double (FP.ddiv (FP.l2d vc) (FP.l2d u3))), .second, .val (.ref a4), .unset, .unset, .unset, .unset] [])) _
        refine XS.iload X6.here hx rfl (hb hby at_91) rfl ?_
        show Steps p.tables e below (T6.setTop (mkF m 93 #[.val (.long va), .second, .val (.long sa), .second, .val (.long vb), .second, .val (.long sb), .second, .val (.long vc), .second, .val (.long sc), .second, .val (.int (((1 : Int32) + (1 : Int32)) + (1 : Int32))), .val (.long u1), .second, .val (.long u2), .second, .val (.long u3), .second, .val (.double (FP.ddiv (FP.l2d va) (FP.l2d u1))), .second, .val (.double (FP.ddiv (FP.l2d vb) (FP.l2d u2))), .second, .val (.double (FP.ddiv (FP.l2d vc) (FP.l2d u3))), .second, .val (.ref a4), .unset, .unset, .unset, .unset] [(.int (((1 : Int32) + (1 : Int32)) + (1 : Int32)))])) _
        refine XS.iconst X6.here hx rfl (hb hby at_93) ?_
        show Steps p.tables e below (T6.setTop (mkF m 94 #[.val (.long va), .second, .val (.long sa), .second, .val (.long vb), .second, .val (.long sb), .second, .val (.long vc), .second, .val (.long sc), .second, .val (.int (((1 : Int32) + (1 : Int32)) + (1 : Int32))), .val (.long u1), .second, .val (.long u2), .second, .val (.long u3), .second, .val (.double (FP.ddiv (FP.l2d va) (FP.l2d u1))), .second, .val (.double (FP.ddiv (FP.l2d vb) (FP.l2d u2))), .second, .val (.double (FP.ddiv (FP.l2d vc) (FP.l2d u3))), .second, .val (.ref a4), .unset, .unset, .unset, .unset] [(.int (2 : Int32)), (.int (((1 : Int32) + (1 : Int32)) + (1 : Int32)))])) _
        refine XS.icmpNo X6.here hx rfl (hb hby at_94) rfl rfl ?_
        show Steps p.tables e below (T6.setTop (mkF m 97 #[.val (.long va), .second, .val (.long sa), .second, .val (.long vb), .second, .val (.long sb), .second, .val (.long vc), .second, .val (.long sc), .second, .val (.int (((1 : Int32) + (1 : Int32)) + (1 : Int32))), .val (.long u1), .second, .val (.long u2), .second, .val (.long u3), .second, .val (.double (FP.ddiv (FP.l2d va) (FP.l2d u1))), .second, .val (.double (FP.ddiv (FP.l2d vb) (FP.l2d u2))), .second, .val (.double (FP.ddiv (FP.l2d vc) (FP.l2d u3))), .second, .val (.ref a4), .unset, .unset, .unset, .unset] [])) _
        refine XS.aload X6.here hx rfl (hb hby at_97) rfl rfl ?_
        show Steps p.tables e below (T6.setTop (mkF m 99 #[.val (.long va), .second, .val (.long sa), .second, .val (.long vb), .second, .val (.long sb), .second, .val (.long vc), .second, .val (.long sc), .second, .val (.int (((1 : Int32) + (1 : Int32)) + (1 : Int32))), .val (.long u1), .second, .val (.long u2), .second, .val (.long u3), .second, .val (.double (FP.ddiv (FP.l2d va) (FP.l2d u1))), .second, .val (.double (FP.ddiv (FP.l2d vb) (FP.l2d u2))), .second, .val (.double (FP.ddiv (FP.l2d vc) (FP.l2d u3))), .second, .val (.ref a4), .unset, .unset, .unset, .unset] [(.ref a4)])) _
        refine XS.lload X6.here hx rfl (hb hby at_99) rfl ?_
        show Steps p.tables e below (T6.setTop (mkF m 101 #[.val (.long va), .second, .val (.long sa), .second, .val (.long vb), .second, .val (.long sb), .second, .val (.long vc), .second, .val (.long sc), .second, .val (.int (((1 : Int32) + (1 : Int32)) + (1 : Int32))), .val (.long u1), .second, .val (.long u2), .second, .val (.long u3), .second, .val (.double (FP.ddiv (FP.l2d va) (FP.l2d u1))), .second, .val (.double (FP.ddiv (FP.l2d vb) (FP.l2d u2))), .second, .val (.double (FP.ddiv (FP.l2d vc) (FP.l2d u3))), .second, .val (.ref a4), .unset, .unset, .unset, .unset] [(.long vb), (.ref a4)])) _
        refine XS.lload X6.here hx rfl (hb hby at_101) rfl ?_
        show Steps p.tables e below (T6.setTop (mkF m 103 #[.val (.long va), .second, .val (.long sa), .second, .val (.long vb), .second, .val (.long sb), .second, .val (.long vc), .second, .val (.long sc), .second, .val (.int (((1 : Int32) + (1 : Int32)) + (1 : Int32))), .val (.long u1), .second, .val (.long u2), .second, .val (.long u3), .second, .val (.double (FP.ddiv (FP.l2d va) (FP.l2d u1))), .second, .val (.double (FP.ddiv (FP.l2d vb) (FP.l2d u2))), .second, .val (.double (FP.ddiv (FP.l2d vc) (FP.l2d u3))), .second, .val (.ref a4), .unset, .unset, .unset, .unset] [(.long u2), (.long vb), (.ref a4)])) _
        refine st17.trans ?_
        show Steps p.tables e below (T17.setTop (mkF m 106 #[.val (.long va), .second, .val (.long sa), .second, .val (.long vb), .second, .val (.long sb), .second, .val (.long vc), .second, .val (.long sc), .second, .val (.int (((1 : Int32) + (1 : Int32)) + (1 : Int32))), .val (.long u1), .second, .val (.long u2), .second, .val (.long u3), .second, .val (.double (FP.ddiv (FP.l2d va) (FP.l2d u1))), .second, .val (.double (FP.ddiv (FP.l2d vb) (FP.l2d u2))), .second, .val (.double (FP.ddiv (FP.l2d vc) (FP.l2d u3))), .second, .val (.ref a4), .unset, .unset, .unset, .unset] [])) _
        refine XS.iload X17.here hx rfl (hb hby at_106) rfl ?_
        show Steps p.tables e below (T17.setTop (mkF m 108 #[.val (.long va), .second, .val (.long sa), .second, .val (.long vb), .second, .val (.long sb), .second, .val (.long vc), .second, .val (.long sc), .second, .val (.int (((1 : Int32) + (1 : Int32)) + (1 : Int32))), .val (.long u1), .second, .val (.long u2), .second, .val (.long u3), .second, .val (.double (FP.ddiv (FP.l2d va) (FP.l2d u1))), .second, .val (.double (FP.ddiv (FP.l2d vb) (FP.l2d u2))), .second, .val (.double (FP.ddiv (FP.l2d vc) (FP.l2d u3))), .second, .val (.ref a4), .unset, .unset, .unset, .unset] [(.int (((1 : Int32) + (1 : Int32)) + (1 : Int32)))])) _
        refine XS.iconst X17.here hx rfl (hb hby at_108) ?_
        show Steps p.tables e below (T17.setTop (mkF m 109 #[.val (.long va), .second, .val (.long sa), .second, .val (.long vb), .second, .val (.long sb), .second, .val (.long vc), .second, .val (.long sc), .second, .val (.int (((1 : Int32) + (1 : Int32)) + (1 : Int32))), .val (.long u1), .second, .val (.long u2), .second, .val (.long u3), .second, .val (.double (FP.ddiv (FP.l2d va) (FP.l2d u1))), .second, .val (.double (FP.ddiv (FP.l2d vb) (FP.l2d u2))), .second, .val (.double (FP.ddiv (FP.l2d vc) (FP.l2d u3))), .second, .val (.ref a4), .unset, .unset, .unset, .unset] [(.int (3 : Int32)), (.int (((1 : Int32) + (1 : Int32)) + (1 : Int32)))])) _
        refine XS.icmpNo X17.here hx rfl (hb hby at_109) rfl rfl ?_
        show Steps p.tables e below (T17.setTop (mkF m 112 #[.val (.long va), .second, .val (.long sa), .second, .val (.long vb), .second, .val (.long sb), .second, .val (.long vc), .second, .val (.long sc), .second, .val (.int (((1 : Int32) + (1 : Int32)) + (1 : Int32))), .val (.long u1), .second, .val (.long u2), .second, .val (.long u3), .second, .val (.double (FP.ddiv (FP.l2d va) (FP.l2d u1))), .second, .val (.double (FP.ddiv (FP.l2d vb) (FP.l2d u2))), .second, .val (.double (FP.ddiv (FP.l2d vc) (FP.l2d u3))), .second, .val (.ref a4), .unset, .unset, .unset, .unset] [])) _
        refine XS.aload X17.here hx rfl (hb hby at_112) rfl rfl ?_
        show Steps p.tables e below (T17.setTop (mkF m 114 #[.val (.long va), .second, .val (.long sa), .second, .val (.long vb), .second, .val (.long sb), .second, .val (.long vc), .second, .val (.long sc), .second, .val (.int (((1 : Int32) + (1 : Int32)) + (1 : Int32))), .val (.long u1), .second, .val (.long u2), .second, .val (.long u3), .second, .val (.double (FP.ddiv (FP.l2d va) (FP.l2d u1))), .second, .val (.double (FP.ddiv (FP.l2d vb) (FP.l2d u2))), .second, .val (.double (FP.ddiv (FP.l2d vc) (FP.l2d u3))), .second, .val (.ref a4), .unset, .unset, .unset, .unset] [(.ref a4)])) _
        refine XS.lload X17.here hx rfl (hb hby at_114) rfl ?_
        show Steps p.tables e below (T17.setTop (mkF m 116 #[.val (.long va), .second, .val (.long sa), .second, .val (.long vb), .second, .val (.long sb), .second, .val (.long vc), .second, .val (.long sc), .second, .val (.int (((1 : Int32) + (1 : Int32)) + (1 : Int32))), .val (.long u1), .second, .val (.long u2), .second, .val (.long u3), .second, .val (.double (FP.ddiv (FP.l2d va) (FP.l2d u1))), .second, .val (.double (FP.ddiv (FP.l2d vb) (FP.l2d u2))), .second, .val (.double (FP.ddiv (FP.l2d vc) (FP.l2d u3))), .second, .val (.ref a4), .unset, .unset, .unset, .unset] [(.long vc), (.ref a4)])) _
        refine XS.lload X17.here hx rfl (hb hby at_116) rfl ?_
        show Steps p.tables e below (T17.setTop (mkF m 118 #[.val (.long va), .second, .val (.long sa), .second, .val (.long vb), .second, .val (.long sb), .second, .val (.long vc), .second, .val (.long sc), .second, .val (.int (((1 : Int32) + (1 : Int32)) + (1 : Int32))), .val (.long u1), .second, .val (.long u2), .second, .val (.long u3), .second, .val (.double (FP.ddiv (FP.l2d va) (FP.l2d u1))), .second, .val (.double (FP.ddiv (FP.l2d vb) (FP.l2d u2))), .second, .val (.double (FP.ddiv (FP.l2d vc) (FP.l2d u3))), .second, .val (.ref a4), .unset, .unset, .unset, .unset] [(.long u3), (.long vc), (.ref a4)])) _
        refine st27.trans ?_
        show Steps p.tables e below (T27.setTop (mkF m 121 #[.val (.long va), .second, .val (.long sa), .second, .val (.long vb), .second, .val (.long sb), .second, .val (.long vc), .second, .val (.long sc), .second, .val (.int (((1 : Int32) + (1 : Int32)) + (1 : Int32))), .val (.long u1), .second, .val (.long u2), .second, .val (.long u3), .second, .val (.double (FP.ddiv (FP.l2d va) (FP.l2d u1))), .second, .val (.double (FP.ddiv (FP.l2d vb) (FP.l2d u2))), .second, .val (.double (FP.ddiv (FP.l2d vc) (FP.l2d u3))), .second, .val (.ref a4), .unset, .unset, .unset, .unset] [])) _
        refine XS.dload X27.here hx rfl (hb hby at_121) rfl ?_
        show Steps p.tables e below (T27.setTop (mkF m 123 #[.val (.long va), .second, .val (.long sa), .second, .val (.long vb), .second, .val (.long sb), .second, .val (.long vc), .second, .val (.long sc), .second, .val (.int (((1 : Int32) + (1 : Int32)) + (1 : Int32))), .val (.long u1), .second, .val (.long u2), .second, .val (.long u3), .second, .val (.double (FP.ddiv (FP.l2d va) (FP.l2d u1))), .second, .val (.double (FP.ddiv (FP.l2d vb) (FP.l2d u2))), .second, .val (.double (FP.ddiv (FP.l2d vc) (FP.l2d u3))), .second, .val (.ref a4), .unset, .unset, .unset, .unset] [(.double (FP.ddiv (FP.l2d va) (FP.l2d u1)))])) _
        refine XS.dstore X27.here hx rfl (hb hby at_123) rfl (l' := #[.val (.long va), .second, .val (.long sa), .second, .val (.long vb), .second, .val (.long sb), .second, .val (.long vc), .second, .val (.long sc), .second, .val (.int (((1 : Int32) + (1 : Int32)) + (1 : Int32))), .val (.long u1), .second, .val (.long u2), .second, .val (.long u3), .second, .val (.double (FP.ddiv (FP.l2d va) (FP.l2d u1))), .second, .val (.double (FP.ddiv (FP.l2d vb) (FP.l2d u2))), .second, .val (.double (FP.ddiv (FP.l2d vc) (FP.l2d u3))), .second, .val (.ref a4), .val (.double (FP.ddiv (FP.l2d va) (FP.l2d u1))), .second, .unset, .unset]) rfl ?_
        show Steps p.tables e below (T27.setTop (mkF m 125 #[.val (.long va), .second, .val (.long sa), .second, .val (.long vb), .second, .val (.long sb), .second, .val (.long vc), .second, .val (.long sc), .second, .val (.int (((1 : Int32) + (1 : Int32)) + (1 : Int32))), .val (.long u1), .second, .val (.long u2), .second, .val (.long u3), .second, .val (.double (FP.ddiv (FP.l2d va) (FP.l2d u1))), .second, .val (.double (FP.ddiv (FP.l2d vb) (FP.l2d u2))), .second, .val (.double (FP.ddiv (FP.l2d vc) (FP.l2d u3))), .second, .val (.ref a4), .val (.double (FP.ddiv (FP.l2d va) (FP.l2d u1))), .second, .unset, .unset] [])) _
        refine XS.iload X27.here hx rfl (hb hby at_125) rfl ?_
        show Steps p.tables e below (T27.setTop (mkF m 127 #[.val (.long va), .second, .val (.long sa), .second, .val (.long vb), .second, .val (.long sb), .second, .val (.long vc), .second, .val (.long sc), .second, .val (.int (((1 : Int32) + (1 : Int32)) + (1 : Int32))), .val (.long u1), .second, .val (.long u2), .second, .val (.long u3), .second, .val (.double (FP.ddiv (FP.l2d va) (FP.l2d u1))), .second, .val (.double (FP.ddiv (FP.l2d vb) (FP.l2d u2))), .second, .val (.double (FP.ddiv (FP.l2d vc) (FP.l2d u3))), .second, .val (.ref a4), .val (.double (FP.ddiv (FP.l2d va) (FP.l2d u1))), .second, .unset, .unset] [(.int (((1 : Int32) + (1 : Int32)) + (1 : Int32)))])) _
        refine XS.iconst X27.here hx rfl (hb hby at_127) ?_
        show Steps p.tables e below (T27.setTop (mkF m 128 #[.val (.long va), .second, .val (.long sa), .second, .val (.long vb), .second, .val (.long sb), .second, .val (.long vc), .second, .val (.long sc), .second, .val (.int (((1 : Int32) + (1 : Int32)) + (1 : Int32))), .val (.long u1), .second, .val (.long u2), .second, .val (.long u3), .second, .val (.double (FP.ddiv (FP.l2d va) (FP.l2d u1))), .second, .val (.double (FP.ddiv (FP.l2d vb) (FP.l2d u2))), .second, .val (.double (FP.ddiv (FP.l2d vc) (FP.l2d u3))), .second, .val (.ref a4), .val (.double (FP.ddiv (FP.l2d va) (FP.l2d u1))), .second, .unset, .unset] [(.int (2 : Int32)), (.int (((1 : Int32) + (1 : Int32)) + (1 : Int32)))])) _
        refine XS.icmpNo X27.here hx rfl (hb hby at_128) rfl rfl ?_
        show Steps p.tables e below (T27.setTop (mkF m 131 #[.val (.long va), .second, .val (.long sa), .second, .val (.long vb), .second, .val (.long sb), .second, .val (.long vc), .second, .val (.long sc), .second, .val (.int (((1 : Int32) + (1 : Int32)) + (1 : Int32))), .val (.long u1), .second, .val (.long u2), .second, .val (.long u3), .second, .val (.double (FP.ddiv (FP.l2d va) (FP.l2d u1))), .second, .val (.double (FP.ddiv (FP.l2d vb) (FP.l2d u2))), .second, .val (.double (FP.ddiv (FP.l2d vc) (FP.l2d u3))), .second, .val (.ref a4), .val (.double (FP.ddiv (FP.l2d va) (FP.l2d u1))), .second, .unset, .unset] [])) _
        refine pick_0 _ _ _ _ _ _ _ _ _ _ 0 _ _ 0 _ _ _ m1_ X27 hx hby (own_q vb u2 p2) (own_q va u1 p1) hm1 _ ?_
        show Steps p.tables e below (T27.setTop (mkF m 143 #[.val (.long va), .second, .val (.long sa), .second, .val (.long vb), .second, .val (.long sb), .second, .val (.long vc), .second, .val (.long sc), .second, .val (.int (((1 : Int32) + (1 : Int32)) + (1 : Int32))), .val (.long u1), .second, .val (.long u2), .second, .val (.long u3), .second, .val (.double (FP.ddiv (FP.l2d va) (FP.l2d u1))), .second, .val (.double (FP.ddiv (FP.l2d vb) (FP.l2d u2))), .second, .val (.double (FP.ddiv (FP.l2d vc) (FP.l2d u3))), .second, .val (.ref a4), .val (.double m1_), .second, .unset, .unset] [])) _
        refine XS.iload X27.here hx rfl (hb hby at_143) rfl ?_
        show Steps p.tables e below (T27.setTop (mkF m 145 #[.val (.long va), .second, .val (.long sa), .second, .val (.long vb), .second, .val (.long sb), .second, .val (.long vc), .second, .val (.long sc), .second, .val (.int (((1 : Int32) + (1 : Int32)) + (1 : Int32))), .val (.long u1), .second, .val (.long u2), .second, .val (.long u3), .second, .val (.double (FP.ddiv (FP.l2d va) (FP.l2d u1))), .second, .val (.double (FP.ddiv (FP.l2d vb) (FP.l2d u2))), .second, .val (.double (FP.ddiv (FP.l2d vc) (FP.l2d u3))), .second, .val (.ref a4), .val (.double m1_), .second, .unset, .unset] [(.int (((1 : Int32) + (1 : Int32)) + (1 : Int32)))])) _
        refine XS.iconst X27.here hx rfl (hb hby at_145) ?_
        show Steps p.tables e below (T27.setTop (mkF m 146 #[.val (.long va), .second, .val (.long sa), .second, .val (.long vb), .second, .val (.long sb), .second, .val (.long vc), .second, .val (.long sc), .second, .val (.int (((1 : Int32) + (1 : Int32)) + (1 : Int32))), .val (.long u1), .second, .val (.long u2), .second, .val (.long u3), .second, .val (.double (FP.ddiv (FP.l2d va) (FP.l2d u1))), .second, .val (.double (FP.ddiv (FP.l2d vb) (FP.l2d u2))), .second, .val (.double (FP.ddiv (FP.l2d vc) (FP.l2d u3))), .second, .val (.ref a4), .val (.double m1_), .second, .unset, .unset] [(.int (3 : Int32)), (.int (((1 : Int32) + (1 : Int32)) + (1 : Int32)))])) _
        refine XS.icmpNo X27.here hx rfl (hb hby at_146) rfl rfl ?_
        show Steps p.tables e below (T27.setTop (mkF m 149 #[.val (.long va), .second, .val (.long sa), .second, .val (.long vb), .second, .val (.long sb), .second, .val (.long vc), .second, .val (.long sc), .second, .val (.int (((1 : Int32) + (1 : Int32)) + (1 : Int32))), .val (.long u1), .second, .val (.long u2), .second, .val (.long u3), .second, .val (.double (FP.ddiv (FP.l2d va) (FP.l2d u1))), .second, .val (.double (FP.ddiv (FP.l2d vb) (FP.l2d u2))), .second, .val (.double (FP.ddiv (FP.l2d vc) (FP.l2d u3))), .second, .val (.ref a4), .val (.double m1_), .second, .unset, .unset] [])) _
        refine pick_1 _ _ _ _ _ _ _ _ _ _ 0 _ _ 0 _ _ _ m2_ X27 hx hby (own_q vc u3 p3) fm1 hm2 _ ?_
        show Steps p.tables e below (T27.setTop (mkF m 161 #[.val (.long va), .second, .val (.long sa), .second, .val (.long vb), .second, .val (.long sb), .second, .val (.long vc), .second, .val (.long sc), .second, .val (.int (((1 : Int32) + (1 : Int32)) + (1 : Int32))), .val (.long u1), .second, .val (.long u2), .second, .val (.long u3), .second, .val (.double (FP.ddiv (FP.l2d va) (FP.l2d u1))), .second, .val (.double (FP.ddiv (FP.l2d vb) (FP.l2d u2))), .second, .val (.double (FP.ddiv (FP.l2d vc) (FP.l2d u3))), .second, .val (.ref a4), .val (.double m2_), .second, .unset, .unset] [])) _
        refine XS.aload X27.here hx rfl (hb hby at_161) rfl rfl ?_
        show Steps p.tables e below (T27.setTop (mkF m 163 #[.val (.long va), .second, .val (.long sa), .second, .val (.long vb), .second, .val (.long sb), .second, .val (.long vc), .second, .val (.long sc), .second, .val (.int (((1 : Int32) + (1 : Int32)) + (1 : Int32))), .val (.long u1), .second, .val (.long u2), .second, .val (.long u3), .second, .val (.double (FP.ddiv (FP.l2d va) (FP.l2d u1))), .second, .val (.double (FP.ddiv (FP.l2d vb) (FP.l2d u2))), .second, .val (.double (FP.ddiv (FP.l2d vc) (FP.l2d u3))), .second, .val (.ref a4), .val (.double m2_), .second, .unset, .unset] [(.ref a4)])) _
        refine st9.trans ?_
        show Steps p.tables e below (T9.setTop (mkF m 166 #[.val (.long va), .second, .val (.long sa), .second, .val (.long vb), .second, .val (.long sb), .second, .val (.long vc), .second, .val (.long sc), .second, .val (.int (((1 : Int32) + (1 : Int32)) + (1 : Int32))), .val (.long u1), .second, .val (.long u2), .second, .val (.long u3), .second, .val (.double (FP.ddiv (FP.l2d va) (FP.l2d u1))), .second, .val (.double (FP.ddiv (FP.l2d vb) (FP.l2d u2))), .second, .val (.double (FP.ddiv (FP.l2d vc) (FP.l2d u3))), .second, .val (.ref a4), .val (.double m2_), .second, .unset, .unset] [(.double w9)])) _
        refine XS.dstore X9.here hx rfl (hb hby at_166) rfl (l' := #[.val (.long va), .second, .val (.long sa), .second, .val (.long vb), .second, .val (.long sb), .second, .val (.long vc), .second, .val (.long sc), .second, .val (.int (((1 : Int32) + (1 : Int32)) + (1 : Int32))), .val (.long u1), .second, .val (.long u2), .second, .val (.long u3), .second, .val (.double (FP.ddiv (FP.l2d va) (FP.l2d u1))), .second, .val (.double (FP.ddiv (FP.l2d vb) (FP.l2d u2))), .second, .val (.double (FP.ddiv (FP.l2d vc) (FP.l2d u3))), .second, .val (.ref a4), .val (.double m2_), .second, .val (.double w9), .second]) rfl ?_
        show Steps p.tables e below (T9.setTop (mkF m 168 #[.val (.long va), .second, .val (.long sa), .second, .val (.long vb), .second, .val (.long sb), .second, .val (.long vc), .second, .val (.long sc), .second, .val (.int (((1 : Int32) + (1 : Int32)) + (1 : Int32))), .val (.long u1), .second, .val (.long u2), .second, .val (.long u3), .second, .val (.double (FP.ddiv (FP.l2d va) (FP.l2d u1))), .second, .val (.double (FP.ddiv (FP.l2d vb) (FP.l2d u2))), .second, .val (.double (FP.ddiv (FP.l2d vc) (FP.l2d u3))), .second, .val (.ref a4), .val (.double m2_), .second, .val (.double w9), .second] [])) _
        refine XS.dload X9.here hx rfl (hb hby at_168) rfl ?_
        show Steps p.tables e below (T9.setTop (mkF m 170 #[.val (.long va), .second, .val (.long sa), .second, .val (.long vb), .second, .val (.long sb), .second, .val (.long vc), .second, .val (.long sc), .second, .val (.int (((1 : Int32) + (1 : Int32)) + (1 : Int32))), .val (.long u1), .second, .val (.long u2), .second, .val (.long u3), .second, .val (.double (FP.ddiv (FP.l2d va) (FP.l2d u1))), .second, .val (.double (FP.ddiv (FP.l2d vb) (FP.l2d u2))), .second, .val (.double (FP.ddiv (FP.l2d vc) (FP.l2d u3))), .second, .val (.ref a4), .val (.double m2_), .second, .val (.double w9), .second] [(.double w9)])) _
        refine XS.dload X9.here hx rfl (hb hby at_170) rfl ?_
        show Steps p.tables e below (T9.setTop (mkF m 172 #[.val (.long va), .second, .val (.long sa), .second, .val (.long vb), .second, .val (.long sb), .second, .val (.long vc), .second, .val (.long sc), .second, .val (.int (((1 : Int32) + (1 : Int32)) + (1 : Int32))), .val (.long u1), .second, .val (.long u2), .second, .val (.long u3), .second, .val (.double (FP.ddiv (FP.l2d va) (FP.l2d u1))), .second, .val (.double (FP.ddiv (FP.l2d vb) (FP.l2d u2))), .second, .val (.double (FP.ddiv (FP.l2d vc) (FP.l2d u3))), .second, .val (.ref a4), .val (.double m2_), .second, .val (.double w9), .second] [(.double m2_), (.double w9)])) _
        refine XS.dcmpS X9.here hx rfl (hb hby at_172) rfl (v := Jvm.Op.cmpValue (FP.dcmp w9 m2_) .l) rfl ?_
        show Steps p.tables e below (T9.setTop (mkF m 173 #[.val (.long va), .second, .val (.long sa), .second, .val (.long vb), .second, .val (.long sb), .second, .val (.long vc), .second, .val (.long sc), .second, .val (.int (((1 : Int32) + (1 : Int32)) + (1 : Int32))), .val (.long u1), .second, .val (.long u2), .second, .val (.long u3), .second, .val (.double (FP.ddiv (FP.l2d va) (FP.l2d u1))), .second, .val (.double (FP.ddiv (FP.l2d vb) (FP.l2d u2))), .second, .val (.double (FP.ddiv (FP.l2d vc) (FP.l2d u3))), .second, .val (.ref a4), .val (.double m2_), .second, .val (.double w9), .second] [(.int (Jvm.Op.cmpValue (FP.dcmp w9 m2_) .l))])) _
        refine XS.ifNo X9.here hx rfl (hb hby at_173) rfl ((Jvm.Own.holdsD f9 fm2 _ _).trans (Jvm.Own.dF (fun q => q heq))) ?_
        show Steps p.tables e below (T9.setTop (mkF m 176 #[.val (.long va), .second, .val (.long sa), .second, .val (.long vb), .second, .val (.long sb), .second, .val (.long vc), .second, .val (.long sc), .second, .val (.int (((1 : Int32) + (1 : Int32)) + (1 : Int32))), .val (.long u1), .second, .val (.long u2), .second, .val (.long u3), .second, .val (.double (FP.ddiv (FP.l2d va) (FP.l2d u1))), .second, .val (.double (FP.ddiv (FP.l2d vb) (FP.l2d u2))), .second, .val (.double (FP.ddiv (FP.l2d vc) (FP.l2d u3))), .second, .val (.ref a4), .val (.double m2_), .second, .val (.double w9), .second] [])) _
        refine XS.iconst X9.here hx rfl (hb hby at_176) ?_
        show Steps p.tables e below (T9.setTop (mkF m 177 #[.val (.long va), .second, .val (.long sa), .second, .val (.long vb), .second, .val (.long sb), .second, .val (.long vc), .second, .val (.long sc), .second, .val (.int (((1 : Int32) + (1 : Int32)) + (1 : Int32))), .val (.long u1), .second, .val (.long u2), .second, .val (.long u3), .second, .val (.double (FP.ddiv (FP.l2d va) (FP.l2d u1))), .second, .val (.double (FP.ddiv (FP.l2d vb) (FP.l2d u2))), .second, .val (.double (FP.ddiv (FP.l2d vc) (FP.l2d u3))), .second, .val (.ref a4), .val (.double m2_), .second, .val (.double w9), .second] [(.int (1 : Int32))])) _
        refine XS.goto X9.here hx rfl (pc0 := 177) (pc' := 181) rfl (hb hby at_177) (by decide) (by decide) ?_
        show Steps p.tables e below (T9.setTop (mkF m 181 #[.val (.long va), .second, .val (.long sa), .second, .val (.long vb), .second, .val (.long sb), .second, .val (.long vc), .second, .val (.long sc), .second, .val (.int (((1 : Int32) + (1 : Int32)) + (1 : Int32))), .val (.long u1), .second, .val (.long u2), .second, .val (.long u3), .second, .val (.double (FP.ddiv (FP.l2d va) (FP.l2d u1))), .second, .val (.double (FP.ddiv (FP.l2d vb) (FP.l2d u2))), .second, .val (.double (FP.ddiv (FP.l2d vc) (FP.l2d u3))), .second, .val (.ref a4), .val (.double m2_), .second, .val (.double w9), .second] [(.int (1 : Int32))])) _
        exact retN X9 hx (t := .boolean) Bd.returns (by simp) (hb hby at_181) hr
      · show QL n0 _ T9.heap _
        exact ⟨rfl, Fr.app M27 N9⟩
    · obtain ⟨_, _, ⟨T1, L1, k1, n1⟩, -, X1, ⟨Lc1, hQ1, l1, y1, z1⟩, st1⟩ := Jvm.LawKit.callS X0 hx (y := (⟨"com/example/quadwarden/quadwarden/cli/PairedTimingsRatioMaxPinLaw", "positive", "(J)J"⟩ : MethodName)) hown (mvT hZ (hw _ (List.mem_of_getElem? (i := 0) rfl))) (mvT hZ (hw _ (List.mem_of_getElem? (i := 1) rfl))) (mvT hZ (hw _ (List.mem_of_getElem? (i := 2) rfl))) (mvT hZ (hw _ (List.mem_of_getElem? (i := 3) rfl))) (by decide) (backOf (W := 0) (rmPos l Z a0 hw [] sa h0 n0 Z0) hZ (hw _ (List.mem_of_getElem? (i := 3) rfl)) (hw _ (List.mem_of_getElem? (i := 2) rfl)) (by decide) (by decide)) (g := (mkF m 29 #[.val (.long va), .second, .val (.long sa), .second, .val (.long vb), .second, .val (.long sb), .second, .val (.long vc), .second, .val (.long sc), .second, .val (.int (((1 : Int32) + (1 : Int32)) + (0 : Int32))), .unset, .unset, .unset, .unset, .unset, .unset, .unset, .unset, .unset, .unset, .unset, .unset, .unset, .unset, .unset, .unset, .unset] [(.long sa)])) rfl (by rw [hml]; rfl) (argsL := [(.long sa)]) (rest := []) (lenOf pd_19 rfl) rfl (by show 2 * 0 + _ ≤ _; exact Nat.le_of_eq rfl) (hb hby at_29) (fun _ _ => ⟨rfl, e0, (by decide : 0 + 0 ≤ _), (by decide : 0 + 0 ≤ _)⟩)
      dsimp only [Pt.U, Pt.locs, Pt.cells, Pt.slots] at X1 l1 y1 z1 st1 hQ1
      subst l1 y1 z1
      obtain ⟨u1, rfl, N1, e1, p1⟩ := hQ1
      obtain ⟨_, _, ⟨T2, L2, k2, n2⟩, -, X2, ⟨Lc2, hQ2, l2, y2, z2⟩, st2⟩ := Jvm.LawKit.callS X1 hx (y := (⟨"com/example/quadwarden/quadwarden/cli/PairedTimingsRatioMaxPinLaw", "positive", "(J)J"⟩ : MethodName)) hown (mvT hZ (hw _ (List.mem_of_getElem? (i := 0) rfl))) (mvT hZ (hw _ (List.mem_of_getElem? (i := 1) rfl))) (mvT hZ (hw _ (List.mem_of_getElem? (i := 2) rfl))) (mvT hZ (hw _ (List.mem_of_getElem? (i := 3) rfl))) (by decide) (backOf (W := 0) (rmPos l Z a0 hw [] sb h0 n0 Z0) hZ (hw _ (List.mem_of_getElem? (i := 3) rfl)) (hw _ (List.mem_of_getElem? (i := 2) rfl)) (by decide) (by decide)) (g := (mkF m 36 #[.val (.long va), .second, .val (.long sa), .second, .val (.long vb), .second, .val (.long sb), .second, .val (.long vc), .second, .val (.long sc), .second, .val (.int (((1 : Int32) + (1 : Int32)) + (0 : Int32))), .val (.long u1), .second, .unset, .unset, .unset, .unset, .unset, .unset, .unset, .unset, .unset, .unset, .unset, .unset, .unset, .unset, .unset] [(.long sb)])) rfl (by rw [hml]; rfl) (argsL := [(.long sb)]) (rest := []) (lenOf pd_19 rfl) rfl (by show 2 * 0 + _ ≤ _; exact Nat.le_of_eq rfl) (hb hby at_36) (fun _ _ => ⟨rfl, e1, (by decide : 0 + 0 ≤ _), (by decide : 0 + 0 ≤ _)⟩)
      dsimp only [Pt.U, Pt.locs, Pt.cells, Pt.slots] at X2 l2 y2 z2 st2 hQ2
      subst l2 y2 z2
      obtain ⟨u2, rfl, N2, e2, p2⟩ := hQ2
      obtain ⟨_, _, ⟨T3, L3, k3, n3⟩, -, X3, ⟨Lc3, hQ3, l3, y3, z3⟩, st3⟩ := Jvm.LawKit.callS X2 hx (y := (⟨"com/example/quadwarden/quadwarden/cli/PairedTimingsRatioMaxPinLaw", "positive", "(J)J"⟩ : MethodName)) hown (mvT hZ (hw _ (List.mem_of_getElem? (i := 0) rfl))) (mvT hZ (hw _ (List.mem_of_getElem? (i := 1) rfl))) (mvT hZ (hw _ (List.mem_of_getElem? (i := 2) rfl))) (mvT hZ (hw _ (List.mem_of_getElem? (i := 3) rfl))) (by decide) (backOf (W := 0) (rmPos l Z a0 hw [] sc h0 n0 Z0) hZ (hw _ (List.mem_of_getElem? (i := 3) rfl)) (hw _ (List.mem_of_getElem? (i := 2) rfl)) (by decide) (by decide)) (g := (mkF m 43 #[.val (.long va), .second, .val (.long sa), .second, .val (.long vb), .second, .val (.long sb), .second, .val (.long vc), .second, .val (.long sc), .second, .val (.int (((1 : Int32) + (1 : Int32)) + (0 : Int32))), .val (.long u1), .second, .val (.long u2), .second, .unset, .unset, .unset, .unset, .unset, .unset, .unset, .unset, .unset, .unset, .unset, .unset, .unset] [(.long sc)])) rfl (by rw [hml]; rfl) (argsL := [(.long sc)]) (rest := []) (lenOf pd_19 rfl) rfl (by show 2 * 0 + _ ≤ _; exact Nat.le_of_eq rfl) (hb hby at_43) (fun _ _ => ⟨rfl, e2, (by decide : 0 + 0 ≤ _), (by decide : 0 + 0 ≤ _)⟩)
      dsimp only [Pt.U, Pt.locs, Pt.cells, Pt.slots] at X3 l3 y3 z3 st3 hQ3
      subst l3 y3 z3
      obtain ⟨u3, rfl, N3, e3, p3⟩ := hQ3
      obtain ⟨T4, h4, X4, e4, E4, A4, D4, -, st4⟩ := newO X3 hx hZ hown (hw _ (List.mem_of_getElem? (i := 5) rfl)) (hw _ (List.mem_of_getElem? (i := 6) rfl)) (hw _ (List.mem_of_getElem? (i := 7) rfl)) e3 (g := (mkF m 74 #[.val (.long va), .second, .val (.long sa), .second, .val (.long vb), .second, .val (.long sb), .second, .val (.long vc), .second, .val (.long sc), .second, .val (.int (((1 : Int32) + (1 : Int32)) + (0 : Int32))), .val (.long u1), .second, .val (.long u2), .second, .val (.long u3), .second, .val (.double (FP.ddiv (FP.l2d va) (FP.l2d u1))), .second, .val (.double (FP.ddiv (FP.l2d vb) (FP.l2d u2))), .second, .val (.double (FP.ddiv (FP.l2d vc) (FP.l2d u3))), .second, .unset, .unset, .unset, .unset, .unset] [])) rfl (hb hby at_74) (by decide) (by decide)
      obtain ⟨a4, g4⟩ : ∃ z, z = h0.size := ⟨_, rfl⟩
      rw [← g4] at A4 D4 st4
      have D_0 := D4 (Or.inr (hw _ (List.mem_of_getElem? (i := 39) rfl))) (ty := (.object "java/util/List")) (by decide)
      have D_1 := D4 (Or.inr (hw _ (List.mem_of_getElem? (i := 41) rfl))) (ty := (.object "java/util/List")) (by decide)
      have D_2 := D4 (Or.inr (hw _ (List.mem_of_getElem? (i := 43) rfl))) (ty := (.object "java/util/List")) (by decide)
      have g_4 : n0 ≤ a4 := Nat.le_trans Z0 (Nat.le_of_eq g4.symm)
      have O4 := O.ext E4
      have Z4 : n0 ≤ h4.size := Nat.le_trans Z0 E4.1
      obtain ⟨_, _, ⟨T5, L5, k5, n5⟩, -, X5, ⟨Lc5, hQ5, l5, y5, z5⟩, st5⟩ := X4.specialBack hx (y := (⟨"com/example/quadwarden/quadwarden/cli/PairedTimings", "<init>", "()V"⟩ : MethodName)) rfl hown (mvT hZ (hw _ (List.mem_of_getElem? (i := 8) rfl))) (mvT hZ (hw _ (List.mem_of_getElem? (i := 9) rfl))) (mvT hZ (hw _ (List.mem_of_getElem? (i := 10) rfl))) (by decide) (backOf (W := 1) (rmPi l Z a0 hw [] a4 h4 n0 Z4 w3 O4 S g_4 A4 D_0 D_1 D_2) hZ (hw _ (List.mem_of_getElem? (i := 10) rfl)) (hw _ (List.mem_of_getElem? (i := 7) rfl)) (by decide) (by decide)) (g := (mkF m 78 #[.val (.long va), .second, .val (.long sa), .second, .val (.long vb), .second, .val (.long sb), .second, .val (.long vc), .second, .val (.long sc), .second, .val (.int (((1 : Int32) + (1 : Int32)) + (0 : Int32))), .val (.long u1), .second, .val (.long u2), .second, .val (.long u3), .second, .val (.double (FP.ddiv (FP.l2d va) (FP.l2d u1))), .second, .val (.double (FP.ddiv (FP.l2d vb) (FP.l2d u2))), .second, .val (.double (FP.ddiv (FP.l2d vc) (FP.l2d u3))), .second, .unset, .unset, .unset, .unset, .unset] [(.ref a4), (.ref a4)])) rfl (by rw [hml]; rfl) (Steps.refl _) (a := a4) (argsL := []) (rest := [(.ref a4)]) (lenOf pd_0 rfl) rfl (by show 2 * 0 + _ ≤ _; exact Nat.le_of_eq rfl) (hb hby at_78) (fun _ _ => ⟨rfl, e4, (by decide : 1 + 3 ≤ _), (by decide : 3 + 9 ≤ _)⟩)
      dsimp only [Pt.U, Pt.locs, Pt.cells, Pt.slots] at X5 l5 y5 z5 st5 hQ5
      subst l5 y5 z5
      obtain ⟨rfl, N5, K5, la, lb, lc, P5⟩ := hQ5
      have O5 := O4.keep K5 (allS g_4 all0)
      have Z5 : n0 ≤ T5.heap.size := Nat.le_trans Z4 K5.1
      have M5 := Fr.app (Fr.app (Fr.app (Fr.app N0 N1) N2) N3) N5
      obtain ⟨cq6, kq6, q6a, q6b, q6c⟩ := isOf hZ rfl P5.1.1
      obtain ⟨_, _, ⟨T6, L6, k6, n6⟩, -, X6, ⟨Lc6, hQ6, l6, y6, z6⟩, st6⟩ := X5.virtualBack hx (y := (⟨"com/example/quadwarden/quadwarden/cli/PairedTimings", "add", "(JJ)V"⟩ : MethodName)) (z := (⟨"com/example/quadwarden/quadwarden/cli/PairedTimings", "add", "(JJ)V"⟩ : MethodName)) hown (mvT hZ (hw _ (List.mem_of_getElem? (i := 44) rfl))) (mvT hZ (hw _ (List.mem_of_getElem? (i := 45) rfl))) (notFace_of_selects (args := #[]) (mvT hZ (hw _ (List.mem_of_getElem? (i := 47) rfl)))) (mvT hZ (hw _ (List.mem_of_getElem? (i := 47) rfl))) (mvT hZ (hw _ (List.mem_of_getElem? (i := 46) rfl))) (by decide) (backOf (W := 0) (rmP1 l Z a0 hw [] a4 va u1 T5.heap n0 Z5 la lb lc w3 O5 S P5 (Jvm.Own.nn (own_q va u1 p1))) hZ (hw _ (List.mem_of_getElem? (i := 48) rfl)) (hw _ (List.mem_of_getElem? (i := 7) rfl)) (by decide) (by decide)) q6a q6c (g := (mkF m 88 #[.val (.long va), .second, .val (.long sa), .second, .val (.long vb), .second, .val (.long sb), .second, .val (.long vc), .second, .val (.long sc), .second, .val (.int (((1 : Int32) + (1 : Int32)) + (0 : Int32))), .val (.long u1), .second, .val (.long u2), .second, .val (.long u3), .second, .val (.double (FP.ddiv (FP.l2d va) (FP.l2d u1))), .second, .val (.double (FP.ddiv (FP.l2d vb) (FP.l2d u2))), .second, .val (.double (FP.ddiv (FP.l2d vc) (FP.l2d u3))), .second, .val (.ref a4), .unset, .unset, .unset, .unset] [(.long u1), (.long va), (.ref a4)])) rfl (by rw [hml]; rfl) (Steps.refl _) (argsL := [(.long va), (.long u1)]) (rest := []) (lenOf pd_20 rfl) rfl (by show 2 * 0 + _ ≤ _; exact Nat.le_of_eq rfl) (hb hby at_88) (fun _ _ => ⟨rfl, rfl, (by decide : 4 + 6 ≤ _), (by decide : 12 + 33 ≤ _)⟩)
      dsimp only [Pt.U, Pt.locs, Pt.cells, Pt.slots] at X6 l6 y6 z6 st6 hQ6
      subst l6 y6 z6
      obtain ⟨rfl, N6, K6, ta, tb, tc, x0_, P6, B6⟩ := hQ6
      have Z6 : n0 ≤ T6.heap.size := Nat.le_trans Z5 K6.1
      have M6 := Fr.app M5 N6
      obtain ⟨cq17, kq17, q17a, q17b, q17c⟩ := isOf hZ rfl P6.1.1
      obtain ⟨_, _, ⟨T17, L17, k17, n17⟩, -, X17, ⟨Lc17, hQ17, l17, y17, z17⟩, st17⟩ := X6.virtualBack hx (y := (⟨"com/example/quadwarden/quadwarden/cli/PairedTimings", "add", "(JJ)V"⟩ : MethodName)) (z := (⟨"com/example/quadwarden/quadwarden/cli/PairedTimings", "add", "(JJ)V"⟩ : MethodName)) hown (mvT hZ (hw _ (List.mem_of_getElem? (i := 44) rfl))) (mvT hZ (hw _ (List.mem_of_getElem? (i := 45) rfl))) (notFace_of_selects (args := #[]) (mvT hZ (hw _ (List.mem_of_getElem? (i := 47) rfl)))) (mvT hZ (hw _ (List.mem_of_getElem? (i := 47) rfl))) (mvT hZ (hw _ (List.mem_of_getElem? (i := 46) rfl))) (by decide) (backOf (W := 0) (rmP2 l Z a0 hw [] a4 vb u2 T6.heap n0 Z6 la lb lc ta tb tc ((0 : Int32) + 1) 1 ((List.replicate 10 .null).set 0 (.ref x0_)) rfl (by decide) P6 (Jvm.Own.nn (own_q vb u2 p2))) hZ (hw _ (List.mem_of_getElem? (i := 48) rfl)) (hw _ (List.mem_of_getElem? (i := 7) rfl)) (by decide) (by decide)) q17a q17c (g := (mkF m 103 #[.val (.long va), .second, .val (.long sa), .second, .val (.long vb), .second, .val (.long sb), .second, .val (.long vc), .second, .val (.long sc), .second, .val (.int (((1 : Int32) + (1 : Int32)) + (0 : Int32))), .val (.long u1), .second, .val (.long u2), .second, .val (.long u3), .second, .val (.double (FP.ddiv (FP.l2d va) (FP.l2d u1))), .second, .val (.double (FP.ddiv (FP.l2d vb) (FP.l2d u2))), .second, .val (.double (FP.ddiv (FP.l2d vc) (FP.l2d u3))), .second, .val (.ref a4), .unset, .unset, .unset, .unset] [(.long u2), (.long vb), (.ref a4)])) rfl (by rw [hml]; rfl) (Steps.refl _) (argsL := [(.long vb), (.long u2)]) (rest := []) (lenOf pd_20 rfl) rfl (by show 2 * 0 + _ ≤ _; exact Nat.le_of_eq rfl) (hb hby at_103) (fun _ _ => ⟨rfl, rfl, (by decide : 10 + 3 ≤ _), (by decide : 45 + 3 ≤ _)⟩)
      dsimp only [Pt.U, Pt.locs, Pt.cells, Pt.slots] at X17 l17 y17 z17 st17 hQ17
      subst l17 y17 z17
      obtain ⟨rfl, N17, K17, x1_, P17, B17⟩ := hQ17
      have B17_0 := B6.keep K17 (P6.box B6 (hw _ (List.mem_of_getElem? (i := 54) rfl)))
      have Z17 : n0 ≤ T17.heap.size := Nat.le_trans Z6 K17.1
      have M17 := Fr.app M6 N17
      obtain ⟨m1_, hm1⟩ := PK.ex (FP.ddiv (FP.l2d vb) (FP.l2d u2)) (FP.ddiv (FP.l2d va) (FP.l2d u1))
      obtain ⟨fm1, ma1, mb1, mc1⟩ := hm1.spec (own_q vb u2 p2) (own_q va u1 p1)
      obtain ⟨PX_, -, -, LC_, -⟩ := id P17
      obtain ⟨cq9, kq9, q9a, q9b, q9c⟩ := isOf hZ rfl PX_.1
      obtain ⟨_, _, ⟨T9, L9, k9, n9⟩, -, X9, ⟨Lc9, hQ9, l9, y9, z9⟩, st9⟩ := X17.virtualBack hx (y := (⟨"com/example/quadwarden/quadwarden/cli/PairedTimings", "ratioMax", "()D"⟩ : MethodName)) (z := (⟨"com/example/quadwarden/quadwarden/cli/PairedTimings", "ratioMax", "()D"⟩ : MethodName)) hown (mvT hZ (hw _ (List.mem_of_getElem? (i := 103) rfl))) (mvT hZ (hw _ (List.mem_of_getElem? (i := 104) rfl))) (notFace_of_selects (args := #[]) (mvT hZ (hw _ (List.mem_of_getElem? (i := 106) rfl)))) (mvT hZ (hw _ (List.mem_of_getElem? (i := 106) rfl))) (mvT hZ (hw _ (List.mem_of_getElem? (i := 105) rfl))) (by decide) (backOf (W := 0) (rmR2 l Z a0 hw [] a4 T17.heap n0 Z17 la lb lc PX_ _ _ tc _ LC_ (by decide) x0_ x1_ (FP.ddiv (FP.l2d va) (FP.l2d u1)) (FP.ddiv (FP.l2d vb) (FP.l2d u2)) rfl B17_0 (own_q va u1 p1) rfl B17 (own_q vb u2 p2)) hZ (hw _ (List.mem_of_getElem? (i := 107) rfl)) (hw _ (List.mem_of_getElem? (i := 7) rfl)) (by decide) (by decide)) q9a q9c (g := (mkF m 163 #[.val (.long va), .second, .val (.long sa), .second, .val (.long vb), .second, .val (.long sb), .second, .val (.long vc), .second, .val (.long sc), .second, .val (.int (((1 : Int32) + (1 : Int32)) + (0 : Int32))), .val (.long u1), .second, .val (.long u2), .second, .val (.long u3), .second, .val (.double (FP.ddiv (FP.l2d va) (FP.l2d u1))), .second, .val (.double (FP.ddiv (FP.l2d vb) (FP.l2d u2))), .second, .val (.double (FP.ddiv (FP.l2d vc) (FP.l2d u3))), .second, .val (.ref a4), .val (.double m1_), .second, .unset, .unset] [(.ref a4)])) rfl (by rw [hml]; rfl) (Steps.refl _) (argsL := []) (rest := []) (lenOf pd_18 rfl) rfl (by show 2 * 0 + _ ≤ _; exact Nat.le_of_eq rfl) (hb hby at_163) (fun _ _ => ⟨rfl, rfl, (by decide : 13 + 1 ≤ _), (by decide : 48 + 4 ≤ _)⟩)
      dsimp only [Pt.U, Pt.locs, Pt.cells, Pt.slots] at X9 l9 y9 z9 st9 hQ9
      subst l9 y9 z9
      obtain ⟨w9, rfl, N9, f9, o9, l9_0, l9_1⟩ := hQ9
      have z9 := o9.imp (congrArg Jvm.Own.z) (congrArg Jvm.Own.z)
      have heq : Jvm.Own.z w9 = Jvm.Own.z m1_ := by omega
      obtain ⟨fs, hr, hrun, hended, hW, hsame⟩ := X9.leave (v := some (.int (1 : Int32))) (fun h => by rw [Bd.returns] at h; cases h)
      refine ⟨_, _, pre0 _ ?_, hrun, hended, _, _, rfl, ?_, ⟨_, rfl⟩, hW, hsame.mono (by decide) (by decide)⟩
      · show Steps p.tables e below (s₁.setTop (mkF m 0 #[.val (.long va), .second, .val (.long sa), .second, .val (.long vb), .second, .val (.long sb), .second, .val (.long vc), .second, .val (.long sc), .second, .unset, .unset, .unset, .unset, .unset, .unset, .unset, .unset, .unset, .unset, .unset, .unset, .unset, .unset, .unset, .unset, .unset, .unset] [])) _
        refine XS.iconst X0.here hx rfl (hb hby at_0) ?_
        show Steps p.tables e below (s₁.setTop (mkF m 1 #[.val (.long va), .second, .val (.long sa), .second, .val (.long vb), .second, .val (.long sb), .second, .val (.long vc), .second, .val (.long sc), .second, .unset, .unset, .unset, .unset, .unset, .unset, .unset, .unset, .unset, .unset, .unset, .unset, .unset, .unset, .unset, .unset, .unset, .unset] [(.int (1 : Int32))])) _
        refine XS.lloadN X0.here hx rfl (hb hby at_1) rfl ?_
        show Steps p.tables e below (s₁.setTop (mkF m 2 #[.val (.long va), .second, .val (.long sa), .second, .val (.long vb), .second, .val (.long sb), .second, .val (.long vc), .second, .val (.long sc), .second, .unset, .unset, .unset, .unset, .unset, .unset, .unset, .unset, .unset, .unset, .unset, .unset, .unset, .unset, .unset, .unset, .unset, .unset] [(.long sa), (.int (1 : Int32))])) _
        refine XS.lconst X0.here hx rfl (hb hby at_2) ?_
        show Steps p.tables e below (s₁.setTop (mkF m 3 #[.val (.long va), .second, .val (.long sa), .second, .val (.long vb), .second, .val (.long sb), .second, .val (.long vc), .second, .val (.long sc), .second, .unset, .unset, .unset, .unset, .unset, .unset, .unset, .unset, .unset, .unset, .unset, .unset, .unset, .unset, .unset, .unset, .unset, .unset] [(.long (0 : Int64)), (.long sa), (.int (1 : Int32))])) _
        refine XS.lcmp X0.here hx rfl (hb hby at_3) rfl ?_
        show Steps p.tables e below (s₁.setTop (mkF m 4 #[.val (.long va), .second, .val (.long sa), .second, .val (.long vb), .second, .val (.long sb), .second, .val (.long vc), .second, .val (.long sc), .second, .unset, .unset, .unset, .unset, .unset, .unset, .unset, .unset, .unset, .unset, .unset, .unset, .unset, .unset, .unset, .unset, .unset, .unset] [(.int (lcmpW sa (0 : Int64))), (.int (1 : Int32))])) _
        refine XS.ifNo X0.here hx rfl (hb hby at_4) rfl ((Jvm.Own.holdsL _ _ _).trans (Jvm.Own.dF (by omega))) ?_
        show Steps p.tables e below (s₁.setTop (mkF m 7 #[.val (.long va), .second, .val (.long sa), .second, .val (.long vb), .second, .val (.long sb), .second, .val (.long vc), .second, .val (.long sc), .second, .unset, .unset, .unset, .unset, .unset, .unset, .unset, .unset, .unset, .unset, .unset, .unset, .unset, .unset, .unset, .unset, .unset, .unset] [(.int (1 : Int32))])) _
        refine XS.iconst X0.here hx rfl (hb hby at_7) ?_
        show Steps p.tables e below (s₁.setTop (mkF m 8 #[.val (.long va), .second, .val (.long sa), .second, .val (.long vb), .second, .val (.long sb), .second, .val (.long vc), .second, .val (.long sc), .second, .unset, .unset, .unset, .unset, .unset, .unset, .unset, .unset, .unset, .unset, .unset, .unset, .unset, .unset, .unset, .unset, .unset, .unset] [(.int (1 : Int32)), (.int (1 : Int32))])) _
        refine XS.goto X0.here hx rfl (pc0 := 8) (pc' := 12) rfl (hb hby at_8) (by decide) (by decide) ?_
        show Steps p.tables e below (s₁.setTop (mkF m 12 #[.val (.long va), .second, .val (.long sa), .second, .val (.long vb), .second, .val (.long sb), .second, .val (.long vc), .second, .val (.long sc), .second, .unset, .unset, .unset, .unset, .unset, .unset, .unset, .unset, .unset, .unset, .unset, .unset, .unset, .unset, .unset, .unset, .unset, .unset] [(.int (1 : Int32)), (.int (1 : Int32))])) _
        refine XS.iadd X0.here hx rfl (hb hby at_12) rfl ?_
        show Steps p.tables e below (s₁.setTop (mkF m 13 #[.val (.long va), .second, .val (.long sa), .second, .val (.long vb), .second, .val (.long sb), .second, .val (.long vc), .second, .val (.long sc), .second, .unset, .unset, .unset, .unset, .unset, .unset, .unset, .unset, .unset, .unset, .unset, .unset, .unset, .unset, .unset, .unset, .unset, .unset] [(.int ((1 : Int32) + (1 : Int32)))])) _
        refine XS.lload X0.here hx rfl (hb hby at_13) rfl ?_
        show Steps p.tables e below (s₁.setTop (mkF m 15 #[.val (.long va), .second, .val (.long sa), .second, .val (.long vb), .second, .val (.long sb), .second, .val (.long vc), .second, .val (.long sc), .second, .unset, .unset, .unset, .unset, .unset, .unset, .unset, .unset, .unset, .unset, .unset, .unset, .unset, .unset, .unset, .unset, .unset, .unset] [(.long sb), (.int ((1 : Int32) + (1 : Int32)))])) _
        refine XS.lconst X0.here hx rfl (hb hby at_15) ?_
        show Steps p.tables e below (s₁.setTop (mkF m 16 #[.val (.long va), .second, .val (.long sa), .second, .val (.long vb), .second, .val (.long sb), .second, .val (.long vc), .second, .val (.long sc), .second, .unset, .unset, .unset, .unset, .unset, .unset, .unset, .unset, .unset, .unset, .unset, .unset, .unset, .unset, .unset, .unset, .unset, .unset] [(.long (0 : Int64)), (.long sb), (.int ((1 : Int32) + (1 : Int32)))])) _
        refine XS.lcmp X0.here hx rfl (hb hby at_16) rfl ?_
        show Steps p.tables e below (s₁.setTop (mkF m 17 #[.val (.long va), .second, .val (.long sa), .second, .val (.long vb), .second, .val (.long sb), .second, .val (.long vc), .second, .val (.long sc), .second, .unset, .unset, .unset, .unset, .unset, .unset, .unset, .unset, .unset, .unset, .unset, .unset, .unset, .unset, .unset, .unset, .unset, .unset] [(.int (lcmpW sb (0 : Int64))), (.int ((1 : Int32) + (1 : Int32)))])) _
        refine XS.ifYes X0.here hx rfl (pc0 := 17) (pc' := 24) rfl (hb hby at_17) rfl ((Jvm.Own.holdsL _ _ _).trans (Jvm.Own.dT (by omega))) (by decide) (by decide) ?_
        show Steps p.tables e below (s₁.setTop (mkF m 24 #[.val (.long va), .second, .val (.long sa), .second, .val (.long vb), .second, .val (.long sb), .second, .val (.long vc), .second, .val (.long sc), .second, .unset, .unset, .unset, .unset, .unset, .unset, .unset, .unset, .unset, .unset, .unset, .unset, .unset, .unset, .unset, .unset, .unset, .unset] [(.int ((1 : Int32) + (1 : Int32)))])) _
        refine XS.iconst X0.here hx rfl (hb hby at_24) ?_
        show Steps p.tables e below (s₁.setTop (mkF m 25 #[.val (.long va), .second, .val (.long sa), .second, .val (.long vb), .second, .val (.long sb), .second, .val (.long vc), .second, .val (.long sc), .second, .unset, .unset, .unset, .unset, .unset, .unset, .unset, .unset, .unset, .unset, .unset, .unset, .unset, .unset, .unset, .unset, .unset, .unset] [(.int (0 : Int32)), (.int ((1 : Int32) + (1 : Int32)))])) _
        refine XS.iadd X0.here hx rfl (hb hby at_25) rfl ?_
        show Steps p.tables e below (s₁.setTop (mkF m 26 #[.val (.long va), .second, .val (.long sa), .second, .val (.long vb), .second, .val (.long sb), .second, .val (.long vc), .second, .val (.long sc), .second, .unset, .unset, .unset, .unset, .unset, .unset, .unset, .unset, .unset, .unset, .unset, .unset, .unset, .unset, .unset, .unset, .unset, .unset] [(.int (((1 : Int32) + (1 : Int32)) + (0 : Int32)))])) _
        refine XS.istore X0.here hx rfl (hb hby at_26) rfl (l' := #[.val (.long va), .second, .val (.long sa), .second, .val (.long vb), .second, .val (.long sb), .second, .val (.long vc), .second, .val (.long sc), .second, .val (.int (((1 : Int32) + (1 : Int32)) + (0 : Int32))), .unset, .unset, .unset, .unset, .unset, .unset, .unset, .unset, .unset, .unset, .unset, .unset, .unset, .unset, .unset, .unset, .unset]) rfl ?_
        show Steps p.tables e below (s₁.setTop (mkF m 28 #[.val (.long va), .second, .val (.long sa), .second, .val (.long vb), .second, .val (.long sb), .second, .val (.long vc), .second, .val (.long sc), .second, .val (.int (((1 : Int32) + (1 : Int32)) + (0 : Int32))), .unset, .unset, .unset, .unset, .unset, .unset, .unset, .unset, .unset, .unset, .unset, .unset, .unset, .unset, .unset, .unset, .unset] [])) _
        refine XS.lloadN X0.here hx rfl (hb hby at_28) rfl ?_
        show Steps p.tables e below (s₁.setTop (mkF m 29 #[.val (.long va), .second, .val (.long sa), .second, .val (.long vb), .second, .val (.long sb), .second, .val (.long vc), .second, .val (.long sc), .second, .val (.int (((1 : Int32) + (1 : Int32)) + (0 : Int32))), .unset, .unset, .unset, .unset, .unset, .unset, .unset, .unset, .unset, .unset, .unset, .unset, .unset, .unset, .unset, .unset, .unset] [(.long sa)])) _
        refine st1 _ ?_
        show Steps p.tables e below (T1.setTop (mkF m 32 #[.val (.long va), .second, .val (.long sa), .second, .val (.long vb), .second, .val (.long sb), .second, .val (.long vc), .second, .val (.long sc), .second, .val (.int (((1 : Int32) + (1 : Int32)) + (0 : Int32))), .unset, .unset, .unset, .unset, .unset, .unset, .unset, .unset, .unset, .unset, .unset, .unset, .unset, .unset, .unset, .unset, .unset] [(.long u1)])) _
        refine XS.lstore X1.here hx rfl (hb hby at_32) rfl (l' := #[.val (.long va), .second, .val (.long sa), .second, .val (.long vb), .second, .val (.long sb), .second, .val (.long vc), .second, .val (.long sc), .second, .val (.int (((1 : Int32) + (1 : Int32)) + (0 : Int32))), .val (.long u1), .second, .unset, .unset, .unset, .unset, .unset, .unset, .unset, .unset, .unset, .unset, .unset, .unset, .unset, .unset, .unset]) rfl ?_
        show Steps p.tables e below (T1.setTop (mkF m 34 #[.val (.long va), .second, .val (.long sa), .second, .val (.long vb), .second, .val (.long sb), .second, .val (.long vc), .second, .val (.long sc), .second, .val (.int (((1 : Int32) + (1 : Int32)) + (0 : Int32))), .val (.long u1), .second, .unset, .unset, .unset, .unset, .unset, .unset, .unset, .unset, .unset, .unset, .unset, .unset, .unset, .unset, .unset] [])) _
        refine XS.lload X1.here hx rfl (hb hby at_34) rfl ?_
        show Steps p.tables e below (T1.setTop (mkF m 36 #[.val (.long va), .second, .val (.long sa), .second, .val (.long vb), .second, .val (.long sb), .second, .val (.long vc), .second, .val (.long sc), .second, .val (.int (((1 : Int32) + (1 : Int32)) + (0 : Int32))), .val (.long u1), .second, .unset, .unset, .unset, .unset, .unset, .unset, .unset, .unset, .unset, .unset, .unset, .unset, .unset, .unset, .unset] [(.long sb)])) _
        refine st2 _ ?_
        show Steps p.tables e below (T2.setTop (mkF m 39 #[.val (.long va), .second, .val (.long sa), .second, .val (.long vb), .second, .val (.long sb), .second, .val (.long vc), .second, .val (.long sc), .second, .val (.int (((1 : Int32) + (1 : Int32)) + (0 : Int32))), .val (.long u1), .second, .unset, .unset, .unset, .unset, .unset, .unset, .unset, .unset, .unset, .unset, .unset, .unset, .unset, .unset, .unset] [(.long u2)])) _
        refine XS.lstore X2.here hx rfl (hb hby at_39) rfl (l' := #[.val (.long va), .second, .val (.long sa), .second, .val (.long vb), .second, .val (.long sb), .second, .val (.long vc), .second, .val (.long sc), .second, .val (.int (((1 : Int32) + (1 : Int32)) + (0 : Int32))), .val (.long u1), .second, .val (.long u2), .second, .unset, .unset, .unset, .unset, .unset, .unset, .unset, .unset, .unset, .unset, .unset, .unset, .unset]) rfl ?_
        show Steps p.tables e below (T2.setTop (mkF m 41 #[.val (.long va), .second, .val (.long sa), .second, .val (.long vb), .second, .val (.long sb), .second, .val (.long vc), .second, .val (.long sc), .second, .val (.int (((1 : Int32) + (1 : Int32)) + (0 : Int32))), .val (.long u1), .second, .val (.long u2), .second, .unset, .unset, .unset, .unset, .unset, .unset, .unset, .unset, .unset, .unset, .unset, .unset, .unset] [])) _
        refine XS.lload X2.here hx rfl (hb hby at_41) rfl ?_
        show Steps p.tables e below (T2.setTop (mkF m 43 #[.val (.long va), .second, .val (.long sa), .second, .val (.long vb), .second, .val (.long sb), .second, .val (.long vc), .second, .val (.long sc), .second, .val (.int (((1 : Int32) + (1 : Int32)) + (0 : Int32))), .val (.long u1), .second, .val (.long u2), .second, .unset, .unset, .unset, .unset, .unset, .unset, .unset, .unset, .unset, .unset, .unset, .unset, .unset] [(.long sc)])) _
        refine st3 _ ?_
        show Steps p.tables e below (T3.setTop (mkF m 46 #[.val (.long va), .second, .val (.long sa), .second, .val (.long vb), .second, .val (.long sb), .second, .val (.long vc), .second, .val (.long sc), .second, .val (.int (((1 : Int32) + (1 : Int32)) + (0 : Int32))), .val (.long u1), .second, .val (.long u2), .second, .unset, .unset, .unset, .unset, .unset, .unset, .unset, .unset, .unset, .unset, .unset, .unset, .unset] [(.long u3)])) _
        refine XS.lstore X3.here hx rfl (hb hby at_46) rfl (l' := #[.val (.long va), .second, .val (.long sa), .second, .val (.long vb), .second, .val (.long sb), .second, .val (.long vc), .second, .val (.long sc), .second, .val (.int (((1 : Int32) + (1 : Int32)) + (0 : Int32))), .val (.long u1), .second, .val (.long u2), .second, .val (.long u3), .second, .unset, .unset, .unset, .unset, .unset, .unset, .unset, .unset, .unset, .unset, .unset]) rfl ?_
        show Steps p.tables e below (T3.setTop (mkF m 48 #[.val (.long va), .second, .val (.long sa), .second, .val (.long vb), .second, .val (.long sb), .second, .val (.long vc), .second, .val (.long sc), .second, .val (.int (((1 : Int32) + (1 : Int32)) + (0 : Int32))), .val (.long u1), .second, .val (.long u2), .second, .val (.long u3), .second, .unset, .unset, .unset, .unset, .unset, .unset, .unset, .unset, .unset, .unset, .unset] [])) _
        refine XS.lloadN X3.here hx rfl (hb hby at_48) rfl ?_
        show Steps p.tables e below (T3.setTop (mkF m 49 #[.val (.long va), .second, .val (.long sa), .second, .val (.long vb), .second, .val (.long sb), .second, .val (.long vc), .second, .val (.long sc), .second, .val (.int (((1 : Int32) + (1 : Int32)) + (0 : Int32))), .val (.long u1), .second, .val (.long u2), .second, .val (.long u3), .second, .unset, .unset, .unset, .unset, .unset, .unset, .unset, .unset, .unset, .unset, .unset] [(.long va)])) _
        refine XS.l2dS X3.here hx rfl (hb hby at_49) rfl (v := FP.l2d va) rfl ?_
        show Steps p.tables e below (T3.setTop (mkF m 50 #[.val (.long va), .second, .val (.long sa), .second, .val (.long vb), .second, .val (.long sb), .second, .val (.long vc), .second, .val (.long sc), .second, .val (.int (((1 : Int32) + (1 : Int32)) + (0 : Int32))), .val (.long u1), .second, .val (.long u2), .second, .val (.long u3), .second, .unset, .unset, .unset, .unset, .unset, .unset, .unset, .unset, .unset, .unset, .unset] [(.double (FP.l2d va))])) _
        refine XS.lload X3.here hx rfl (hb hby at_50) rfl ?_
        show Steps p.tables e below (T3.setTop (mkF m 52 #[.val (.long va), .second, .val (.long sa), .second, .val (.long vb), .second, .val (.long sb), .second, .val (.long vc), .second, .val (.long sc), .second, .val (.int (((1 : Int32) + (1 : Int32)) + (0 : Int32))), .val (.long u1), .second, .val (.long u2), .second, .val (.long u3), .second, .unset, .unset, .unset, .unset, .unset, .unset, .unset, .unset, .unset, .unset, .unset] [(.long u1), (.double (FP.l2d va))])) _
        refine XS.l2dS X3.here hx rfl (hb hby at_52) rfl (v := FP.l2d u1) rfl ?_
        show Steps p.tables e below (T3.setTop (mkF m 53 #[.val (.long va), .second, .val (.long sa), .second, .val (.long vb), .second, .val (.long sb), .second, .val (.long vc), .second, .val (.long sc), .second, .val (.int (((1 : Int32) + (1 : Int32)) + (0 : Int32))), .val (.long u1), .second, .val (.long u2), .second, .val (.long u3), .second, .unset, .unset, .unset, .unset, .unset, .unset, .unset, .unset, .unset, .unset, .unset] [(.double (FP.l2d u1)), (.double (FP.l2d va))])) _
        refine XS.ddivS X3.here hx rfl (hb hby at_53) rfl (Jvm.Own.nn (own_q va u1 p1)) (v := FP.ddiv (FP.l2d va) (FP.l2d u1)) rfl ?_
        show Steps p.tables e below (T3.setTop (mkF m 54 #[.val (.long va), .second, .val (.long sa), .second, .val (.long vb), .second, .val (.long sb), .second, .val (.long vc), .second, .val (.long sc), .second, .val (.int (((1 : Int32) + (1 : Int32)) + (0 : Int32))), .val (.long u1), .second, .val (.long u2), .second, .val (.long u3), .second, .unset, .unset, .unset, .unset, .unset, .unset, .unset, .unset, .unset, .unset, .unset] [(.double (FP.ddiv (FP.l2d va) (FP.l2d u1)))])) _
        refine XS.dstore X3.here hx rfl (hb hby at_54) rfl (l' := #[.val (.long va), .second, .val (.long sa), .second, .val (.long vb), .second, .val (.long sb), .second, .val (.long vc), .second, .val (.long sc), .second, .val (.int (((1 : Int32) + (1 : Int32)) + (0 : Int32))), .val (.long u1), .second, .val (.long u2), .second, .val (.long u3), .second, .val (.double (FP.ddiv (FP.l2d va) (FP.l2d u1))), .second, .unset, .unset, .unset, .unset, .unset, .unset, .unset, .unset, .unset]) rfl ?_
        show Steps p.tables e below (T3.setTop (mkF m 56 #[.val (.long va), .second, .val (.long sa), .second, .val (.long vb), .second, .val (.long sb), .second, .val (.long vc), .second, .val (.long sc), .second, .val (.int (((1 : Int32) + (1 : Int32)) + (0 : Int32))), .val (.long u1), .second, .val (.long u2), .second, .val (.long u3), .second, .val (.double (FP.ddiv (FP.l2d va) (FP.l2d u1))), .second, .unset, .unset, .unset, .unset, .unset, .unset, .unset, .unset, .unset] [])) _
        refine XS.lload X3.here hx rfl (hb hby at_56) rfl ?_
        show Steps p.tables e below (T3.setTop (mkF m 58 #[.val (.long va), .second, .val (.long sa), .second, .val (.long vb), .second, .val (.long sb), .second, .val (.long vc), .second, .val (.long sc), .second, .val (.int (((1 : Int32) + (1 : Int32)) + (0 : Int32))), .val (.long u1), .second, .val (.long u2), .second, .val (.long u3), .second, .val (.double (FP.ddiv (FP.l2d va) (FP.l2d u1))), .second, .unset, .unset, .unset, .unset, .unset, .unset, .unset, .unset, .unset] [(.long vb)])) _
        refine XS.l2dS X3.here hx rfl (hb hby at_58) rfl (v := FP.l2d vb) rfl ?_
        show Steps p.tables e below (T3.setTop (mkF m 59 #[.val (.long va), .second, .val (.long sa), .second, .val (.long vb), .second, .val (.long sb), .second, .val (.long vc), .second, .val (.long sc), .second, .val (.int (((1 : Int32) + (1 : Int32)) + (0 : Int32))), .val (.long u1), .second, .val (.long u2), .second, .val (.long u3), .second, .val (.double (FP.ddiv (FP.l2d va) (FP.l2d u1))), .second, .unset, .unset, .unset, .unset, .unset, .unset, .unset, .unset, .unset] [(.double (FP.l2d vb))])) _
        refine XS.lload X3.here hx rfl (hb hby at_59) rfl ?_
        show Steps p.tables e below (T3.setTop (mkF m 61 #[.val (.long va), .second, .val (.long sa), .second, .val (.long vb), .second, .val (.long sb), .second, .val (.long vc), .second, .val (.long sc), .second, .val (.int (((1 : Int32) + (1 : Int32)) + (0 : Int32))), .val (.long u1), .second, .val (.long u2), .second, .val (.long u3), .second, .val (.double (FP.ddiv (FP.l2d va) (FP.l2d u1))), .second, .unset, .unset, .unset, .unset, .unset, .unset, .unset, .unset, .unset] [(.long u2), (.double (FP.l2d vb))])) _
        refine XS.l2dS X3.here hx rfl (hb hby at_61) rfl (v := FP.l2d u2) rfl ?_
        show Steps p.tables e below (T3.setTop (mkF m 62 #[.val (.long va), .second, .val (.long sa), .second, .val (.long vb), .second, .val (.long sb), .second, .val (.long vc), .second, .val (.long sc), .second, .val (.int (((1 : Int32) + (1 : Int32)) + (0 : Int32))), .val (.long u1), .second, .val (.long u2), .second, .val (.long u3), .second, .val (.double (FP.ddiv (FP.l2d va) (FP.l2d u1))), .second, .unset, .unset, .unset, .unset, .unset, .unset, .unset, .unset, .unset] [(.double (FP.l2d u2)), (.double (FP.l2d vb))])) _
        refine XS.ddivS X3.here hx rfl (hb hby at_62) rfl (Jvm.Own.nn (own_q vb u2 p2)) (v := FP.ddiv (FP.l2d vb) (FP.l2d u2)) rfl ?_
        show Steps p.tables e below (T3.setTop (mkF m 63 #[.val (.long va), .second, .val (.long sa), .second, .val (.long vb), .second, .val (.long sb), .second, .val (.long vc), .second, .val (.long sc), .second, .val (.int (((1 : Int32) + (1 : Int32)) + (0 : Int32))), .val (.long u1), .second, .val (.long u2), .second, .val (.long u3), .second, .val (.double (FP.ddiv (FP.l2d va) (FP.l2d u1))), .second, .unset, .unset, .unset, .unset, .unset, .unset, .unset, .unset, .unset] [(.double (FP.ddiv (FP.l2d vb) (FP.l2d u2)))])) _
        refine XS.dstore X3.here hx rfl (hb hby at_63) rfl (l' := #[.val (.long va), .second, .val (.long sa), .second, .val (.long vb), .second, .val (.long sb), .second, .val (.long vc), .second, .val (.long sc), .second, .val (.int (((1 : Int32) + (1 : Int32)) + (0 : Int32))), .val (.long u1), .second, .val (.long u2), .second, .val (.long u3), .second, .val (.double (FP.ddiv (FP.l2d va) (FP.l2d u1))), .second, .val (.double (FP.ddiv (FP.l2d vb) (FP.l2d u2))), .second, .unset, .unset, .unset, .unset, .unset, .unset, .unset]) rfl ?_
        show Steps p.tables e below (T3.setTop (mkF m 65 #[.val (.long va), .second, .val (.long sa), .second, .val (.long vb), .second, .val (.long sb), .second, .val (.long vc), .second, .val (.long sc), .second, .val (.int (((1 : Int32) + (1 : Int32)) + (0 : Int32))), .val (.long u1), .second, .val (.long u2), .second, .val (.long u3), .second, .val (.double (FP.ddiv (FP.l2d va) (FP.l2d u1))), .second, .val (.double (FP.ddiv (FP.l2d vb) (FP.l2d u2))), .second, .unset, .unset, .unset, .unset, .unset, .unset, .unset] [])) _
        refine XS.lload X3.here hx rfl (hb hby at_65) rfl ?_
        show Steps p.tables e below (T3.setTop (mkF m 67 #[.val (.long va), .second, .val (.long sa), .second, .val (.long vb), .second, .val (.long sb), .second, .val (.long vc), .second, .val (.long sc), .second, .val (.int (((1 : Int32) + (1 : Int32)) + (0 : Int32))), .val (.long u1), .second, .val (.long u2), .second, .val (.long u3), .second, .val (.double (FP.ddiv (FP.l2d va) (FP.l2d u1))), .second, .val (.double (FP.ddiv (FP.l2d vb) (FP.l2d u2))), .second, .unset, .unset, .unset, .unset, .unset, .unset, .unset] [(.long vc)])) _
        refine XS.l2dS X3.here hx rfl (hb hby at_67) rfl (v := FP.l2d vc) rfl ?_
        show Steps p.tables e below (T3.setTop (mkF m 68 #[.val (.long va), .second, .val (.long sa), .second, .val (.long vb), .second, .val (.long sb), .second, .val (.long vc), .second, .val (.long sc), .second, .val (.int (((1 : Int32) + (1 : Int32)) + (0 : Int32))), .val (.long u1), .second, .val (.long u2), .second, .val (.long u3), .second, .val (.double (FP.ddiv (FP.l2d va) (FP.l2d u1))), .second, .val (.double (FP.ddiv (FP.l2d vb) (FP.l2d u2))), .second, .unset, .unset, .unset, .unset, .unset, .unset, .unset] [(.double (FP.l2d vc))])) _
        refine XS.lload X3.here hx rfl (hb hby at_68) rfl ?_
        show Steps p.tables e below (T3.setTop (mkF m 70 #[.val (.long va), .second, .val (.long sa), .second, .val (.long vb), .second, .val (.long sb), .second, .val (.long vc), .second, .val (.long sc), .second, .val (.int (((1 : Int32) + (1 : Int32)) + (0 : Int32))), .val (.long u1), .second, .val (.long u2), .second, .val (.long u3), .second, .val (.double (FP.ddiv (FP.l2d va) (FP.l2d u1))), .second, .val (.double (FP.ddiv (FP.l2d vb) (FP.l2d u2))), .second, .unset, .unset, .unset, .unset, .unset, .unset, .unset] [(.long u3), (.double (FP.l2d vc))])) _
        refine XS.l2dS X3.here hx rfl (hb hby at_70) rfl (v := FP.l2d u3) rfl ?_
        show Steps p.tables e below (T3.setTop (mkF m 71 #[.val (.long va), .second, .val (.long sa), .second, .val (.long vb), .second, .val (.long sb), .second, .val (.long vc), .second, .val (.long sc), .second, .val (.int (((1 : Int32) + (1 : Int32)) + (0 : Int32))), .val (.long u1), .second, .val (.long u2), .second, .val (.long u3), .second, .val (.double (FP.ddiv (FP.l2d va) (FP.l2d u1))), .second, .val (.double (FP.ddiv (FP.l2d vb) (FP.l2d u2))), .second, .unset, .unset, .unset, .unset, .unset, .unset, .unset] [(.double (FP.l2d u3)), (.double (FP.l2d vc))])) _
        refine XS.ddivS X3.here hx rfl (hb hby at_71) rfl (Jvm.Own.nn (own_q vc u3 p3)) (v := FP.ddiv (FP.l2d vc) (FP.l2d u3)) rfl ?_
        show Steps p.tables e below (T3.setTop (mkF m 72 #[.val (.long va), .second, .val (.long sa), .second, .val (.long vb), .second, .val (.long sb), .second, .val (.long vc), .second, .val (.long sc), .second, .val (.int (((1 : Int32) + (1 : Int32)) + (0 : Int32))), .val (.long u1), .second, .val (.long u2), .second, .val (.long u3), .second, .val (.double (FP.ddiv (FP.l2d va) (FP.l2d u1))), .second, .val (.double (FP.ddiv (FP.l2d vb) (FP.l2d u2))), .second, .unset, .unset, .unset, .unset, .unset, .unset, .unset] [(.double (FP.ddiv (FP.l2d vc) (FP.l2d u3)))])) _
        refine XS.dstore X3.here hx rfl (hb hby at_72) rfl (l' := #[.val (.long va), .second, .val (.long sa), .second, .val (.long vb), .second, .val (.long sb), .second, .val (.long vc), .second, .val (.long sc), .second, .val (.int (((1 : Int32) + (1 : Int32)) + (0 : Int32))), .val (.long u1), .second, .val (.long u2), .second, .val (.long u3), .second, .val (.double (FP.ddiv (FP.l2d va) (FP.l2d u1))), .second, .val (.double (FP.ddiv (FP.l2d vb) (FP.l2d u2))), .second, .val (.double (FP.ddiv (FP.l2d vc) (FP.l2d u3))), .second, .unset, .unset, .unset, .unset, .unset]) rfl ?_
        show Steps p.tables e below (T3.setTop (mkF m 74 #[.val (.long va), .second, .val (.long sa), .second, .val (.long vb), .second, .val (.long sb), .second, .val (.long vc), .second, .val (.long sc), .second, .val (.int (((1 : Int32) + (1 : Int32)) + (0 : Int32))), .val (.long u1), .second, .val (.long u2), .second, .val (.long u3), .second, .val (.double (FP.ddiv (FP.l2d va) (FP.l2d u1))), .second, .val (.double (FP.ddiv (FP.l2d vb) (FP.l2d u2))), .second, .val (.double (FP.ddiv (FP.l2d vc) (FP.l2d u3))), .second, .unset, .unset, .unset, .unset, .unset] [])) _
        refine st4 _ ?_
        show Steps p.tables e below (T4.setTop (mkF m 77 #[.val (.long va), .second, .val (.long sa), .second, .val (.long vb), .second, .val (.long sb), .second, .val (.long vc), .second, .val (.long sc), .second, .val (.int (((1 : Int32) + (1 : Int32)) + (0 : Int32))), .val (.long u1), .second, .val (.long u2), .second, .val (.long u3), .second, .val (.double (FP.ddiv (FP.l2d va) (FP.l2d u1))), .second, .val (.double (FP.ddiv (FP.l2d vb) (FP.l2d u2))), .second, .val (.double (FP.ddiv (FP.l2d vc) (FP.l2d u3))), .second, .unset, .unset, .unset, .unset, .unset] [(.ref a4)])) _
        refine XS.dup X4.here hx rfl (hb hby at_77) rfl rfl ?_
        show Steps p.tables e below (T4.setTop (mkF m 78 #[.val (.long va), .second, .val (.long sa), .second, .val (.long vb), .second, .val (.long sb), .second, .val (.long vc), .second, .val (.long sc), .second, .val (.int (((1 : Int32) + (1 : Int32)) + (0 : Int32))), .val (.long u1), .second, .val (.long u2), .second, .val (.long u3), .second, .val (.double (FP.ddiv (FP.l2d va) (FP.l2d u1))), .second, .val (.double (FP.ddiv (FP.l2d vb) (FP.l2d u2))), .second, .val (.double (FP.ddiv (FP.l2d vc) (FP.l2d u3))), .second, .unset, .unset, .unset, .unset, .unset] [(.ref a4), (.ref a4)])) _
        refine st5.trans ?_
        show Steps p.tables e below (T5.setTop (mkF m 81 #[.val (.long va), .second, .val (.long sa), .second, .val (.long vb), .second, .val (.long sb), .second, .val (.long vc), .second, .val (.long sc), .second, .val (.int (((1 : Int32) + (1 : Int32)) + (0 : Int32))), .val (.long u1), .second, .val (.long u2), .second, .val (.long u3), .second, .val (.double (FP.ddiv (FP.l2d va) (FP.l2d u1))), .second, .val (.double (FP.ddiv (FP.l2d vb) (FP.l2d u2))), .second, .val (.double (FP.ddiv (FP.l2d vc) (FP.l2d u3))), .second, .unset, .unset, .unset, .unset, .unset] [(.ref a4)])) _
        refine XS.astore X5.here hx rfl (hb hby at_81) rfl rfl (l' := #[.val (.long va), .second, .val (.long sa), .second, .val (.long vb), .second, .val (.long sb), .second, .val (.long vc), .second, .val (.long sc), .second, .val (.int (((1 : Int32) + (1 : Int32)) + (0 : Int32))), .val (.long u1), .second, .val (.long u2), .second, .val (.long u3), .second, .val (.double (FP.ddiv (FP.l2d va) (FP.l2d u1))), .second, .val (.double (FP.ddiv (FP.l2d vb) (FP.l2d u2))), .second, .val (.double (FP.ddiv (FP.l2d vc) (FP.l2d u3))), .second, .val (.ref a4), .unset, .unset, .unset, .unset]) rfl ?_
        show Steps p.tables e below (T5.setTop (mkF m 83 #[.val (.long va), .second, .val (.long sa), .second, .val (.long vb), .second, .val (.long sb), .second, .val (.long vc), .second, .val (.long sc), .second, .val (.int (((1 : Int32) + (1 : Int32)) + (0 : Int32))), .val (.long u1), .second, .val (.long u2), .second, .val (.long u3), .second, .val (.double (FP.ddiv (FP.l2d va) (FP.l2d u1))), .second, .val (.double (FP.ddiv (FP.l2d vb) (FP.l2d u2))), .second, .val (.double (FP.ddiv (FP.l2d vc) (FP.l2d u3))), .second, .val (.ref a4), .unset, .unset, .unset, .unset] [])) _
        refine XS.aload X5.here hx rfl (hb hby at_83) rfl rfl ?_
        show Steps p.tables e below (T5.setTop (mkF m 85 #[.val (.long va), .second, .val (.long sa), .second, .val (.long vb), .second, .val (.long sb), .second, .val (.long vc), .second, .val (.long sc), .second, .val (.int (((1 : Int32) + (1 : Int32)) + (0 : Int32))), .val (.long u1), .second, .val (.long u2), .second, .val (.long u3), .second, .val (.double (FP.ddiv (FP.l2d va) (FP.l2d u1))), .second, .val (.double (FP.ddiv (FP.l2d vb) (FP.l2d u2))), .second, .val (.double (FP.ddiv (FP.l2d vc) (FP.l2d u3))), .second, .val (.ref a4), .unset, .unset, .unset, .unset] [(.ref a4)])) _
        refine XS.lloadN X5.here hx rfl (hb hby at_85) rfl ?_
        show Steps p.tables e below (T5.setTop (mkF m 86 #[.val (.long va), .second, .val (.long sa), .second, .val (.long vb), .second, .val (.long sb), .second, .val (.long vc), .second, .val (.long sc), .second, .val (.int (((1 : Int32) + (1 : Int32)) + (0 : Int32))), .val (.long u1), .second, .val (.long u2), .second, .val (.long u3), .second, .val (.double (FP.ddiv (FP.l2d va) (FP.l2d u1))), .second, .val (.double (FP.ddiv (FP.l2d vb) (FP.l2d u2))), .second, .val (.double (FP.ddiv (FP.l2d vc) (FP.l2d u3))), .second, .val (.ref a4), .unset, .unset, .unset, .unset] [(.long va), (.ref a4)])) _
        refine XS.lload X5.here hx rfl (hb hby at_86) rfl ?_
        show Steps p.tables e below (T5.setTop (mkF m 88 #[.val (.long va), .second, .val (.long sa), .second, .val (.long vb), .second, .val (.long sb), .second, .val (.long vc), .second, .val (.long sc), .second, .val (.int (((1 : Int32) + (1 : Int32)) + (0 : Int32))), .val (.long u1), .second, .val (.long u2), .second, .val (.long u3), .second, .val (.double (FP.ddiv (FP.l2d va) (FP.l2d u1))), .second, .val (.double (FP.ddiv (FP.l2d vb) (FP.l2d u2))), .second, .val (.double (FP.ddiv (FP.l2d vc) (FP.l2d u3))), .second, .val (.ref a4), .unset, .unset, .unset, .unset] [(.long u1), (.long va), (.ref a4)])) _
        refine st6.trans ?_
        show Steps p.tables e below (T6.setTop (mkF m 91 #[.val (.long va), .second, .val (.long sa), .second, .val (.long vb), .second, .val (.long sb), .second, .val (.long vc), .second, .val (.long sc), .second, .val (.int (((1 : Int32) + (1 : Int32)) + (0 : Int32))), .val (.long u1), .second, .val (.long u2), .second, .val (.long u3), .second, .val (.double (FP.ddiv (FP.l2d va) (FP.l2d u1))), .second, .val (.double (FP.ddiv (FP.l2d vb) (FP.l2d u2))), .second, .val (.double (FP.ddiv (FP.l2d vc) (FP.l2d u3))), .second, .val (.ref a4), .unset, .unset, .unset, .unset] [])) _
        refine XS.iload X6.here hx rfl (hb hby at_91) rfl ?_
        show Steps p.tables e below (T6.setTop (mkF m 93 #[.val (.long va), .second, .val (.long sa), .second, .val (.long vb), .second, .val (.long sb), .second, .val (.long vc), .second, .val (.long sc), .second, .val (.int (((1 : Int32) + (1 : Int32)) + (0 : Int32))), .val (.long u1), .second, .val (.long u2), .second, .val (.long u3), .second, .val (.double (FP.ddiv (FP.l2d va) (FP.l2d u1))), .second, .val (.double (FP.ddiv (FP.l2d vb) (FP.l2d u2))), .second, .val (.double (FP.ddiv (FP.l2d vc) (FP.l2d u3))), .second, .val (.ref a4), .unset, .unset, .unset, .unset] [(.int (((1 : Int32) + (1 : Int32)) + (0 : Int32)))])) _
        refine XS.iconst X6.here hx rfl (hb hby at_93) ?_
        show Steps p.tables e below (T6.setTop (mkF m 94 #[.val (.long va), .second, .val (.long sa), .second, .val (.long vb), .second, .val (.long sb), .second, .val (.long vc), .second, .val (.long sc), .second, .val (.int (((1 : Int32) + (1 : Int32)) + (0 : Int32))), .val (.long u1), .second, .val (.long u2), .second, .val (.long u3), .second, .val (.double (FP.ddiv (FP.l2d va) (FP.l2d u1))), .second, .val (.double (FP.ddiv (FP.l2d vb) (FP.l2d u2))), .second, .val (.double (FP.ddiv (FP.l2d vc) (FP.l2d u3))), .second, .val (.ref a4), .unset, .unset, .unset, .unset] [(.int (2 : Int32)), (.int (((1 : Int32) + (1 : Int32)) + (0 : Int32)))])) _
        refine XS.icmpNo X6.here hx rfl (hb hby at_94) rfl rfl ?_
        show Steps p.tables e below (T6.setTop (mkF m 97 #[.val (.long va), .second, .val (.long sa), .second, .val (.long vb), .second, .val (.long sb), .second, .val (.long vc), .second, .val (.long sc), .second, .val (.int (((1 : Int32) + (1 : Int32)) + (0 : Int32))), .val (.long u1), .second, .val (.long u2), .second, .val (.long u3), .second, .val (.double (FP.ddiv (FP.l2d va) (FP.l2d u1))), .second, .val (.double (FP.ddiv (FP.l2d vb) (FP.l2d u2))), .second, .val (.double (FP.ddiv (FP.l2d vc) (FP.l2d u3))), .second, .val (.ref a4), .unset, .unset, .unset, .unset] [])) _
        refine XS.aload X6.here hx rfl (hb hby at_97) rfl rfl ?_
        show Steps p.tables e below (T6.setTop (mkF m 99 #[.val (.long va), .second, .val (.long sa), .second, .val (.long vb), .second, .val (.long sb), .second, .val (.long vc), .second, .val (.long sc), .second, .val (.int (((1 : Int32) + (1 : Int32)) + (0 : Int32))), .val (.long u1), .second, .val (.long u2), .second, .val (.long u3), .second, .val (.double (FP.ddiv (FP.l2d va) (FP.l2d u1))), .second, .val (.double (FP.ddiv (FP.l2d vb) (FP.l2d u2))), .second, .val (.double (FP.ddiv (FP.l2d vc) (FP.l2d u3))), .second, .val (.ref a4), .unset, .unset, .unset, .unset] [(.ref a4)])) _
        refine XS.lload X6.here hx rfl (hb hby at_99) rfl ?_
        show Steps p.tables e below (T6.setTop (mkF m 101 #[.val (.long va), .second, .val (.long sa), .second, .val (.long vb), .second, .val (.long sb), .second, .val (.long vc), .second, .val (.long sc), .second, .val (.int (((1 : Int32) + (1 : Int32)) + (0 : Int32))), .val (.long u1), .second, .val (.long u2), .second, .val (.long u3), .second, .val (.double (FP.ddiv (FP.l2d va) (FP.l2d u1))), .second, .val (.double (FP.ddiv (FP.l2d vb) (FP.l2d u2))), .second, .val (.double (FP.ddiv (FP.l2d vc) (FP.l2d u3))), .second, .val (.ref a4), .unset, .unset, .unset, .unset] [(.long vb), (.ref a4)])) _
        refine XS.lload X6.here hx rfl (hb hby at_101) rfl ?_
        show Steps p.tables e below (T6.setTop (mkF m 103 #[.val (.long va), .second, .val (.long sa), .second, .val (.long vb), .second, .val (.long sb), .second, .val (.long vc), .second, .val (.long sc), .second, .val (.int (((1 : Int32) + (1 : Int32)) + (0 : Int32))), .val (.long u1), .second, .val (.long u2), .second, .val (.long u3), .second, .val (.double (FP.ddiv (FP.l2d va) (FP.l2d u1))), .second, .val (.double (FP.ddiv (FP.l2d vb) (FP.l2d u2))), .second, .val (.double (FP.ddiv (FP.l2d vc) (FP.l2d u3))), .second, .val (.ref a4), .unset, .unset, .unset, .unset] [(.long u2), (.long vb), (.ref a4)])) _
        refine st17.trans ?_
        show Steps p.tables e below (T17.setTop (mkF m 106 #[.val (.long va), .second, .val (.long sa), .second, .val (.long vb), .second, .val (.long sb), .second, .val (.long vc), .second, .val (.long sc), .second, .val (.int (((1 : Int32) + (1 : Int32)) + (0 : Int32))), .val (.long u1), .second, .val (.long u2), .second, .val (.long u3), .second, .val (.double (FP.ddiv (FP.l2d va) (FP.l2d u1))), .second, .val (.double (FP.ddiv (FP.l2d vb) (FP.l2d u2))), .second, .val (.double (FP.ddiv (FP.l2d vc) (FP.l2d u3))), .second, .val (.ref a4), .unset, .unset, .unset, .unset] [])) _
        refine XS.iload X17.here hx rfl (hb hby at_106) rfl ?_
        show Steps p.tables e below (T17.setTop (mkF m 108 #[.val (.long va), .second, .val (.long sa), .second, .val (.long vb), .second, .val (.long sb), .second, .val (.long vc), .second, .val (.long sc), .second, .val (.int (((1 : Int32) + (1 : Int32)) + (0 : Int32))), .val (.long u1), .second, .val (.long u2), .second, .val (.long u3), .second, .val (.double (FP.ddiv (FP.l2d va) (FP.l2d u1))), .second, .val (.double (FP.ddiv (FP.l2d vb) (FP.l2d u2))), .second, .val (.double (FP.ddiv (FP.l2d vc) (FP.l2d u3))), .second, .val (.ref a4), .unset, .unset, .unset, .unset] [(.int (((1 : Int32) + (1 : Int32)) + (0 : Int32)))])) _
        refine XS.iconst X17.here hx rfl (hb hby at_108) ?_
        show Steps p.tables e below (T17.setTop (mkF m 109 #[.val (.long va), .second, .val (.long sa), .second, .val (.long vb), .second, .val (.long sb), .second, .val (.long vc), .second, .val (.long sc), .second, .val (.int (((1 : Int32) + (1 : Int32)) + (0 : Int32))), .val (.long u1), .second, .val (.long u2), .second, .val (.long u3), .second, .val (.double (FP.ddiv (FP.l2d va) (FP.l2d u1))), .second, .val (.double (FP.ddiv (FP.l2d vb) (FP.l2d u2))), .second, .val (.double (FP.ddiv (FP.l2d vc) (FP.l2d u3))), .second, .val (.ref a4), .unset, .unset, .unset, .unset] [(.int (3 : Int32)), (.int (((1 : Int32) + (1 : Int32)) + (0 : Int32)))])) _
        refine XS.icmpYes X17.here hx rfl (pc0 := 109) (pc' := 121) rfl (hb hby at_109) rfl rfl (by decide) (by decide) ?_
        show Steps p.tables e below (T17.setTop (mkF m 121 #[.val (.long va), .second, .val (.long sa), .second, .val (.long vb), .second, .val (.long sb), .second, .val (.long vc), .second, .val (.long sc), .second, .val (.int (((1 : Int32) + (1 : Int32)) + (0 : Int32))), .val (.long u1), .second, .val (.long u2), .second, .val (.long u3), .second, .val (.double (FP.ddiv (FP.l2d va) (FP.l2d u1))), .second, .val (.double (FP.ddiv (FP.l2d vb) (FP.l2d u2))), .second, .val (.double (FP.ddiv (FP.l2d vc) (FP.l2d u3))), .second, .val (.ref a4), .unset, .unset, .unset, .unset] [])) _
        refine XS.dload X17.here hx rfl (hb hby at_121) rfl ?_
        show Steps p.tables e below (T17.setTop (mkF m 123 #[.val (.long va), .second, .val (.long sa), .second, .val (.long vb), .second, .val (.long sb), .second, .val (.long vc), .second, .val (.long sc), .second, .val (.int (((1 : Int32) + (1 : Int32)) + (0 : Int32))), .val (.long u1), .second, .val (.long u2), .second, .val (.long u3), .second, .val (.double (FP.ddiv (FP.l2d va) (FP.l2d u1))), .second, .val (.double (FP.ddiv (FP.l2d vb) (FP.l2d u2))), .second, .val (.double (FP.ddiv (FP.l2d vc) (FP.l2d u3))), .second, .val (.ref a4), .unset, .unset, .unset, .unset] [(.double (FP.ddiv (FP.l2d va) (FP.l2d u1)))])) _
        refine XS.dstore X17.here hx rfl (hb hby at_123) rfl (l' := #[.val (.long va), .second, .val (.long sa), .second, .val (.long vb), .second, .val (.long sb), .second, .val (.long vc), .second, .val (.long sc), .second, .val (.int (((1 : Int32) + (1 : Int32)) + (0 : Int32))), .val (.long u1), .second, .val (.long u2), .second, .val (.long u3), .second, .val (.double (FP.ddiv (FP.l2d va) (FP.l2d u1))), .second, .val (.double (FP.ddiv (FP.l2d vb) (FP.l2d u2))), .second, .val (.double (FP.ddiv (FP.l2d vc) (FP.l2d u3))), .second, .val (.ref a4), .val (.double (FP.ddiv (FP.l2d va) (FP.l2d u1))), .second, .unset, .unset]) rfl ?_
        show Steps p.tables e below (T17.setTop (mkF m 125 #[.val (.long va), .second, .val (.long sa), .second, .val (.long vb), .second, .val (.long sb), .second, .val (.long vc), .second, .val (.long sc), .second, .val (.int (((1 : Int32) + (1 : Int32)) + (0 : Int32))), .val (.long u1), .second, .val (.long u2), .second, .val (.long u3), .second, .val (.double (FP.ddiv (FP.l2d va) (FP.l2d u1))), .second, .val (.double (FP.ddiv (FP.l2d vb) (FP.l2d u2))), .second, .val (.double (FP.ddiv (FP.l2d vc) (FP.l2d u3))), .second, .val (.ref a4), .val (.double (FP.ddiv (FP.l2d va) (FP.l2d u1))), .second, .unset, .unset] [])) _
        refine XS.iload X17.here hx rfl (hb hby at_125) rfl ?_
        show Steps p.tables e below (T17.setTop (mkF m 127 #[.val (.long va), .second, .val (.long sa), .second, .val (.long vb), .second, .val (.long sb), .second, .val (.long vc), .second, .val (.long sc), .second, .val (.int (((1 : Int32) + (1 : Int32)) + (0 : Int32))), .val (.long u1), .second, .val (.long u2), .second, .val (.long u3), .second, .val (.double (FP.ddiv (FP.l2d va) (FP.l2d u1))), .second, .val (.double (FP.ddiv (FP.l2d vb) (FP.l2d u2))), .second, .val (.double (FP.ddiv (FP.l2d vc) (FP.l2d u3))), .second, .val (.ref a4), .val (.double (FP.ddiv (FP.l2d va) (FP.l2d u1))), .second, .unset, .unset] [(.int (((1 : Int32) + (1 : Int32)) + (0 : Int32)))])) _
        refine XS.iconst X17.here hx rfl (hb hby at_127) ?_
        show Steps p.tables e below (T17.setTop (mkF m 128 #[.val (.long va), .second, .val (.long sa), .second, .val (.long vb), .second, .val (.long sb), .second, .val (.long vc), .second, .val (.long sc), .second, .val (.int (((1 : Int32) + (1 : Int32)) + (0 : Int32))), .val (.long u1), .second, .val (.long u2), .second, .val (.long u3), .second, .val (.double (FP.ddiv (FP.l2d va) (FP.l2d u1))), .second, .val (.double (FP.ddiv (FP.l2d vb) (FP.l2d u2))), .second, .val (.double (FP.ddiv (FP.l2d vc) (FP.l2d u3))), .second, .val (.ref a4), .val (.double (FP.ddiv (FP.l2d va) (FP.l2d u1))), .second, .unset, .unset] [(.int (2 : Int32)), (.int (((1 : Int32) + (1 : Int32)) + (0 : Int32)))])) _
        refine XS.icmpNo X17.here hx rfl (hb hby at_128) rfl rfl ?_
        show Steps p.tables e below (T17.setTop (mkF m 131 #[.val (.long va), .second, .val (.long sa), .second, .val (.long vb), .second, .val (.long sb), .second, .val (.long vc), .second, .val (.long sc), .second, .val (.int (((1 : Int32) + (1 : Int32)) + (0 : Int32))), .val (.long u1), .second, .val (.long u2), .second, .val (.long u3), .second, .val (.double (FP.ddiv (FP.l2d va) (FP.l2d u1))), .second, .val (.double (FP.ddiv (FP.l2d vb) (FP.l2d u2))), .second, .val (.double (FP.ddiv (FP.l2d vc) (FP.l2d u3))), .second, .val (.ref a4), .val (.double (FP.ddiv (FP.l2d va) (FP.l2d u1))), .second, .unset, .unset] [])) _
        refine pick_0 _ _ _ _ _ _ _ _ _ _ 0 _ _ 0 _ _ _ m1_ X17 hx hby (own_q vb u2 p2) (own_q va u1 p1) hm1 _ ?_
        show Steps p.tables e below (T17.setTop (mkF m 143 #[.val (.long va), .second, .val (.long sa), .second, .val (.long vb), .second, .val (.long sb), .second, .val (.long vc), .second, .val (.long sc), .second, .val (.int (((1 : Int32) + (1 : Int32)) + (0 : Int32))), .val (.long u1), .second, .val (.long u2), .second, .val (.long u3), .second, .val (.double (FP.ddiv (FP.l2d va) (FP.l2d u1))), .second, .val (.double (FP.ddiv (FP.l2d vb) (FP.l2d u2))), .second, .val (.double (FP.ddiv (FP.l2d vc) (FP.l2d u3))), .second, .val (.ref a4), .val (.double m1_), .second, .unset, .unset] [])) _
        refine XS.iload X17.here hx rfl (hb hby at_143) rfl ?_
        show Steps p.tables e below (T17.setTop (mkF m 145 #[.val (.long va), .second, .val (.long sa), .second, .val (.long vb), .second, .val (.long sb), .second, .val (.long vc), .second, .val (.long sc), .second, .val (.int (((1 : Int32) + (1 : Int32)) + (0 : Int32))), .val (.long u1), .second, .val (.long u2), .second, .val (.long u3), .second, .val (.double (FP.ddiv (FP.l2d va) (FP.l2d u1))), .second, .val (.double (FP.ddiv (FP.l2d vb) (FP.l2d u2))), .second, .val (.double (FP.ddiv (FP.l2d vc) (FP.l2d u3))), .second, .val (.ref a4), .val (.double m1_), .second, .unset, .unset] [(.int (((1 : Int32) + (1 : Int32)) + (0 : Int32)))])) _
        refine XS.iconst X17.here hx rfl (hb hby at_145) ?_
        show Steps p.tables e below (T17.setTop (mkF m 146 #[.val (.long va), .second, .val (.long sa), .second, .val (.long vb), .second, .val (.long sb), .second, .val (.long vc), .second, .val (.long sc), .second, .val (.int (((1 : Int32) + (1 : Int32)) + (0 : Int32))), .val (.long u1), .second, .val (.long u2), .second, .val (.long u3), .second, .val (.double (FP.ddiv (FP.l2d va) (FP.l2d u1))), .second, .val (.double (FP.ddiv (FP.l2d vb) (FP.l2d u2))), .second, .val (.double (FP.ddiv (FP.l2d vc) (FP.l2d u3))), .second, .val (.ref a4), .val (.double m1_), .second, .unset, .unset] [(.int (3 : Int32)), (.int (((1 : Int32) + (1 : Int32)) + (0 : Int32)))])) _
        refine XS.icmpYes X17.here hx rfl (pc0 := 146) (pc' := 161) rfl (hb hby at_146) rfl rfl (by decide) (by decide) ?_
        show Steps p.tables e below (T17.setTop (mkF m 161 #[.val (.long va), .second, .val (.long sa), .second, .val (.long vb), .second, .val (.long sb), .second, .val (.long vc), .second, .val (.long sc), .second, .val (.int (((1 : Int32) + (1 : Int32)) + (0 : Int32))), .val (.long u1), .second, .val (.long u2), .second, .val (.long u3), .second, .val (.double (FP.ddiv (FP.l2d va) (FP.l2d u1))), .second, .val (.double (FP.ddiv (FP.l2d vb) (FP.l2d u2))), .second, .val (.double (FP.ddiv (FP.l2d vc) (FP.l2d u3))), .second, .val (.ref a4), .val (.double m1_), .second, .unset, .unset] [])) _
        refine XS.aload X17.here hx rfl (hb hby at_161) rfl rfl ?_
        show Steps p.tables e below (T17.setTop (mkF m 163 #[.val (.long va), .second, .val (.long sa), .second, .val (.long vb), .second, .val (.long sb), .second, .val (.long vc), .second, .val (.long sc), .second, .val (.int (((1 : Int32) + (1 : Int32)) + (0 : Int32))), .val (.long u1), .second, .val (.long u2), .second, .val (.long u3), .second, .val (.double (FP.ddiv (FP.l2d va) (FP.l2d u1))), .second, .val (.double (FP.ddiv (FP.l2d vb) (FP.l2d u2))), .second, .val (.double (FP.ddiv (FP.l2d vc) (FP.l2d u3))), .second, .val (.ref a4), .val (.double m1_), .second, .unset, .unset] [(.ref a4)])) _
        refine st9.trans ?_
        show Steps p.tables e below (T9.setTop (mkF m 166 #[.val (.long va), .second, .val (.long sa), .second, .val (.long vb), .second, .val (.long sb), .second, .val (.long vc), .second, .val (.long sc), .second, .val (.int (((1 : Int32) + (1 : Int32)) + (0 : Int32))), .val (.long u1), .second, .val (.long u2), .second, .val (.long u3), .second, .val (.double (FP.ddiv (FP.l2d va) (FP.l2d u1))), .second, .val (.double (FP.ddiv (FP.l2d vb) (FP.l2d u2))), .second, .val (.double (FP.ddiv (FP.l2d vc) (FP.l2d u3))), .second, .val (.ref a4), .val (.double m1_), .second, .unset, .unset] [(.double w9)])) _
        refine XS.dstore X9.here hx rfl (hb hby at_166) rfl (l' := #[.val (.long va), .second, .val (.long sa), .second, .val (.long vb), .second, .val (.long sb), .second, .val (.long vc), .second, .val (.long sc), .second, .val (.int (((1 : Int32) + (1 : Int32)) + (0 : Int32))), .val (.long u1), .second, .val (.long u2), .second, .val (.long u3), .second, .val (.double (FP.ddiv (FP.l2d va) (FP.l2d u1))), .second, .val (.double (FP.ddiv (FP.l2d vb) (FP.l2d u2))), .second, .val (.double (FP.ddiv (FP.l2d vc) (FP.l2d u3))), .second, .val (.ref a4), .val (.double m1_), .second, .val (.double w9), .second]) rfl ?_
        show Steps p.tables e below (T9.setTop (mkF m 168 #[.val (.long va), .second, .val (.long sa), .second, .val (.long vb), .second, .val (.long sb), .second, .val (.long vc), .second, .val (.long sc), .second, .val (.int (((1 : Int32) + (1 : Int32)) + (0 : Int32))), .val (.long u1), .second, .val (.long u2), .second, .val (.long u3), .second, .val (.double (FP.ddiv (FP.l2d va) (FP.l2d u1))), .second, .val (.double (FP.ddiv (FP.l2d vb) (FP.l2d u2))), .second, .val (.double (FP.ddiv (FP.l2d vc) (FP.l2d u3))), .second, .val (.ref a4), .val (.double m1_), .second, .val (.double w9), .second] [])) _
        refine XS.dload X9.here hx rfl (hb hby at_168) rfl ?_
        show Steps p.tables e below (T9.setTop (mkF m 170 #[.val (.long va), .second, .val (.long sa), .second, .val (.long vb), .second, .val (.long sb), .second, .val (.long vc), .second, .val (.long sc), .second, .val (.int (((1 : Int32) + (1 : Int32)) + (0 : Int32))), .val (.long u1), .second, .val (.long u2), .second, .val (.long u3), .second, .val (.double (FP.ddiv (FP.l2d va) (FP.l2d u1))), .second, .val (.double (FP.ddiv (FP.l2d vb) (FP.l2d u2))), .second, .val (.double (FP.ddiv (FP.l2d vc) (FP.l2d u3))), .second, .val (.ref a4), .val (.double m1_), .second, .val (.double w9), .second] [(.double w9)])) _
        refine XS.dload X9.here hx rfl (hb hby at_170) rfl ?_
        show Steps p.tables e below (T9.setTop (mkF m 172 #[.val (.long va), .second, .val (.long sa), .second, .val (.long vb), .second, .val (.long sb), .second, .val (.long vc), .second, .val (.long sc), .second, .val (.int (((1 : Int32) + (1 : Int32)) + (0 : Int32))), .val (.long u1), .second, .val (.long u2), .second, .val (.long u3), .second, .val (.double (FP.ddiv (FP.l2d va) (FP.l2d u1))), .second, .val (.double (FP.ddiv (FP.l2d vb) (FP.l2d u2))), .second, .val (.double (FP.ddiv (FP.l2d vc) (FP.l2d u3))), .second, .val (.ref a4), .val (.double m1_), .second, .val (.double w9), .second] [(.double m1_), (.double w9)])) _
        refine XS.dcmpS X9.here hx rfl (hb hby at_172) rfl (v := Jvm.Op.cmpValue (FP.dcmp w9 m1_) .l) rfl ?_
        show Steps p.tables e below (T9.setTop (mkF m 173 #[.val (.long va), .second, .val (.long sa), .second, .val (.long vb), .second, .val (.long sb), .second, .val (.long vc), .second, .val (.long sc), .second, .val (.int (((1 : Int32) + (1 : Int32)) + (0 : Int32))), .val (.long u1), .second, .val (.long u2), .second, .val (.long u3), .second, .val (.double (FP.ddiv (FP.l2d va) (FP.l2d u1))), .second, .val (.double (FP.ddiv (FP.l2d vb) (FP.l2d u2))), .second, .val (.double (FP.ddiv (FP.l2d vc) (FP.l2d u3))), .second, .val (.ref a4), .val (.double m1_), .second, .val (.double w9), .second] [(.int (Jvm.Op.cmpValue (FP.dcmp w9 m1_) .l))])) _
        refine XS.ifNo X9.here hx rfl (hb hby at_173) rfl ((Jvm.Own.holdsD f9 fm1 _ _).trans (Jvm.Own.dF (fun q => q heq))) ?_
        show Steps p.tables e below (T9.setTop (mkF m 176 #[.val (.long va), .second, .val (.long sa), .second, .val (.long vb), .second, .val (.long sb), .second, .val (.long vc), .second, .val (.long sc), .second, .val (.int (((1 : Int32) + (1 : Int32)) + (0 : Int32))), .val (.long u1), .second, .val (.long u2), .second, .val (.long u3), .second, .val (.double (FP.ddiv (FP.l2d va) (FP.l2d u1))), .second, .val (.double (FP.ddiv (FP.l2d vb) (FP.l2d u2))), .second, .val (.double (FP.ddiv (FP.l2d vc) (FP.l2d u3))), .second, .val (.ref a4), .val (.double m1_), .second, .val (.double w9), .second] [])) _
        refine XS.iconst X9.here hx rfl (hb hby at_176) ?_
        show Steps p.tables e below (T9.setTop (mkF m 177 #[.val (.long va), .second, .val (.long sa), .second, .val (.long vb), .second, .val (.long sb), .second, .val (.long vc), .second, .val (.long sc), .second, .val (.int (((1 : Int32) + (1 : Int32)) + (0 : Int32))), .val (.long u1), .second, .val (.long u2), .second, .val (.long u3), .second, .val (.double (FP.ddiv (FP.l2d va) (FP.l2d u1))), .second, .val (.double (FP.ddiv (FP.l2d vb) (FP.l2d u2))), .second, .val (.double (FP.ddiv (FP.l2d vc) (FP.l2d u3))), .second, .val (.ref a4), .val (.double m1_), .second, .val (.double w9), .second] [(.int (1 : Int32))])) _
        refine XS.goto X9.here hx rfl (pc0 := 177) (pc' := 181) rfl (hb hby at_177) (by decide) (by decide) ?_
        show Steps p.tables e below (T9.setTop (mkF m 181 #[.val (.long va), .second, .val (.long sa), .second, .val (.long vb), .second, .val (.long sb), .second, .val (.long vc), .second, .val (.long sc), .second, .val (.int (((1 : Int32) + (1 : Int32)) + (0 : Int32))), .val (.long u1), .second, .val (.long u2), .second, .val (.long u3), .second, .val (.double (FP.ddiv (FP.l2d va) (FP.l2d u1))), .second, .val (.double (FP.ddiv (FP.l2d vb) (FP.l2d u2))), .second, .val (.double (FP.ddiv (FP.l2d vc) (FP.l2d u3))), .second, .val (.ref a4), .val (.double m1_), .second, .val (.double w9), .second] [(.int (1 : Int32))])) _
        exact retN X9 hx (t := .boolean) Bd.returns (by simp) (hb hby at_181) hr
      · show QL n0 _ T9.heap _
        exact ⟨rfl, Fr.app M17 N9⟩
  · rcases Decidable.em (sb.toInt < (0 : Int64).toInt) with q3 | q3
    · obtain ⟨_, _, ⟨T1, L1, k1, n1⟩, -, X1, ⟨Lc1, hQ1, l1, y1, z1⟩, st1⟩ := Jvm.LawKit.callS X0 hx (y := (⟨"com/example/quadwarden/quadwarden/cli/PairedTimingsRatioMaxPinLaw", "positive", "(J)J"⟩ : MethodName)) hown (mvT hZ (hw _ (List.mem_of_getElem? (i := 0) rfl))) (mvT hZ (hw _ (List.mem_of_getElem? (i := 1) rfl))) (mvT hZ (hw _ (List.mem_of_getElem? (i := 2) rfl))) (mvT hZ (hw _ (List.mem_of_getElem? (i := 3) rfl))) (by decide) (backOf (W := 0) (rmPos l Z a0 hw [] sa h0 n0 Z0) hZ (hw _ (List.mem_of_getElem? (i := 3) rfl)) (hw _ (List.mem_of_getElem? (i := 2) rfl)) (by decide) (by decide)) (g := (mkF m 29 #[.val (.long va), .second, .val (.long sa), .second, .val (.long vb), .second, .val (.long sb), .second, .val (.long vc), .second, .val (.long sc), .second, .val (.int (((1 : Int32) + (0 : Int32)) + (1 : Int32))), .unset, .unset, .unset, .unset, .unset, .unset, .unset, .unset, .unset, .unset, .unset, .unset, .unset, .unset, .unset, .unset, .unset] [(.long sa)])) rfl (by rw [hml]; rfl) (argsL := [(.long sa)]) (rest := []) (lenOf pd_19 rfl) rfl (by show 2 * 0 + _ ≤ _; exact Nat.le_of_eq rfl) (hb hby at_29) (fun _ _ => ⟨rfl, e0, (by decide : 0 + 0 ≤ _), (by decide : 0 + 0 ≤ _)⟩)
      dsimp only [Pt.U, Pt.locs, Pt.cells, Pt.slots] at X1 l1 y1 z1 st1 hQ1
      subst l1 y1 z1
      obtain ⟨u1, rfl, N1, e1, p1⟩ := hQ1
      obtain ⟨_, _, ⟨T2, L2, k2, n2⟩, -, X2, ⟨Lc2, hQ2, l2, y2, z2⟩, st2⟩ := Jvm.LawKit.callS X1 hx (y := (⟨"com/example/quadwarden/quadwarden/cli/PairedTimingsRatioMaxPinLaw", "positive", "(J)J"⟩ : MethodName)) hown (mvT hZ (hw _ (List.mem_of_getElem? (i := 0) rfl))) (mvT hZ (hw _ (List.mem_of_getElem? (i := 1) rfl))) (mvT hZ (hw _ (List.mem_of_getElem? (i := 2) rfl))) (mvT hZ (hw _ (List.mem_of_getElem? (i := 3) rfl))) (by decide) (backOf (W := 0) (rmPos l Z a0 hw [] sb h0 n0 Z0) hZ (hw _ (List.mem_of_getElem? (i := 3) rfl)) (hw _ (List.mem_of_getElem? (i := 2) rfl)) (by decide) (by decide)) (g := (mkF m 36 #[.val (.long va), .second, .val (.long sa), .second, .val (.long vb), .second, .val (.long sb), .second, .val (.long vc), .second, .val (.long sc), .second, .val (.int (((1 : Int32) + (0 : Int32)) + (1 : Int32))), .val (.long u1), .second, .unset, .unset, .unset, .unset, .unset, .unset, .unset, .unset, .unset, .unset, .unset, .unset, .unset, .unset, .unset] [(.long sb)])) rfl (by rw [hml]; rfl) (argsL := [(.long sb)]) (rest := []) (lenOf pd_19 rfl) rfl (by show 2 * 0 + _ ≤ _; exact Nat.le_of_eq rfl) (hb hby at_36) (fun _ _ => ⟨rfl, e1, (by decide : 0 + 0 ≤ _), (by decide : 0 + 0 ≤ _)⟩)
      dsimp only [Pt.U, Pt.locs, Pt.cells, Pt.slots] at X2 l2 y2 z2 st2 hQ2
      subst l2 y2 z2
      obtain ⟨u2, rfl, N2, e2, p2⟩ := hQ2
      obtain ⟨_, _, ⟨T3, L3, k3, n3⟩, -, X3, ⟨Lc3, hQ3, l3, y3, z3⟩, st3⟩ := Jvm.LawKit.callS X2 hx (y := (⟨"com/example/quadwarden/quadwarden/cli/PairedTimingsRatioMaxPinLaw", "positive", "(J)J"⟩ : MethodName)) hown (mvT hZ (hw _ (List.mem_of_getElem? (i := 0) rfl))) (mvT hZ (hw _ (List.mem_of_getElem? (i := 1) rfl))) (mvT hZ (hw _ (List.mem_of_getElem? (i := 2) rfl))) (mvT hZ (hw _ (List.mem_of_getElem? (i := 3) rfl))) (by decide) (backOf (W := 0) (rmPos l Z a0 hw [] sc h0 n0 Z0) hZ (hw _ (List.mem_of_getElem? (i := 3) rfl)) (hw _ (List.mem_of_getElem? (i := 2) rfl)) (by decide) (by decide)) (g := (mkF m 43 #[.val (.long va), .second, .val (.long sa), .second, .val (.long vb), .second, .val (.long sb), .second, .val (.long vc), .second, .val (.long sc), .second, .val (.int (((1 : Int32) + (0 : Int32)) + (1 : Int32))), .val (.long u1), .second, .val (.long u2), .second, .unset, .unset, .unset, .unset, .unset, .unset, .unset, .unset, .unset, .unset, .unset, .unset, .unset] [(.long sc)])) rfl (by rw [hml]; rfl) (argsL := [(.long sc)]) (rest := []) (lenOf pd_19 rfl) rfl (by show 2 * 0 + _ ≤ _; exact Nat.le_of_eq rfl) (hb hby at_43) (fun _ _ => ⟨rfl, e2, (by decide : 0 + 0 ≤ _), (by decide : 0 + 0 ≤ _)⟩)
      dsimp only [Pt.U, Pt.locs, Pt.cells, Pt.slots] at X3 l3 y3 z3 st3 hQ3
      subst l3 y3 z3
      obtain ⟨u3, rfl, N3, e3, p3⟩ := hQ3
      obtain ⟨T4, h4, X4, e4, E4, A4, D4, -, st4⟩ := newO X3 hx hZ hown (hw _ (List.mem_of_getElem? (i := 5) rfl)) (hw _ (List.mem_of_getElem? (i := 6) rfl)) (hw _ (List.mem_of_getElem? (i := 7) rfl)) e3 (g := (mkF m 74 #[.val (.long va), .second, .val (.long sa), .second, .val (.long vb), .second, .val (.long sb), .second, .val (.long vc), .second, .val (.long sc), .second, .val (.int (((1 : Int32) + (0 : Int32)) + (1 : Int32))), .val (.long u1), .second, .val (.long u2), .second, .val (.long u3), .second, .val (.double (FP.ddiv (FP.l2d va) (FP.l2d u1))), .second, .val (.double (FP.ddiv (FP.l2d vb) (FP.l2d u2))), .second, .val (.double (FP.ddiv (FP.l2d vc) (FP.l2d u3))), .second, .unset, .unset, .unset, .unset, .unset] [])) rfl (hb hby at_74) (by decide) (by decide)
      obtain ⟨a4, g4⟩ : ∃ z, z = h0.size := ⟨_, rfl⟩
      rw [← g4] at A4 D4 st4
      have D_0 := D4 (Or.inr (hw _ (List.mem_of_getElem? (i := 39) rfl))) (ty := (.object "java/util/List")) (by decide)
      have D_1 := D4 (Or.inr (hw _ (List.mem_of_getElem? (i := 41) rfl))) (ty := (.object "java/util/List")) (by decide)
      have D_2 := D4 (Or.inr (hw _ (List.mem_of_getElem? (i := 43) rfl))) (ty := (.object "java/util/List")) (by decide)
      have g_4 : n0 ≤ a4 := Nat.le_trans Z0 (Nat.le_of_eq g4.symm)
      have O4 := O.ext E4
      have Z4 : n0 ≤ h4.size := Nat.le_trans Z0 E4.1
      obtain ⟨_, _, ⟨T5, L5, k5, n5⟩, -, X5, ⟨Lc5, hQ5, l5, y5, z5⟩, st5⟩ := X4.specialBack hx (y := (⟨"com/example/quadwarden/quadwarden/cli/PairedTimings", "<init>", "()V"⟩ : MethodName)) rfl hown (mvT hZ (hw _ (List.mem_of_getElem? (i := 8) rfl))) (mvT hZ (hw _ (List.mem_of_getElem? (i := 9) rfl))) (mvT hZ (hw _ (List.mem_of_getElem? (i := 10) rfl))) (by decide) (backOf (W := 1) (rmPi l Z a0 hw [] a4 h4 n0 Z4 w3 O4 S g_4 A4 D_0 D_1 D_2) hZ (hw _ (List.mem_of_getElem? (i := 10) rfl)) (hw _ (List.mem_of_getElem? (i := 7) rfl)) (by decide) (by decide)) (g := (mkF m 78 #[.val (.long va), .second, .val (.long sa), .second, .val (.long vb), .second, .val (.long sb), .second, .val (.long vc), .second, .val (.long sc), .second, .val (.int (((1 : Int32) + (0 : Int32)) + (1 : Int32))), .val (.long u1), .second, .val (.long u2), .second, .val (.long u3), .second, .val (.double (FP.ddiv (FP.l2d va) (FP.l2d u1))), .second, .val (.double (FP.ddiv (FP.l2d vb) (FP.l2d u2))), .second, .val (.double (FP.ddiv (FP.l2d vc) (FP.l2d u3))), .second, .unset, .unset, .unset, .unset, .unset] [(.ref a4), (.ref a4)])) rfl (by rw [hml]; rfl) (Steps.refl _) (a := a4) (argsL := []) (rest := [(.ref a4)]) (lenOf pd_0 rfl) rfl (by show 2 * 0 + _ ≤ _; exact Nat.le_of_eq rfl) (hb hby at_78) (fun _ _ => ⟨rfl, e4, (by decide : 1 + 3 ≤ _), (by decide : 3 + 9 ≤ _)⟩)
      dsimp only [Pt.U, Pt.locs, Pt.cells, Pt.slots] at X5 l5 y5 z5 st5 hQ5
      subst l5 y5 z5
      obtain ⟨rfl, N5, K5, la, lb, lc, P5⟩ := hQ5
      have O5 := O4.keep K5 (allS g_4 all0)
      have Z5 : n0 ≤ T5.heap.size := Nat.le_trans Z4 K5.1
      have M5 := Fr.app (Fr.app (Fr.app (Fr.app N0 N1) N2) N3) N5
      obtain ⟨cq6, kq6, q6a, q6b, q6c⟩ := isOf hZ rfl P5.1.1
      obtain ⟨_, _, ⟨T6, L6, k6, n6⟩, -, X6, ⟨Lc6, hQ6, l6, y6, z6⟩, st6⟩ := X5.virtualBack hx (y := (⟨"com/example/quadwarden/quadwarden/cli/PairedTimings", "add", "(JJ)V"⟩ : MethodName)) (z := (⟨"com/example/quadwarden/quadwarden/cli/PairedTimings", "add", "(JJ)V"⟩ : MethodName)) hown (mvT hZ (hw _ (List.mem_of_getElem? (i := 44) rfl))) (mvT hZ (hw _ (List.mem_of_getElem? (i := 45) rfl))) (notFace_of_selects (args := #[]) (mvT hZ (hw _ (List.mem_of_getElem? (i := 47) rfl)))) (mvT hZ (hw _ (List.mem_of_getElem? (i := 47) rfl))) (mvT hZ (hw _ (List.mem_of_getElem? (i := 46) rfl))) (by decide) (backOf (W := 0) (rmP1 l Z a0 hw [] a4 va u1 T5.heap n0 Z5 la lb lc w3 O5 S P5 (Jvm.Own.nn (own_q va u1 p1))) hZ (hw _ (List.mem_of_getElem? (i := 48) rfl)) (hw _ (List.mem_of_getElem? (i := 7) rfl)) (by decide) (by decide)) q6a q6c (g := (mkF m 88 #[.val (.long va), .second, .val (.long sa), .second, .val (.long vb), .second, .val (.long sb), .second, .val (.long vc), .second, .val (.long sc), .second, .val (.int (((1 : Int32) + (0 : Int32)) + (1 : Int32))), .val (.long u1), .second, .val (.long u2), .second, .val (.long u3), .second, .val (.double (FP.ddiv (FP.l2d va) (FP.l2d u1))), .second, .val (.double (FP.ddiv (FP.l2d vb) (FP.l2d u2))), .second, .val (.double (FP.ddiv (FP.l2d vc) (FP.l2d u3))), .second, .val (.ref a4), .unset, .unset, .unset, .unset] [(.long u1), (.long va), (.ref a4)])) rfl (by rw [hml]; rfl) (Steps.refl _) (argsL := [(.long va), (.long u1)]) (rest := []) (lenOf pd_20 rfl) rfl (by show 2 * 0 + _ ≤ _; exact Nat.le_of_eq rfl) (hb hby at_88) (fun _ _ => ⟨rfl, rfl, (by decide : 4 + 6 ≤ _), (by decide : 12 + 33 ≤ _)⟩)
      dsimp only [Pt.U, Pt.locs, Pt.cells, Pt.slots] at X6 l6 y6 z6 st6 hQ6
      subst l6 y6 z6
      obtain ⟨rfl, N6, K6, ta, tb, tc, x0_, P6, B6⟩ := hQ6
      have Z6 : n0 ≤ T6.heap.size := Nat.le_trans Z5 K6.1
      have M6 := Fr.app M5 N6
      obtain ⟨cq17, kq17, q17a, q17b, q17c⟩ := isOf hZ rfl P6.1.1
      obtain ⟨_, _, ⟨T17, L17, k17, n17⟩, -, X17, ⟨Lc17, hQ17, l17, y17, z17⟩, st17⟩ := X6.virtualBack hx (y := (⟨"com/example/quadwarden/quadwarden/cli/PairedTimings", "add", "(JJ)V"⟩ : MethodName)) (z := (⟨"com/example/quadwarden/quadwarden/cli/PairedTimings", "add", "(JJ)V"⟩ : MethodName)) hown (mvT hZ (hw _ (List.mem_of_getElem? (i := 44) rfl))) (mvT hZ (hw _ (List.mem_of_getElem? (i := 45) rfl))) (notFace_of_selects (args := #[]) (mvT hZ (hw _ (List.mem_of_getElem? (i := 47) rfl)))) (mvT hZ (hw _ (List.mem_of_getElem? (i := 47) rfl))) (mvT hZ (hw _ (List.mem_of_getElem? (i := 46) rfl))) (by decide) (backOf (W := 0) (rmP2 l Z a0 hw [] a4 vb u2 T6.heap n0 Z6 la lb lc ta tb tc ((0 : Int32) + 1) 1 ((List.replicate 10 .null).set 0 (.ref x0_)) rfl (by decide) P6 (Jvm.Own.nn (own_q vb u2 p2))) hZ (hw _ (List.mem_of_getElem? (i := 48) rfl)) (hw _ (List.mem_of_getElem? (i := 7) rfl)) (by decide) (by decide)) q17a q17c (g := (mkF m 103 #[.val (.long va), .second, .val (.long sa), .second, .val (.long vb), .second, .val (.long sb), .second, .val (.long vc), .second, .val (.long sc), .second, .val (.int (((1 : Int32) + (0 : Int32)) + (1 : Int32))), .val (.long u1), .second, .val (.long u2), .second, .val (.long u3), .second, .val (.double (FP.ddiv (FP.l2d va) (FP.l2d u1))), .second, .val (.double (FP.ddiv (FP.l2d vb) (FP.l2d u2))), .second, .val (.double (FP.ddiv (FP.l2d vc) (FP.l2d u3))), .second, .val (.ref a4), .unset, .unset, .unset, .unset] [(.long u2), (.long vb), (.ref a4)])) rfl (by rw [hml]; rfl) (Steps.refl _) (argsL := [(.long vb), (.long u2)]) (rest := []) (lenOf pd_20 rfl) rfl (by show 2 * 0 + _ ≤ _; exact Nat.le_of_eq rfl) (hb hby at_103) (fun _ _ => ⟨rfl, rfl, (by decide : 10 + 3 ≤ _), (by decide : 45 + 3 ≤ _)⟩)
      dsimp only [Pt.U, Pt.locs, Pt.cells, Pt.slots] at X17 l17 y17 z17 st17 hQ17
      subst l17 y17 z17
      obtain ⟨rfl, N17, K17, x1_, P17, B17⟩ := hQ17
      have B17_0 := B6.keep K17 (P6.box B6 (hw _ (List.mem_of_getElem? (i := 54) rfl)))
      have Z17 : n0 ≤ T17.heap.size := Nat.le_trans Z6 K17.1
      have M17 := Fr.app M6 N17
      obtain ⟨m1_, hm1⟩ := PK.ex (FP.ddiv (FP.l2d vb) (FP.l2d u2)) (FP.ddiv (FP.l2d va) (FP.l2d u1))
      obtain ⟨fm1, ma1, mb1, mc1⟩ := hm1.spec (own_q vb u2 p2) (own_q va u1 p1)
      obtain ⟨PX_, -, -, LC_, -⟩ := id P17
      obtain ⟨cq9, kq9, q9a, q9b, q9c⟩ := isOf hZ rfl PX_.1
      obtain ⟨_, _, ⟨T9, L9, k9, n9⟩, -, X9, ⟨Lc9, hQ9, l9, y9, z9⟩, st9⟩ := X17.virtualBack hx (y := (⟨"com/example/quadwarden/quadwarden/cli/PairedTimings", "ratioMax", "()D"⟩ : MethodName)) (z := (⟨"com/example/quadwarden/quadwarden/cli/PairedTimings", "ratioMax", "()D"⟩ : MethodName)) hown (mvT hZ (hw _ (List.mem_of_getElem? (i := 103) rfl))) (mvT hZ (hw _ (List.mem_of_getElem? (i := 104) rfl))) (notFace_of_selects (args := #[]) (mvT hZ (hw _ (List.mem_of_getElem? (i := 106) rfl)))) (mvT hZ (hw _ (List.mem_of_getElem? (i := 106) rfl))) (mvT hZ (hw _ (List.mem_of_getElem? (i := 105) rfl))) (by decide) (backOf (W := 0) (rmR2 l Z a0 hw [] a4 T17.heap n0 Z17 la lb lc PX_ _ _ tc _ LC_ (by decide) x0_ x1_ (FP.ddiv (FP.l2d va) (FP.l2d u1)) (FP.ddiv (FP.l2d vb) (FP.l2d u2)) rfl B17_0 (own_q va u1 p1) rfl B17 (own_q vb u2 p2)) hZ (hw _ (List.mem_of_getElem? (i := 107) rfl)) (hw _ (List.mem_of_getElem? (i := 7) rfl)) (by decide) (by decide)) q9a q9c (g := (mkF m 163 #[.val (.long va), .second, .val (.long sa), .second, .val (.long vb), .second, .val (.long sb), .second, .val (.long vc), .second, .val (.long sc), .second, .val (.int (((1 : Int32) + (0 : Int32)) + (1 : Int32))), .val (.long u1), .second, .val (.long u2), .second, .val (.long u3), .second, .val (.double (FP.ddiv (FP.l2d va) (FP.l2d u1))), .second, .val (.double (FP.ddiv (FP.l2d vb) (FP.l2d u2))), .second, .val (.double (FP.ddiv (FP.l2d vc) (FP.l2d u3))), .second, .val (.ref a4), .val (.double m1_), .second, .unset, .unset] [(.ref a4)])) rfl (by rw [hml]; rfl) (Steps.refl _) (argsL := []) (rest := []) (lenOf pd_18 rfl) rfl (by show 2 * 0 + _ ≤ _; exact Nat.le_of_eq rfl) (hb hby at_163) (fun _ _ => ⟨rfl, rfl, (by decide : 13 + 1 ≤ _), (by decide : 48 + 4 ≤ _)⟩)
      dsimp only [Pt.U, Pt.locs, Pt.cells, Pt.slots] at X9 l9 y9 z9 st9 hQ9
      subst l9 y9 z9
      obtain ⟨w9, rfl, N9, f9, o9, l9_0, l9_1⟩ := hQ9
      have z9 := o9.imp (congrArg Jvm.Own.z) (congrArg Jvm.Own.z)
      have heq : Jvm.Own.z w9 = Jvm.Own.z m1_ := by omega
      obtain ⟨fs, hr, hrun, hended, hW, hsame⟩ := X9.leave (v := some (.int (1 : Int32))) (fun h => by rw [Bd.returns] at h; cases h)
      refine ⟨_, _, pre0 _ ?_, hrun, hended, _, _, rfl, ?_, ⟨_, rfl⟩, hW, hsame.mono (by decide) (by decide)⟩
      · show Steps p.tables e below (s₁.setTop (mkF m 0 #[.val (.long va), .second, .val (.long sa), .second, .val (.long vb), .second, .val (.long sb), .second, .val (.long vc), .second, .val (.long sc), .second, .unset, .unset, .unset, .unset, .unset, .unset, .unset, .unset, .unset, .unset, .unset, .unset, .unset, .unset, .unset, .unset, .unset, .unset] [])) _
        refine XS.iconst X0.here hx rfl (hb hby at_0) ?_
        show Steps p.tables e below (s₁.setTop (mkF m 1 #[.val (.long va), .second, .val (.long sa), .second, .val (.long vb), .second, .val (.long sb), .second, .val (.long vc), .second, .val (.long sc), .second, .unset, .unset, .unset, .unset, .unset, .unset, .unset, .unset, .unset, .unset, .unset, .unset, .unset, .unset, .unset, .unset, .unset, .unset] [(.int (1 : Int32))])) _
        refine XS.lloadN X0.here hx rfl (hb hby at_1) rfl ?_
        show Steps p.tables e below (s₁.setTop (mkF m 2 #[.val (.long va), .second, .val (.long sa), .second, .val (.long vb), .second, .val (.long sb), .second, .val (.long vc), .second, .val (.long sc), .second, .unset, .unset, .unset, .unset, .unset, .unset, .unset, .unset, .unset, .unset, .unset, .unset, .unset, .unset, .unset, .unset, .unset, .unset] [(.long sa), (.int (1 : Int32))])) _
        refine XS.lconst X0.here hx rfl (hb hby at_2) ?_
        show Steps p.tables e below (s₁.setTop (mkF m 3 #[.val (.long va), .second, .val (.long sa), .second, .val (.long vb), .second, .val (.long sb), .second, .val (.long vc), .second, .val (.long sc), .second, .unset, .unset, .unset, .unset, .unset, .unset, .unset, .unset, .unset, .unset, .unset, .unset, .unset, .unset, .unset, .unset, .unset, .unset] [(.long (0 : Int64)), (.long sa), (.int (1 : Int32))])) _
        refine XS.lcmp X0.here hx rfl (hb hby at_3) rfl ?_
        show Steps p.tables e below (s₁.setTop (mkF m 4 #[.val (.long va), .second, .val (.long sa), .second, .val (.long vb), .second, .val (.long sb), .second, .val (.long vc), .second, .val (.long sc), .second, .unset, .unset, .unset, .unset, .unset, .unset, .unset, .unset, .unset, .unset, .unset, .unset, .unset, .unset, .unset, .unset, .unset, .unset] [(.int (lcmpW sa (0 : Int64))), (.int (1 : Int32))])) _
        refine XS.ifYes X0.here hx rfl (pc0 := 4) (pc' := 11) rfl (hb hby at_4) rfl ((Jvm.Own.holdsL _ _ _).trans (Jvm.Own.dT (by omega))) (by decide) (by decide) ?_
        show Steps p.tables e below (s₁.setTop (mkF m 11 #[.val (.long va), .second, .val (.long sa), .second, .val (.long vb), .second, .val (.long sb), .second, .val (.long vc), .second, .val (.long sc), .second, .unset, .unset, .unset, .unset, .unset, .unset, .unset, .unset, .unset, .unset, .unset, .unset, .unset, .unset, .unset, .unset, .unset, .unset] [(.int (1 : Int32))])) _
        refine XS.iconst X0.here hx rfl (hb hby at_11) ?_
        show Steps p.tables e below (s₁.setTop (mkF m 12 #[.val (.long va), .second, .val (.long sa), .second, .val (.long vb), .second, .val (.long sb), .second, .val (.long vc), .second, .val (.long sc), .second, .unset, .unset, .unset, .unset, .unset, .unset, .unset, .unset, .unset, .unset, .unset, .unset, .unset, .unset, .unset, .unset, .unset, .unset] [(.int (0 : Int32)), (.int (1 : Int32))])) _
        refine XS.iadd X0.here hx rfl (hb hby at_12) rfl ?_
        show Steps p.tables e below (s₁.setTop (mkF m 13 #[.val (.long va), .second, .val (.long sa), .second, .val (.long vb), .second, .val (.long sb), .second, .val (.long vc), .second, .val (.long sc), .second, .unset, .unset, .unset, .unset, .unset, .unset, .unset, .unset, .unset, .unset, .unset, .unset, .unset, .unset, .unset, .unset, .unset, .unset] [(.int ((1 : Int32) + (0 : Int32)))])) _
        refine XS.lload X0.here hx rfl (hb hby at_13) rfl ?_
        show Steps p.tables e below (s₁.setTop (mkF m 15 #[.val (.long va), .second, .val (.long sa), .second, .val (.long vb), .second, .val (.long sb), .second, .val (.long vc), .second, .val (.long sc), .second, .unset, .unset, .unset, .unset, .unset, .unset, .unset, .unset, .unset, .unset, .unset, .unset, .unset, .unset, .unset, .unset, .unset, .unset] [(.long sb), (.int ((1 : Int32) + (0 : Int32)))])) _
        refine XS.lconst X0.here hx rfl (hb hby at_15) ?_
        show Steps p.tables e below (s₁.setTop (mkF m 16 #[.val (.long va), .second, .val (.long sa), .second, .val (.long vb), .second, .val (.long sb), .second, .val (.long vc), .second, .val (.long sc), .second, .unset, .unset, .unset, .unset, .unset, .unset, .unset, .unset, .unset, .unset, .unset, .unset, .unset, .unset, .unset, .unset, .unset, .unset] [(.long (0 : Int64)), (.long sb), (.int ((1 : Int32) + (0 : Int32)))])) _
        refine XS.lcmp X0.here hx rfl (hb hby at_16) rfl ?_
        show Steps p.tables e below (s₁.setTop (mkF m 17 #[.val (.long va), .second, .val (.long sa), .second, .val (.long vb), .second, .val (.long sb), .second, .val (.long vc), .second, .val (.long sc), .second, .unset, .unset, .unset, .unset, .unset, .unset, .unset, .unset, .unset, .unset, .unset, .unset, .unset, .unset, .unset, .unset, .unset, .unset] [(.int (lcmpW sb (0 : Int64))), (.int ((1 : Int32) + (0 : Int32)))])) _
        refine XS.ifNo X0.here hx rfl (hb hby at_17) rfl ((Jvm.Own.holdsL _ _ _).trans (Jvm.Own.dF (by omega))) ?_
        show Steps p.tables e below (s₁.setTop (mkF m 20 #[.val (.long va), .second, .val (.long sa), .second, .val (.long vb), .second, .val (.long sb), .second, .val (.long vc), .second, .val (.long sc), .second, .unset, .unset, .unset, .unset, .unset, .unset, .unset, .unset, .unset, .unset, .unset, .unset, .unset, .unset, .unset, .unset, .unset, .unset] [(.int ((1 : Int32) + (0 : Int32)))])) _
        refine XS.iconst X0.here hx rfl (hb hby at_20) ?_
        show Steps p.tables e below (s₁.setTop (mkF m 21 #[.val (.long va), .second, .val (.long sa), .second, .val (.long vb), .second, .val (.long sb), .second, .val (.long vc), .second, .val (.long sc), .second, .unset, .unset, .unset, .unset, .unset, .unset, .unset, .unset, .unset, .unset, .unset, .unset, .unset, .unset, .unset, .unset, .unset, .unset] [(.int (1 : Int32)), (.int ((1 : Int32) + (0 : Int32)))])) _
        refine XS.goto X0.here hx rfl (pc0 := 21) (pc' := 25) rfl (hb hby at_21) (by decide) (by decide) ?_
        show Steps p.tables e below (s₁.setTop (mkF m 25 #[.val (.long va), .second, .val (.long sa), .second, .val (.long vb), .second, .val (.long sb), .second, .val (.long vc), .second, .val (.long sc), .second, .unset, .unset, .unset, .unset, .unset, .unset, .unset, .unset, .unset, .unset, .unset, .unset, .unset, .unset, .unset, .unset, .unset, .unset] [(.int (1 : Int32)), (.int ((1 : Int32) + (0 : Int32)))])) _
        refine XS.iadd X0.here hx rfl (hb hby at_25) rfl ?_
        show Steps p.tables e below (s₁.setTop (mkF m 26 #[.val (.long va), .second, .val (.long sa), .second, .val (.long vb), .second, .val (.long sb), .second, .val (.long vc), .second, .val (.long sc), .second, .unset, .unset, .unset, .unset, .unset, .unset, .unset, .unset, .unset, .unset, .unset, .unset, .unset, .unset, .unset, .unset, .unset, .unset] [(.int (((1 : Int32) + (0 : Int32)) + (1 : Int32)))])) _
        refine XS.istore X0.here hx rfl (hb hby at_26) rfl (l' := #[.val (.long va), .second, .val (.long sa), .second, .val (.long vb), .second, .val (.long sb), .second, .val (.long vc), .second, .val (.long sc), .second, .val (.int (((1 : Int32) + (0 : Int32)) + (1 : Int32))), .unset, .unset, .unset, .unset, .unset, .unset, .unset, .unset, .unset, .unset, .unset, .unset, .unset, .unset, .unset, .unset, .unset]) rfl ?_
        show Steps p.tables e below (s₁.setTop (mkF m 28 #[.val (.long va), .second, .val (.long sa), .second, .val (.long vb), .second, .val (.long sb), .second, .val (.long vc), .second, .val (.long sc), .second, .val (.int (((1 : Int32) + (0 : Int32)) + (1 : Int32))), .unset, .unset, .unset, .unset, .unset, .unset, .unset, .unset, .unset, .unset, .unset, .unset, .unset, .unset, .unset, .unset, .unset] [])) _
        refine XS.lloadN X0.here hx rfl (hb hby at_28) rfl ?_
        show Steps p.tables e below (s₁.setTop (mkF m 29 #[.val (.long va), .second, .val (.long sa), .second, .val (.long vb), .second, .val (.long sb), .second, .val (.long vc), .second, .val (.long sc), .second, .val (.int (((1 : Int32) + (0 : Int32)) + (1 : Int32))), .unset, .unset, .unset, .unset, .unset, .unset, .unset, .unset, .unset, .unset, .unset, .unset, .unset, .unset, .unset, .unset, .unset] [(.long sa)])) _
        refine st1 _ ?_
        show Steps p.tables e below (T1.setTop (mkF m 32 #[.val (.long va), .second, .val (.long sa), .second, .val (.long vb), .second, .val (.long sb), .second, .val (.long vc), .second, .val (.long sc), .second, .val (.int (((1 : Int32) + (0 : Int32)) + (1 : Int32))), .unset, .unset, .unset, .unset, .unset, .unset, .unset, .unset, .unset, .unset, .unset, .unset, .unset, .unset, .unset, .unset, .unset] [(.long u1)])) _
        refine XS.lstore X1.here hx rfl (hb hby at_32) rfl (l' := #[.val (.long va), .second, .val (.long sa), .second, .val (.long vb), .second, .val (.long sb), .second, .val (.long vc), .second, .val (.long sc), .second, .val (.int (((1 : Int32) + (0 : Int32)) + (1 : Int32))), .val (.long u1), .second, .unset, .unset, .unset, .unset, .unset, .unset, .unset, .unset, .unset, .unset, .unset, .unset, .unset, .unset, .unset]) rfl ?_
        show Steps p.tables e below (T1.setTop (mkF m 34 #[.val (.long va), .second, .val (.long sa), .second, .val (.long vb), .second, .val (.long sb), .second, .val (.long vc), .second, .val (.long sc), .second, .val (.int (((1 : Int32) + (0 : Int32)) + (1 : Int32))), .val (.long u1), .second, .unset, .unset, .unset, .unset, .unset, .unset, .unset, .unset, .unset, .unset, .unset, .unset, .unset, .unset, .unset] [])) _
        refine XS.lload X1.here hx rfl (hb hby at_34) rfl ?_
        show Steps p.tables e below (T1.setTop (mkF m 36 #[.val (.long va), .second, .val (.long sa), .second, .val (.long vb), .second, .val (.long sb), .second, .val (.long vc), .second, .val (.long sc), .second, .val (.int (((1 : Int32) + (0 : Int32)) + (1 : Int32))), .val (.long u1), .second, .unset, .unset, .unset, .unset, .unset, .unset, .unset, .unset, .unset, .unset, .unset, .unset, .unset, .unset, .unset] [(.long sb)])) _
        refine st2 _ ?_
        show Steps p.tables e below (T2.setTop (mkF m 39 #[.val (.long va), .second, .val (.long sa), .second, .val (.long vb), .second, .val (.long sb), .second, .val (.long vc), .second, .val (.long sc), .second, .val (.int (((1 : Int32) + (0 : Int32)) + (1 : Int32))), .val (.long u1), .second, .unset, .unset, .unset, .unset, .unset, .unset, .unset, .unset, .unset, .unset, .unset, .unset, .unset, .unset, .unset] [(.long u2)])) _
        refine XS.lstore X2.here hx rfl (hb hby at_39) rfl (l' := #[.val (.long va), .second, .val (.long sa), .second, .val (.long vb), .second, .val (.long sb), .second, .val (.long vc), .second, .val (.long sc), .second, .val (.int (((1 : Int32) + (0 : Int32)) + (1 : Int32))), .val (.long u1), .second, .val (.long u2), .second, .unset, .unset, .unset, .unset, .unset, .unset, .unset, .unset, .unset, .unset, .unset, .unset, .unset]) rfl ?_
        show Steps p.tables e below (T2.setTop (mkF m 41 #[.val (.long va), .second, .val (.long sa), .second, .val (.long vb), .second, .val (.long sb), .second, .val (.long vc), .second, .val (.long sc), .second, .val (.int (((1 : Int32) + (0 : Int32)) + (1 : Int32))), .val (.long u1), .second, .val (.long u2), .second, .unset, .unset, .unset, .unset, .unset, .unset, .unset, .unset, .unset, .unset, .unset, .unset, .unset] [])) _
        refine XS.lload X2.here hx rfl (hb hby at_41) rfl ?_
        show Steps p.tables e below (T2.setTop (mkF m 43 #[.val (.long va), .second, .val (.long sa), .second, .val (.long vb), .second, .val (.long sb), .second, .val (.long vc), .second, .val (.long sc), .second, .val (.int (((1 : Int32) + (0 : Int32)) + (1 : Int32))), .val (.long u1), .second, .val (.long u2), .second, .unset, .unset, .unset, .unset, .unset, .unset, .unset, .unset, .unset, .unset, .unset, .unset, .unset] [(.long sc)])) _
        refine st3 _ ?_
        show Steps p.tables e below (T3.setTop (mkF m 46 #[.val (.long va), .second, .val (.long sa), .second, .val (.long vb), .second, .val (.long sb), .second, .val (.long vc), .second, .val (.long sc), .second, .val (.int (((1 : Int32) + (0 : Int32)) + (1 : Int32))), .val (.long u1), .second, .val (.long u2), .second, .unset, .unset, .unset, .unset, .unset, .unset, .unset, .unset, .unset, .unset, .unset, .unset, .unset] [(.long u3)])) _
        refine XS.lstore X3.here hx rfl (hb hby at_46) rfl (l' := #[.val (.long va), .second, .val (.long sa), .second, .val (.long vb), .second, .val (.long sb), .second, .val (.long vc), .second, .val (.long sc), .second, .val (.int (((1 : Int32) + (0 : Int32)) + (1 : Int32))), .val (.long u1), .second, .val (.long u2), .second, .val (.long u3), .second, .unset, .unset, .unset, .unset, .unset, .unset, .unset, .unset, .unset, .unset, .unset]) rfl ?_
        show Steps p.tables e below (T3.setTop (mkF m 48 #[.val (.long va), .second, .val (.long sa), .second, .val (.long vb), .second, .val (.long sb), .second, .val (.long vc), .second, .val (.long sc), .second, .val (.int (((1 : Int32) + (0 : Int32)) + (1 : Int32))), .val (.long u1), .second, .val (.long u2), .second, .val (.long u3), .second, .unset, .unset, .unset, .unset, .unset, .unset, .unset, .unset, .unset, .unset, .unset] [])) _
        refine XS.lloadN X3.here hx rfl (hb hby at_48) rfl ?_
        show Steps p.tables e below (T3.setTop (mkF m 49 #[.val (.long va), .second, .val (.long sa), .second, .val (.long vb), .second, .val (.long sb), .second, .val (.long vc), .second, .val (.long sc), .second, .val (.int (((1 : Int32) + (0 : Int32)) + (1 : Int32))), .val (.long u1), .second, .val (.long u2), .second, .val (.long u3), .second, .unset, .unset, .unset, .unset, .unset, .unset, .unset, .unset, .unset, .unset, .unset] [(.long va)])) _
        refine XS.l2dS X3.here hx rfl (hb hby at_49) rfl (v := FP.l2d va) rfl ?_
        show Steps p.tables e below (T3.setTop (mkF m 50 #[.val (.long va), .second, .val (.long sa), .second, .val (.long vb), .second, .val (.long sb), .second, .val (.long vc), .second, .val (.long sc), .second, .val (.int (((1 : Int32) + (0 : Int32)) + (1 : Int32))), .val (.long u1), .second, .val (.long u2), .second, .val (.long u3), .second, .unset, .unset, .unset, .unset, .unset, .unset, .unset, .unset, .unset, .unset, .unset] [(.double (FP.l2d va))])) _
        refine XS.lload X3.here hx rfl (hb hby at_50) rfl ?_
        show Steps p.tables e below (T3.setTop (mkF m 52 #[.val (.long va), .second, .val (.long sa), .second, .val (.long vb), .second, .val (.long sb), .second, .val (.long vc), .second, .val (.long sc), .second, .val (.int (((1 : Int32) + (0 : Int32)) + (1 : Int32))), .val (.long u1), .second, .val (.long u2), .second, .val (.long u3), .second, .unset, .unset, .unset, .unset, .unset, .unset, .unset, .unset, .unset, .unset, .unset] [(.long u1), (.double (FP.l2d va))])) _
        refine XS.l2dS X3.here hx rfl (hb hby at_52) rfl (v := FP.l2d u1) rfl ?_
        show Steps p.tables e below (T3.setTop (mkF m 53 #[.val (.long va), .second, .val (.long sa), .second, .val (.long vb), .second, .val (.long sb), .second, .val (.long vc), .second, .val (.long sc), .second, .val (.int (((1 : Int32) + (0 : Int32)) + (1 : Int32))), .val (.long u1), .second, .val (.long u2), .second, .val (.long u3), .second, .unset, .unset, .unset, .unset, .unset, .unset, .unset, .unset, .unset, .unset, .unset] [(.double (FP.l2d u1)), (.double (FP.l2d va))])) _
        refine XS.ddivS X3.here hx rfl (hb hby at_53) rfl (Jvm.Own.nn (own_q va u1 p1)) (v := FP.ddiv (FP.l2d va) (FP.l2d u1)) rfl ?_
        show Steps p.tables e below (T3.setTop (mkF m 54 #[.val (.long va), .second, .val (.long sa), .second, .val (.long vb), .second, .val (.long sb), .second, .val (.long vc), .second, .val (.long sc), .second, .val (.int (((1 : Int32) + (0 : Int32)) + (1 : Int32))), .val (.long u1), .second, .val (.long u2), .second, .val (.long u3), .second, .unset, .unset, .unset, .unset, .unset, .unset, .unset, .unset, .unset, .unset, .unset] [(.double (FP.ddiv (FP.l2d va) (FP.l2d u1)))])) _
        refine XS.dstore X3.here hx rfl (hb hby at_54) rfl (l' := #[.val (.long va), .second, .val (.long sa), .second, .val (.long vb), .second, .val (.long sb), .second, .val (.long vc), .second, .val (.long sc), .second, .val (.int (((1 : Int32) + (0 : Int32)) + (1 : Int32))), .val (.long u1), .second, .val (.long u2), .second, .val (.long u3), .second, .val (.double (FP.ddiv (FP.l2d va) (FP.l2d u1))), .second, .unset, .unset, .unset, .unset, .unset, .unset, .unset, .unset, .unset]) rfl ?_
        show Steps p.tables e below (T3.setTop (mkF m 56 #[.val (.long va), .second, .val (.long sa), .second, .val (.long vb), .second, .val (.long sb), .second, .val (.long vc), .second, .val (.long sc), .second, .val (.int (((1 : Int32) + (0 : Int32)) + (1 : Int32))), .val (.long u1), .second, .val (.long u2), .second, .val (.long u3), .second, .val (.double (FP.ddiv (FP.l2d va) (FP.l2d u1))), .second, .unset, .unset, .unset, .unset, .unset, .unset, .unset, .unset, .unset] [])) _
        refine XS.lload X3.here hx rfl (hb hby at_56) rfl ?_
        show Steps p.tables e below (T3.setTop (mkF m 58 #[.val (.long va), .second, .val (.long sa), .second, .val (.long vb), .second, .val (.long sb), .second, .val (.long vc), .second, .val (.long sc), .second, .val (.int (((1 : Int32) + (0 : Int32)) + (1 : Int32))), .val (.long u1), .second, .val (.long u2), .second, .val (.long u3), .second, .val (.double (FP.ddiv (FP.l2d va) (FP.l2d u1))), .second, .unset, .unset, .unset, .unset, .unset, .unset, .unset, .unset, .unset] [(.long vb)])) _
        refine XS.l2dS X3.here hx rfl (hb hby at_58) rfl (v := FP.l2d vb) rfl ?_
        show Steps p.tables e below (T3.setTop (mkF m 59 #[.val (.long va), .second, .val (.long sa), .second, .val (.long vb), .second, .val (.long sb), .second, .val (.long vc), .second, .val (.long sc), .second, .val (.int (((1 : Int32) + (0 : Int32)) + (1 : Int32))), .val (.long u1), .second, .val (.long u2), .second, .val (.long u3), .second, .val (.double (FP.ddiv (FP.l2d va) (FP.l2d u1))), .second, .unset, .unset, .unset, .unset, .unset, .unset, .unset, .unset, .unset] [(.double (FP.l2d vb))])) _
        refine XS.lload X3.here hx rfl (hb hby at_59) rfl ?_
        show Steps p.tables e below (T3.setTop (mkF m 61 #[.val (.long va), .second, .val (.long sa), .second, .val (.long vb), .second, .val (.long sb), .second, .val (.long vc), .second, .val (.long sc), .second, .val (.int (((1 : Int32) + (0 : Int32)) + (1 : Int32))), .val (.long u1), .second, .val (.long u2), .second, .val (.long u3), .second, .val (.double (FP.ddiv (FP.l2d va) (FP.l2d u1))), .second, .unset, .unset, .unset, .unset, .unset, .unset, .unset, .unset, .unset] [(.long u2), (.double (FP.l2d vb))])) _
        refine XS.l2dS X3.here hx rfl (hb hby at_61) rfl (v := FP.l2d u2) rfl ?_
        show Steps p.tables e below (T3.setTop (mkF m 62 #[.val (.long va), .second, .val (.long sa), .second, .val (.long vb), .second, .val (.long sb), .second, .val (.long vc), .second, .val (.long sc), .second, .val (.int (((1 : Int32) + (0 : Int32)) + (1 : Int32))), .val (.long u1), .second, .val (.long u2), .second, .val (.long u3), .second, .val (.double (FP.ddiv (FP.l2d va) (FP.l2d u1))), .second, .unset, .unset, .unset, .unset, .unset, .unset, .unset, .unset, .unset] [(.double (FP.l2d u2)), (.double (FP.l2d vb))])) _
        refine XS.ddivS X3.here hx rfl (hb hby at_62) rfl (Jvm.Own.nn (own_q vb u2 p2)) (v := FP.ddiv (FP.l2d vb) (FP.l2d u2)) rfl ?_
        show Steps p.tables e below (T3.setTop (mkF m 63 #[.val (.long va), .second, .val (.long sa), .second, .val (.long vb), .second, .val (.long sb), .second, .val (.long vc), .second, .val (.long sc), .second, .val (.int (((1 : Int32) + (0 : Int32)) + (1 : Int32))), .val (.long u1), .second, .val (.long u2), .second, .val (.long u3), .second, .val (.double (FP.ddiv (FP.l2d va) (FP.l2d u1))), .second, .unset, .unset, .unset, .unset, .unset, .unset, .unset, .unset, .unset] [(.double (FP.ddiv (FP.l2d vb) (FP.l2d u2)))])) _
        refine XS.dstore X3.here hx rfl (hb hby at_63) rfl (l' := #[.val (.long va), .second, .val (.long sa), .second, .val (.long vb), .second, .val (.long sb), .second, .val (.long vc), .second, .val (.long sc), .second, .val (.int (((1 : Int32) + (0 : Int32)) + (1 : Int32))), .val (.long u1), .second, .val (.long u2), .second, .val (.long u3), .second, .val (.double (FP.ddiv (FP.l2d va) (FP.l2d u1))), .second, .val (.double (FP.ddiv (FP.l2d vb) (FP.l2d u2))), .second, .unset, .unset, .unset, .unset, .unset, .unset, .unset]) rfl ?_
        show Steps p.tables e below (T3.setTop (mkF m 65 #[.val (.long va), .second, .val (.long sa), .second, .val (.long vb), .second, .val (.long sb), .second, .val (.long vc), .second, .val (.long sc), .second, .val (.int (((1 : Int32) + (0 : Int32)) + (1 : Int32))), .val (.long u1), .second, .val (.long u2), .second, .val (.long u3), .second, .val (.double (FP.ddiv (FP.l2d va) (FP.l2d u1))), .second, .val (.double (FP.ddiv (FP.l2d vb) (FP.l2d u2))), .second, .unset, .unset, .unset, .unset, .unset, .unset, .unset] [])) _
        refine XS.lload X3.here hx rfl (hb hby at_65) rfl ?_
        show Steps p.tables e below (T3.setTop (mkF m 67 #[.val (.long va), .second, .val (.long sa), .second, .val (.long vb), .second, .val (.long sb), .second, .val (.long vc), .second, .val (.long sc), .second, .val (.int (((1 : Int32) + (0 : Int32)) + (1 : Int32))), .val (.long u1), .second, .val (.long u2), .second, .val (.long u3), .second, .val (.double (FP.ddiv (FP.l2d va) (FP.l2d u1))), .second, .val (.double (FP.ddiv (FP.l2d vb) (FP.l2d u2))), .second, .unset, .unset, .unset, .unset, .unset, .unset, .unset] [(.long vc)])) _
        refine XS.l2dS X3.here hx rfl (hb hby at_67) rfl (v := FP.l2d vc) rfl ?_
        show Steps p.tables e below (T3.setTop (mkF m 68 #[.val (.long va), .second, .val (.long sa), .second, .val (.long vb), .second, .val (.long sb), .second, .val (.long vc), .second, .val (.long sc), .second, .val (.int (((1 : Int32) + (0 : Int32)) + (1 : Int32))), .val (.long u1), .second, .val (.long u2), .second, .val (.long u3), .second, .val (.double (FP.ddiv (FP.l2d va) (FP.l2d u1))), .second, .val (.double (FP.ddiv (FP.l2d vb) (FP.l2d u2))), .second, .unset, .unset, .unset, .unset, .unset, .unset, .unset] [(.double (FP.l2d vc))])) _
        refine XS.lload X3.here hx rfl (hb hby at_68) rfl ?_
        show Steps p.tables e below (T3.setTop (mkF m 70 #[.val (.long va), .second, .val (.long sa), .second, .val (.long vb), .second, .val (.long sb), .second, .val (.long vc), .second, .val (.long sc), .second, .val (.int (((1 : Int32) + (0 : Int32)) + (1 : Int32))), .val (.long u1), .second, .val (.long u2), .second, .val (.long u3), .second, .val (.double (FP.ddiv (FP.l2d va) (FP.l2d u1))), .second, .val (.double (FP.ddiv (FP.l2d vb) (FP.l2d u2))), .second, .unset, .unset, .unset, .unset, .unset, .unset, .unset] [(.long u3), (.double (FP.l2d vc))])) _
        refine XS.l2dS X3.here hx rfl (hb hby at_70) rfl (v := FP.l2d u3) rfl ?_
        show Steps p.tables e below (T3.setTop (mkF m 71 #[.val (.long va), .second, .val (.long sa), .second, .val (.long vb), .second, .val (.long sb), .second, .val (.long vc), .second, .val (.long sc), .second, .val (.int (((1 : Int32) + (0 : Int32)) + (1 : Int32))), .val (.long u1), .second, .val (.long u2), .second, .val (.long u3), .second, .val (.double (FP.ddiv (FP.l2d va) (FP.l2d u1))), .second, .val (.double (FP.ddiv (FP.l2d vb) (FP.l2d u2))), .second, .unset, .unset, .unset, .unset, .unset, .unset, .unset] [(.double (FP.l2d u3)), (.double (FP.l2d vc))])) _
        refine XS.ddivS X3.here hx rfl (hb hby at_71) rfl (Jvm.Own.nn (own_q vc u3 p3)) (v := FP.ddiv (FP.l2d vc) (FP.l2d u3)) rfl ?_
        show Steps p.tables e below (T3.setTop (mkF m 72 #[.val (.long va), .second, .val (.long sa), .second, .val (.long vb), .second, .val (.long sb), .second, .val (.long vc), .second, .val (.long sc), .second, .val (.int (((1 : Int32) + (0 : Int32)) + (1 : Int32))), .val (.long u1), .second, .val (.long u2), .second, .val (.long u3), .second, .val (.double (FP.ddiv (FP.l2d va) (FP.l2d u1))), .second, .val (.double (FP.ddiv (FP.l2d vb) (FP.l2d u2))), .second, .unset, .unset, .unset, .unset, .unset, .unset, .unset] [(.double (FP.ddiv (FP.l2d vc) (FP.l2d u3)))])) _
        refine XS.dstore X3.here hx rfl (hb hby at_72) rfl (l' := #[.val (.long va), .second, .val (.long sa), .second, .val (.long vb), .second, .val (.long sb), .second, .val (.long vc), .second, .val (.long sc), .second, .val (.int (((1 : Int32) + (0 : Int32)) + (1 : Int32))), .val (.long u1), .second, .val (.long u2), .second, .val (.long u3), .second, .val (.double (FP.ddiv (FP.l2d va) (FP.l2d u1))), .second, .val (.double (FP.ddiv (FP.l2d vb) (FP.l2d u2))), .second, .val (.double (FP.ddiv (FP.l2d vc) (FP.l2d u3))), .second, .unset, .unset, .unset, .unset, .unset]) rfl ?_
        show Steps p.tables e below (T3.setTop (mkF m 74 #[.val (.long va), .second, .val (.long sa), .second, .val (.long vb), .second, .val (.long sb), .second, .val (.long vc), .second, .val (.long sc), .second, .val (.int (((1 : Int32) + (0 : Int32)) + (1 : Int32))), .val (.long u1), .second, .val (.long u2), .second, .val (.long u3), .second, .val (.double (FP.ddiv (FP.l2d va) (FP.l2d u1))), .second, .val (.double (FP.ddiv (FP.l2d vb) (FP.l2d u2))), .second, .val (.double (FP.ddiv (FP.l2d vc) (FP.l2d u3))), .second, .unset, .unset, .unset, .unset, .unset] [])) _
        refine st4 _ ?_
        show Steps p.tables e below (T4.setTop (mkF m 77 #[.val (.long va), .second, .val (.long sa), .second, .val (.long vb), .second, .val (.long sb), .second, .val (.long vc), .second, .val (.long sc), .second, .val (.int (((1 : Int32) + (0 : Int32)) + (1 : Int32))), .val (.long u1), .second, .val (.long u2), .second, .val (.long u3), .second, .val (.double (FP.ddiv (FP.l2d va) (FP.l2d u1))), .second, .val (.double (FP.ddiv (FP.l2d vb) (FP.l2d u2))), .second, .val (.double (FP.ddiv (FP.l2d vc) (FP.l2d u3))), .second, .unset, .unset, .unset, .unset, .unset] [(.ref a4)])) _
        refine XS.dup X4.here hx rfl (hb hby at_77) rfl rfl ?_
        show Steps p.tables e below (T4.setTop (mkF m 78 #[.val (.long va), .second, .val (.long sa), .second, .val (.long vb), .second, .val (.long sb), .second, .val (.long vc), .second, .val (.long sc), .second, .val (.int (((1 : Int32) + (0 : Int32)) + (1 : Int32))), .val (.long u1), .second, .val (.long u2), .second, .val (.long u3), .second, .val (.double (FP.ddiv (FP.l2d va) (FP.l2d u1))), .second, .val (.double (FP.ddiv (FP.l2d vb) (FP.l2d u2))), .second, .val (.double (FP.ddiv (FP.l2d vc) (FP.l2d u3))), .second, .unset, .unset, .unset, .unset, .unset] [(.ref a4), (.ref a4)])) _
        refine st5.trans ?_
        show Steps p.tables e below (T5.setTop (mkF m 81 #[.val (.long va), .second, .val (.long sa), .second, .val (.long vb), .second, .val (.long sb), .second, .val (.long vc), .second, .val (.long sc), .second, .val (.int (((1 : Int32) + (0 : Int32)) + (1 : Int32))), .val (.long u1), .second, .val (.long u2), .second, .val (.long u3), .second, .val (.double (FP.ddiv (FP.l2d va) (FP.l2d u1))), .second, .val (.double (FP.ddiv (FP.l2d vb) (FP.l2d u2))), .second, .val (.double (FP.ddiv (FP.l2d vc) (FP.l2d u3))), .second, .unset, .unset, .unset, .unset, .unset] [(.ref a4)])) _
        refine XS.astore X5.here hx rfl (hb hby at_81) rfl rfl (l' := #[.val (.long va), .second, .val (.long sa), .second, .val (.long vb), .second, .val (.long sb), .second, .val (.long vc), .second, .val (.long sc), .second, .val (.int (((1 : Int32) + (0 : Int32)) + (1 : Int32))), .val (.long u1), .second, .val (.long u2), .second, .val (.long u3), .second, .val (.double (FP.ddiv (FP.l2d va) (FP.l2d u1))), .second, .val (.double (FP.ddiv (FP.l2d vb) (FP.l2d u2))), .second, .val (.double (FP.ddiv (FP.l2d vc) (FP.l2d u3))), .second, .val (.ref a4), .unset, .unset, .unset, .unset]) rfl ?_
        show Steps p.tables e below (T5.setTop (mkF m 83 #[.val (.long va), .second, .val (.long sa), .second, .val (.long vb), .second, .val (.long sb), .second, .val (.long vc), .second, .val (.long sc), .second, .val (.int (((1 : Int32) + (0 : Int32)) + (1 : Int32))), .val (.long u1), .second, .val (.long u2), .second, .val (.long u3), .second, .val (.double (FP.ddiv (FP.l2d va) (FP.l2d u1))), .second, .val (.double (FP.ddiv (FP.l2d vb) (FP.l2d u2))), .second, .val (.double (FP.ddiv (FP.l2d vc) (FP.l2d u3))), .second, .val (.ref a4), .unset, .unset, .unset, .unset] [])) _
        refine XS.aload X5.here hx rfl (hb hby at_83) rfl rfl ?_
        show Steps p.tables e below (T5.setTop (mkF m 85 #[.val (.long va), .second, .val (.long sa), .second, .val (.long vb), .second, .val (.long sb), .second, .val (.long vc), .second, .val (.long sc), .second, .val (.int (((1 : Int32) + (0 : Int32)) + (1 : Int32))), .val (.long u1), .second, .val (.long u2), .second, .val (.long u3), .second, .val (.double (FP.ddiv (FP.l2d va) (FP.l2d u1))), .second, .val (.double (FP.ddiv (FP.l2d vb) (FP.l2d u2))), .second, .val (.double (FP.ddiv (FP.l2d vc) (FP.l2d u3))), .second, .val (.ref a4), .unset, .unset, .unset, .unset] [(.ref a4)])) _
        refine XS.lloadN X5.here hx rfl (hb hby at_85) rfl ?_
        show Steps p.tables e below (T5.setTop (mkF m 86 #[.val (.long va), .second, .val (.long sa), .second, .val (.long vb), .second, .val (.long sb), .second, .val (.long vc), .second, .val (.long sc), .second, .val (.int (((1 : Int32) + (0 : Int32)) + (1 : Int32))), .val (.long u1), .second, .val (.long u2), .second, .val (.long u3), .second, .val (.double (FP.ddiv (FP.l2d va) (FP.l2d u1))), .second, .val (.double (FP.ddiv (FP.l2d vb) (FP.l2d u2))), .second, .val (.double (FP.ddiv (FP.l2d vc) (FP.l2d u3))), .second, .val (.ref a4), .unset, .unset, .unset, .unset] [(.long va), (.ref a4)])) _
        refine XS.lload X5.here hx rfl (hb hby at_86) rfl ?_
        show Steps p.tables e below (T5.setTop (mkF m 88 #[.val (.long va), .second, .val (.long sa), .second, .val (.long vb), .second, .val (.long sb), .second, .val (.long vc), .second, .val (.long sc), .second, .val (.int (((1 : Int32) + (0 : Int32)) + (1 : Int32))), .val (.long u1), .second, .val (.long u2), .second, .val (.long u3), .second, .val (.double (FP.ddiv (FP.l2d va) (FP.l2d u1))), .second, .val (.double (FP.ddiv (FP.l2d vb) (FP.l2d u2))), .second, .val (.double (FP.ddiv (FP.l2d vc) (FP.l2d u3))), .second, .val (.ref a4), .unset, .unset, .unset, .unset] [(.long u1), (.long va), (.ref a4)])) _
        refine st6.trans ?_
        show Steps p.tables e below (T6.setTop (mkF m 91 #[.val (.long va), .second, .val (.long sa), .second, .val (.long vb), .second, .val (.long sb), .second, .val (.long vc), .second, .val (.long sc), .second, .val (.int (((1 : Int32) + (0 : Int32)) + (1 : Int32))), .val (.long u1), .second, .val (.long u2), .second, .val (.long u3), .second, .val (.double (FP.ddiv (FP.l2d va) (FP.l2d u1))), .second, .val (.double (FP.ddiv (FP.l2d vb) (FP.l2d u2))), .second, .val (.double (FP.ddiv (FP.l2d vc) (FP.l2d u3))), .second, .val (.ref a4), .unset, .unset, .unset, .unset] [])) _
        refine XS.iload X6.here hx rfl (hb hby at_91) rfl ?_
        show Steps p.tables e below (T6.setTop (mkF m 93 #[.val (.long va), .second, .val (.long sa), .second, .val (.long vb), .second, .val (.long sb), .second, .val (.long vc), .second, .val (.long sc), .second, .val (.int (((1 : Int32) + (0 : Int32)) + (1 : Int32))), .val (.long u1), .second, .val (.long u2), .second, .val (.long u3), .second, .val (.double (FP.ddiv (FP.l2d va) (FP.l2d u1))), .second, .val (.double (FP.ddiv (FP.l2d vb) (FP.l2d u2))), .second, .val (.double (FP.ddiv (FP.l2d vc) (FP.l2d u3))), .second, .val (.ref a4), .unset, .unset, .unset, .unset] [(.int (((1 : Int32) + (0 : Int32)) + (1 : Int32)))])) _
        refine XS.iconst X6.here hx rfl (hb hby at_93) ?_
        show Steps p.tables e below (T6.setTop (mkF m 94 #[.val (.long va), .second, .val (.long sa), .second, .val (.long vb), .second, .val (.long sb), .second, .val (.long vc), .second, .val (.long sc), .second, .val (.int (((1 : Int32) + (0 : Int32)) + (1 : Int32))), .val (.long u1), .second, .val (.long u2), .second, .val (.long u3), .second, .val (.double (FP.ddiv (FP.l2d va) (FP.l2d u1))), .second, .val (.double (FP.ddiv (FP.l2d vb) (FP.l2d u2))), .second, .val (.double (FP.ddiv (FP.l2d vc) (FP.l2d u3))), .second, .val (.ref a4), .unset, .unset, .unset, .unset] [(.int (2 : Int32)), (.int (((1 : Int32) + (0 : Int32)) + (1 : Int32)))])) _
        refine XS.icmpNo X6.here hx rfl (hb hby at_94) rfl rfl ?_
        show Steps p.tables e below (T6.setTop (mkF m 97 #[.val (.long va), .second, .val (.long sa), .second, .val (.long vb), .second, .val (.long sb), .second, .val (.long vc), .second, .val (.long sc), .second, .val (.int (((1 : Int32) + (0 : Int32)) + (1 : Int32))), .val (.long u1), .second, .val (.long u2), .second, .val (.long u3), .second, .val (.double (FP.ddiv (FP.l2d va) (FP.l2d u1))), .second, .val (.double (FP.ddiv (FP.l2d vb) (FP.l2d u2))), .second, .val (.double (FP.ddiv (FP.l2d vc) (FP.l2d u3))), .second, .val (.ref a4), .unset, .unset, .unset, .unset] [])) _
        refine XS.aload X6.here hx rfl (hb hby at_97) rfl rfl ?_
        show Steps p.tables e below (T6.setTop (mkF m 99 #[.val (.long va), .second, .val (.long sa), .second, .val (.long vb), .second, .val (.long sb), .second, .val (.long vc), .second, .val (.long sc), .second, .val (.int (((1 : Int32) + (0 : Int32)) + (1 : Int32))), .val (.long u1), .second, .val (.long u2), .second, .val (.long u3), .second, .val (.double (FP.ddiv (FP.l2d va) (FP.l2d u1))), .second, .val (.double (FP.ddiv (FP.l2d vb) (FP.l2d u2))), .second, .val (.double (FP.ddiv (FP.l2d vc) (FP.l2d u3))), .second, .val (.ref a4), .unset, .unset, .unset, .unset] [(.ref a4)])) _
        refine XS.lload X6.here hx rfl (hb hby at_99) rfl ?_
        show Steps p.tables e below (T6.setTop (mkF m 101 #[.val (.long va), .second, .val (.long sa), .second, .val (.long vb), .second, .val (.long sb), .second, .val (.long vc), .second, .val (.long sc), .second, .val (.int (((1 : Int32) + (0 : Int32)) + (1 : Int32))), .val (.long u1), .second, .val (.long u2), .second, .val (.long u3), .second, .val (.double (FP.ddiv (FP.l2d va) (FP.l2d u1))), .second, .val (.double (FP.ddiv (FP.l2d vb) (FP.l2d u2))), .second, .val (.double (FP.ddiv (FP.l2d vc) (FP.l2d u3))), .second, .val (.ref a4), .unset, .unset, .unset, .unset] [(.long vb), (.ref a4)])) _
        refine XS.lload X6.here hx rfl (hb hby at_101) rfl ?_
        show Steps p.tables e below (T6.setTop (mkF m 103 #[.val (.long va), .second, .val (.long sa), .second, .val (.long vb), .second, .val (.long sb), .second, .val (.long vc), .second, .val (.long sc), .second, .val (.int (((1 : Int32) + (0 : Int32)) + (1 : Int32))), .val (.long u1), .second, .val (.long u2), .second, .val (.long u3), .second, .val (.double (FP.ddiv (FP.l2d va) (FP.l2d u1))), .second, .val (.double (FP.ddiv (FP.l2d vb) (FP.l2d u2))), .second, .val (.double (FP.ddiv (FP.l2d vc) (FP.l2d u3))), .second, .val (.ref a4), .unset, .unset, .unset, .unset] [(.long u2), (.long vb), (.ref a4)])) _
        refine st17.trans ?_
        show Steps p.tables e below (T17.setTop (mkF m 106 #[.val (.long va), .second, .val (.long sa), .second, .val (.long vb), .second, .val (.long sb), .second, .val (.long vc), .second, .val (.long sc), .second, .val (.int (((1 : Int32) + (0 : Int32)) + (1 : Int32))), .val (.long u1), .second, .val (.long u2), .second, .val (.long u3), .second, .val (.double (FP.ddiv (FP.l2d va) (FP.l2d u1))), .second, .val (.double (FP.ddiv (FP.l2d vb) (FP.l2d u2))), .second, .val (.double (FP.ddiv (FP.l2d vc) (FP.l2d u3))), .second, .val (.ref a4), .unset, .unset, .unset, .unset] [])) _
        refine XS.iload X17.here hx rfl (hb hby at_106) rfl ?_
        show Steps p.tables e below (T17.setTop (mkF m 108 #[.val (.long va), .second, .val (.long sa), .second, .val (.long vb), .second, .val (.long sb), .second, .val (.long vc), .second, .val (.long sc), .second, .val (.int (((1 : Int32) + (0 : Int32)) + (1 : Int32))), .val (.long u1), .second, .val (.long u2), .second, .val (.long u3), .second, .val (.double (FP.ddiv (FP.l2d va) (FP.l2d u1))), .second, .val (.double (FP.ddiv (FP.l2d vb) (FP.l2d u2))), .second, .val (.double (FP.ddiv (FP.l2d vc) (FP.l2d u3))), .second, .val (.ref a4), .unset, .unset, .unset, .unset] [(.int (((1 : Int32) + (0 : Int32)) + (1 : Int32)))])) _
        refine XS.iconst X17.here hx rfl (hb hby at_108) ?_
        show Steps p.tables e below (T17.setTop (mkF m 109 #[.val (.long va), .second, .val (.long sa), .second, .val (.long vb), .second, .val (.long sb), .second, .val (.long vc), .second, .val (.long sc), .second, .val (.int (((1 : Int32) + (0 : Int32)) + (1 : Int32))), .val (.long u1), .second, .val (.long u2), .second, .val (.long u3), .second, .val (.double (FP.ddiv (FP.l2d va) (FP.l2d u1))), .second, .val (.double (FP.ddiv (FP.l2d vb) (FP.l2d u2))), .second, .val (.double (FP.ddiv (FP.l2d vc) (FP.l2d u3))), .second, .val (.ref a4), .unset, .unset, .unset, .unset] [(.int (3 : Int32)), (.int (((1 : Int32) + (0 : Int32)) + (1 : Int32)))])) _
        refine XS.icmpYes X17.here hx rfl (pc0 := 109) (pc' := 121) rfl (hb hby at_109) rfl rfl (by decide) (by decide) ?_
        show Steps p.tables e below (T17.setTop (mkF m 121 #[.val (.long va), .second, .val (.long sa), .second, .val (.long vb), .second, .val (.long sb), .second, .val (.long vc), .second, .val (.long sc), .second, .val (.int (((1 : Int32) + (0 : Int32)) + (1 : Int32))), .val (.long u1), .second, .val (.long u2), .second, .val (.long u3), .second, .val (.double (FP.ddiv (FP.l2d va) (FP.l2d u1))), .second, .val (.double (FP.ddiv (FP.l2d vb) (FP.l2d u2))), .second, .val (.double (FP.ddiv (FP.l2d vc) (FP.l2d u3))), .second, .val (.ref a4), .unset, .unset, .unset, .unset] [])) _
        refine XS.dload X17.here hx rfl (hb hby at_121) rfl ?_
        show Steps p.tables e below (T17.setTop (mkF m 123 #[.val (.long va), .second, .val (.long sa), .second, .val (.long vb), .second, .val (.long sb), .second, .val (.long vc), .second, .val (.long sc), .second, .val (.int (((1 : Int32) + (0 : Int32)) + (1 : Int32))), .val (.long u1), .second, .val (.long u2), .second, .val (.long u3), .second, .val (.double (FP.ddiv (FP.l2d va) (FP.l2d u1))), .second, .val (.double (FP.ddiv (FP.l2d vb) (FP.l2d u2))), .second, .val (.double (FP.ddiv (FP.l2d vc) (FP.l2d u3))), .second, .val (.ref a4), .unset, .unset, .unset, .unset] [(.double (FP.ddiv (FP.l2d va) (FP.l2d u1)))])) _
        refine XS.dstore X17.here hx rfl (hb hby at_123) rfl (l' := #[.val (.long va), .second, .val (.long sa), .second, .val (.long vb), .second, .val (.long sb), .second, .val (.long vc), .second, .val (.long sc), .second, .val (.int (((1 : Int32) + (0 : Int32)) + (1 : Int32))), .val (.long u1), .second, .val (.long u2), .second, .val (.long u3), .second, .val (.double (FP.ddiv (FP.l2d va) (FP.l2d u1))), .second, .val (.double (FP.ddiv (FP.l2d vb) (FP.l2d u2))), .second, .val (.double (FP.ddiv (FP.l2d vc) (FP.l2d u3))), .second, .val (.ref a4), .val (.double (FP.ddiv (FP.l2d va) (FP.l2d u1))), .second, .unset, .unset]) rfl ?_
        show Steps p.tables e below (T17.setTop (mkF m 125 #[.val (.long va), .second, .val (.long sa), .second, .val (.long vb), .second, .val (.long sb), .second, .val (.long vc), .second, .val (.long sc), .second, .val (.int (((1 : Int32) + (0 : Int32)) + (1 : Int32))), .val (.long u1), .second, .val (.long u2), .second, .val (.long u3), .second, .val (.double (FP.ddiv (FP.l2d va) (FP.l2d u1))), .second, .val (.double (FP.ddiv (FP.l2d vb) (FP.l2d u2))), .second, .val (.double (FP.ddiv (FP.l2d vc) (FP.l2d u3))), .second, .val (.ref a4), .val (.double (FP.ddiv (FP.l2d va) (FP.l2d u1))), .second, .unset, .unset] [])) _
        refine XS.iload X17.here hx rfl (hb hby at_125) rfl ?_
        show Steps p.tables e below (T17.setTop (mkF m 127 #[.val (.long va), .second, .val (.long sa), .second, .val (.long vb), .second, .val (.long sb), .second, .val (.long vc), .second, .val (.long sc), .second, .val (.int (((1 : Int32) + (0 : Int32)) + (1 : Int32))), .val (.long u1), .second, .val (.long u2), .second, .val (.long u3), .second, .val (.double (FP.ddiv (FP.l2d va) (FP.l2d u1))), .second, .val (.double (FP.ddiv (FP.l2d vb) (FP.l2d u2))), .second, .val (.double (FP.ddiv (FP.l2d vc) (FP.l2d u3))), .second, .val (.ref a4), .val (.double (FP.ddiv (FP.l2d va) (FP.l2d u1))), .second, .unset, .unset] [(.int (((1 : Int32) + (0 : Int32)) + (1 : Int32)))])) _
        refine XS.iconst X17.here hx rfl (hb hby at_127) ?_
        show Steps p.tables e below (T17.setTop (mkF m 128 #[.val (.long va), .second, .val (.long sa), .second, .val (.long vb), .second, .val (.long sb), .second, .val (.long vc), .second, .val (.long sc), .second, .val (.int (((1 : Int32) + (0 : Int32)) + (1 : Int32))), .val (.long u1), .second, .val (.long u2), .second, .val (.long u3), .second, .val (.double (FP.ddiv (FP.l2d va) (FP.l2d u1))), .second, .val (.double (FP.ddiv (FP.l2d vb) (FP.l2d u2))), .second, .val (.double (FP.ddiv (FP.l2d vc) (FP.l2d u3))), .second, .val (.ref a4), .val (.double (FP.ddiv (FP.l2d va) (FP.l2d u1))), .second, .unset, .unset] [(.int (2 : Int32)), (.int (((1 : Int32) + (0 : Int32)) + (1 : Int32)))])) _
        refine XS.icmpNo X17.here hx rfl (hb hby at_128) rfl rfl ?_
        show Steps p.tables e below (T17.setTop (mkF m 131 #[.val (.long va), .second, .val (.long sa), .second, .val (.long vb), .second, .val (.long sb), .second, .val (.long vc), .second, .val (.long sc), .second, .val (.int (((1 : Int32) + (0 : Int32)) + (1 : Int32))), .val (.long u1), .second, .val (.long u2), .second, .val (.long u3), .second, .val (.double (FP.ddiv (FP.l2d va) (FP.l2d u1))), .second, .val (.double (FP.ddiv (FP.l2d vb) (FP.l2d u2))), .second, .val (.double (FP.ddiv (FP.l2d vc) (FP.l2d u3))), .second, .val (.ref a4), .val (.double (FP.ddiv (FP.l2d va) (FP.l2d u1))), .second, .unset, .unset] [])) _
        refine pick_0 _ _ _ _ _ _ _ _ _ _ 0 _ _ 0 _ _ _ m1_ X17 hx hby (own_q vb u2 p2) (own_q va u1 p1) hm1 _ ?_
        show Steps p.tables e below (T17.setTop (mkF m 143 #[.val (.long va), .second, .val (.long sa), .second, .val (.long vb), .second, .val (.long sb), .second, .val (.long vc), .second, .val (.long sc), .second, .val (.int (((1 : Int32) + (0 : Int32)) + (1 : Int32))), .val (.long u1), .second, .val (.long u2), .second, .val (.long u3), .second, .val (.double (FP.ddiv (FP.l2d va) (FP.l2d u1))), .second, .val (.double (FP.ddiv (FP.l2d vb) (FP.l2d u2))), .second, .val (.double (FP.ddiv (FP.l2d vc) (FP.l2d u3))), .second, .val (.ref a4), .val (.double m1_), .second, .unset, .unset] [])) _
        refine XS.iload X17.here hx rfl (hb hby at_143) rfl ?_
        show Steps p.tables e below (T17.setTop (mkF m 145 #[.val (.long va), .second, .val (.long sa), .second, .val (.long vb), .second, .val (.long sb), .second, .val (.long vc), .second, .val (.long sc), .second, .val (.int (((1 : Int32) + (0 : Int32)) + (1 : Int32))), .val (.long u1), .second, .val (.long u2), .second, .val (.long u3), .second, .val (.double (FP.ddiv (FP.l2d va) (FP.l2d u1))), .second, .val (.double (FP.ddiv (FP.l2d vb) (FP.l2d u2))), .second, .val (.double (FP.ddiv (FP.l2d vc) (FP.l2d u3))), .second, .val (.ref a4), .val (.double m1_), .second, .unset, .unset] [(.int (((1 : Int32) + (0 : Int32)) + (1 : Int32)))])) _
        refine XS.iconst X17.here hx rfl (hb hby at_145) ?_
        show Steps p.tables e below (T17.setTop (mkF m 146 #[.val (.long va), .second, .val (.long sa), .second, .val (.long vb), .second, .val (.long sb), .second, .val (.long vc), .second, .val (.long sc), .second, .val (.int (((1 : Int32) + (0 : Int32)) + (1 : Int32))), .val (.long u1), .second, .val (.long u2), .second, .val (.long u3), .second, .val (.double (FP.ddiv (FP.l2d va) (FP.l2d u1))), .second, .val (.double (FP.ddiv (FP.l2d vb) (FP.l2d u2))), .second, .val (.double (FP.ddiv (FP.l2d vc) (FP.l2d u3))), .second, .val (.ref a4), .val (.double m1_), .second, .unset, .unset] [(.int (3 : Int32)), (.int (((1 : Int32) + (0 : Int32)) + (1 : Int32)))])) _
        refine XS.icmpYes X17.here hx rfl (pc0 := 146) (pc' := 161) rfl (hb hby at_146) rfl rfl (by decide) (by decide) ?_
        show Steps p.tables e below (T17.setTop (mkF m 161 #[.val (.long va), .second, .val (.long sa), .second, .val (.long vb), .second, .val (.long sb), .second, .val (.long vc), .second, .val (.long sc), .second, .val (.int (((1 : Int32) + (0 : Int32)) + (1 : Int32))), .val (.long u1), .second, .val (.long u2), .second, .val (.long u3), .second, .val (.double (FP.ddiv (FP.l2d va) (FP.l2d u1))), .second, .val (.double (FP.ddiv (FP.l2d vb) (FP.l2d u2))), .second, .val (.double (FP.ddiv (FP.l2d vc) (FP.l2d u3))), .second, .val (.ref a4), .val (.double m1_), .second, .unset, .unset] [])) _
        refine XS.aload X17.here hx rfl (hb hby at_161) rfl rfl ?_
        show Steps p.tables e below (T17.setTop (mkF m 163 #[.val (.long va), .second, .val (.long sa), .second, .val (.long vb), .second, .val (.long sb), .second, .val (.long vc), .second, .val (.long sc), .second, .val (.int (((1 : Int32) + (0 : Int32)) + (1 : Int32))), .val (.long u1), .second, .val (.long u2), .second, .val (.long u3), .second, .val (.double (FP.ddiv (FP.l2d va) (FP.l2d u1))), .second, .val (.double (FP.ddiv (FP.l2d vb) (FP.l2d u2))), .second, .val (.double (FP.ddiv (FP.l2d vc) (FP.l2d u3))), .second, .val (.ref a4), .val (.double m1_), .second, .unset, .unset] [(.ref a4)])) _
        refine st9.trans ?_
        show Steps p.tables e below (T9.setTop (mkF m 166 #[.val (.long va), .second, .val (.long sa), .second, .val (.long vb), .second, .val (.long sb), .second, .val (.long vc), .second, .val (.long sc), .second, .val (.int (((1 : Int32) + (0 : Int32)) + (1 : Int32))), .val (.long u1), .second, .val (.long u2), .second, .val (.long u3), .second, .val (.double (FP.ddiv (FP.l2d va) (FP.l2d u1))), .second, .val (.double (FP.ddiv (FP.l2d vb) (FP.l2d u2))), .second, .val (.double (FP.ddiv (FP.l2d vc) (FP.l2d u3))), .second, .val (.ref a4), .val (.double m1_), .second, .unset, .unset] [(.double w9)])) _
        refine XS.dstore X9.here hx rfl (hb hby at_166) rfl (l' := #[.val (.long va), .second, .val (.long sa), .second, .val (.long vb), .second, .val (.long sb), .second, .val (.long vc), .second, .val (.long sc), .second, .val (.int (((1 : Int32) + (0 : Int32)) + (1 : Int32))), .val (.long u1), .second, .val (.long u2), .second, .val (.long u3), .second, .val (.double (FP.ddiv (FP.l2d va) (FP.l2d u1))), .second, .val (.double (FP.ddiv (FP.l2d vb) (FP.l2d u2))), .second, .val (.double (FP.ddiv (FP.l2d vc) (FP.l2d u3))), .second, .val (.ref a4), .val (.double m1_), .second, .val (.double w9), .second]) rfl ?_
        show Steps p.tables e below (T9.setTop (mkF m 168 #[.val (.long va), .second, .val (.long sa), .second, .val (.long vb), .second, .val (.long sb), .second, .val (.long vc), .second, .val (.long sc), .second, .val (.int (((1 : Int32) + (0 : Int32)) + (1 : Int32))), .val (.long u1), .second, .val (.long u2), .second, .val (.long u3), .second, .val (.double (FP.ddiv (FP.l2d va) (FP.l2d u1))), .second, .val (.double (FP.ddiv (FP.l2d vb) (FP.l2d u2))), .second, .val (.double (FP.ddiv (FP.l2d vc) (FP.l2d u3))), .second, .val (.ref a4), .val (.double m1_), .second, .val (.double w9), .second] [])) _
        refine XS.dload X9.here hx rfl (hb hby at_168) rfl ?_
        show Steps p.tables e below (T9.setTop (mkF m 170 #[.val (.long va), .second, .val (.long sa), .second, .val (.long vb), .second, .val (.long sb), .second, .val (.long vc), .second, .val (.long sc), .second, .val (.int (((1 : Int32) + (0 : Int32)) + (1 : Int32))), .val (.long u1), .second, .val (.long u2), .second, .val (.long u3), .second, .val (.double (FP.ddiv (FP.l2d va) (FP.l2d u1))), .second, .val (.double (FP.ddiv (FP.l2d vb) (FP.l2d u2))), .second, .val (.double (FP.ddiv (FP.l2d vc) (FP.l2d u3))), .second, .val (.ref a4), .val (.double m1_), .second, .val (.double w9), .second] [(.double w9)])) _
        refine XS.dload X9.here hx rfl (hb hby at_170) rfl ?_
        show Steps p.tables e below (T9.setTop (mkF m 172 #[.val (.long va), .second, .val (.long sa), .second, .val (.long vb), .second, .val (.long sb), .second, .val (.long vc), .second, .val (.long sc), .second, .val (.int (((1 : Int32) + (0 : Int32)) + (1 : Int32))), .val (.long u1), .second, .val (.long u2), .second, .val (.long u3), .second, .val (.double (FP.ddiv (FP.l2d va) (FP.l2d u1))), .second, .val (.double (FP.ddiv (FP.l2d vb) (FP.l2d u2))), .second, .val (.double (FP.ddiv (FP.l2d vc) (FP.l2d u3))), .second, .val (.ref a4), .val (.double m1_), .second, .val (.double w9), .second] [(.double m1_), (.double w9)])) _
        refine XS.dcmpS X9.here hx rfl (hb hby at_172) rfl (v := Jvm.Op.cmpValue (FP.dcmp w9 m1_) .l) rfl ?_
        show Steps p.tables e below (T9.setTop (mkF m 173 #[.val (.long va), .second, .val (.long sa), .second, .val (.long vb), .second, .val (.long sb), .second, .val (.long vc), .second, .val (.long sc), .second, .val (.int (((1 : Int32) + (0 : Int32)) + (1 : Int32))), .val (.long u1), .second, .val (.long u2), .second, .val (.long u3), .second, .val (.double (FP.ddiv (FP.l2d va) (FP.l2d u1))), .second, .val (.double (FP.ddiv (FP.l2d vb) (FP.l2d u2))), .second, .val (.double (FP.ddiv (FP.l2d vc) (FP.l2d u3))), .second, .val (.ref a4), .val (.double m1_), .second, .val (.double w9), .second] [(.int (Jvm.Op.cmpValue (FP.dcmp w9 m1_) .l))])) _
        refine XS.ifNo X9.here hx rfl (hb hby at_173) rfl ((Jvm.Own.holdsD f9 fm1 _ _).trans (Jvm.Own.dF (fun q => q heq))) ?_
        show Steps p.tables e below (T9.setTop (mkF m 176 #[.val (.long va), .second, .val (.long sa), .second, .val (.long vb), .second, .val (.long sb), .second, .val (.long vc), .second, .val (.long sc), .second, .val (.int (((1 : Int32) + (0 : Int32)) + (1 : Int32))), .val (.long u1), .second, .val (.long u2), .second, .val (.long u3), .second, .val (.double (FP.ddiv (FP.l2d va) (FP.l2d u1))), .second, .val (.double (FP.ddiv (FP.l2d vb) (FP.l2d u2))), .second, .val (.double (FP.ddiv (FP.l2d vc) (FP.l2d u3))), .second, .val (.ref a4), .val (.double m1_), .second, .val (.double w9), .second] [])) _
        refine XS.iconst X9.here hx rfl (hb hby at_176) ?_
        show Steps p.tables e below (T9.setTop (mkF m 177 #[.val (.long va), .second, .val (.long sa), .second, .val (.long vb), .second, .val (.long sb), .second, .val (.long vc), .second, .val (.long sc), .second, .val (.int (((1 : Int32) + (0 : Int32)) + (1 : Int32))), .val (.long u1), .second, .val (.long u2), .second, .val (.long u3), .second, .val (.double (FP.ddiv (FP.l2d va) (FP.l2d u1))), .second, .val (.double (FP.ddiv (FP.l2d vb) (FP.l2d u2))), .second, .val (.double (FP.ddiv (FP.l2d vc) (FP.l2d u3))), .second, .val (.ref a4), .val (.double m1_), .second, .val (.double w9), .second] [(.int (1 : Int32))])) _
        refine XS.goto X9.here hx rfl (pc0 := 177) (pc' := 181) rfl (hb hby at_177) (by decide) (by decide) ?_
        show Steps p.tables e below (T9.setTop (mkF m 181 #[.val (.long va), .second, .val (.long sa), .second, .val (.long vb), .second, .val (.long sb), .second, .val (.long vc), .second, .val (.long sc), .second, .val (.int (((1 : Int32) + (0 : Int32)) + (1 : Int32))), .val (.long u1), .second, .val (.long u2), .second, .val (.long u3), .second, .val (.double (FP.ddiv (FP.l2d va) (FP.l2d u1))), .second, .val (.double (FP.ddiv (FP.l2d vb) (FP.l2d u2))), .second, .val (.double (FP.ddiv (FP.l2d vc) (FP.l2d u3))), .second, .val (.ref a4), .val (.double m1_), .second, .val (.double w9), .second] [(.int (1 : Int32))])) _
        exact retN X9 hx (t := .boolean) Bd.returns (by simp) (hb hby at_181) hr
      · show QL n0 _ T9.heap _
        exact ⟨rfl, Fr.app M17 N9⟩
    · obtain ⟨_, _, ⟨T1, L1, k1, n1⟩, -, X1, ⟨Lc1, hQ1, l1, y1, z1⟩, st1⟩ := Jvm.LawKit.callS X0 hx (y := (⟨"com/example/quadwarden/quadwarden/cli/PairedTimingsRatioMaxPinLaw", "positive", "(J)J"⟩ : MethodName)) hown (mvT hZ (hw _ (List.mem_of_getElem? (i := 0) rfl))) (mvT hZ (hw _ (List.mem_of_getElem? (i := 1) rfl))) (mvT hZ (hw _ (List.mem_of_getElem? (i := 2) rfl))) (mvT hZ (hw _ (List.mem_of_getElem? (i := 3) rfl))) (by decide) (backOf (W := 0) (rmPos l Z a0 hw [] sa h0 n0 Z0) hZ (hw _ (List.mem_of_getElem? (i := 3) rfl)) (hw _ (List.mem_of_getElem? (i := 2) rfl)) (by decide) (by decide)) (g := (mkF m 29 #[.val (.long va), .second, .val (.long sa), .second, .val (.long vb), .second, .val (.long sb), .second, .val (.long vc), .second, .val (.long sc), .second, .val (.int (((1 : Int32) + (0 : Int32)) + (0 : Int32))), .unset, .unset, .unset, .unset, .unset, .unset, .unset, .unset, .unset, .unset, .unset, .unset, .unset, .unset, .unset, .unset, .unset] [(.long sa)])) rfl (by rw [hml]; rfl) (argsL := [(.long sa)]) (rest := []) (lenOf pd_19 rfl) rfl (by show 2 * 0 + _ ≤ _; exact Nat.le_of_eq rfl) (hb hby at_29) (fun _ _ => ⟨rfl, e0, (by decide : 0 + 0 ≤ _), (by decide : 0 + 0 ≤ _)⟩)
      dsimp only [Pt.U, Pt.locs, Pt.cells, Pt.slots] at X1 l1 y1 z1 st1 hQ1
      subst l1 y1 z1
      obtain ⟨u1, rfl, N1, e1, p1⟩ := hQ1
      obtain ⟨_, _, ⟨T2, L2, k2, n2⟩, -, X2, ⟨Lc2, hQ2, l2, y2, z2⟩, st2⟩ := Jvm.LawKit.callS X1 hx (y := (⟨"com/example/quadwarden/quadwarden/cli/PairedTimingsRatioMaxPinLaw", "positive", "(J)J"⟩ : MethodName)) hown (mvT hZ (hw _ (List.mem_of_getElem? (i := 0) rfl))) (mvT hZ (hw _ (List.mem_of_getElem? (i := 1) rfl))) (mvT hZ (hw _ (List.mem_of_getElem? (i := 2) rfl))) (mvT hZ (hw _ (List.mem_of_getElem? (i := 3) rfl))) (by decide) (backOf (W := 0) (rmPos l Z a0 hw [] sb h0 n0 Z0) hZ (hw _ (List.mem_of_getElem? (i := 3) rfl)) (hw _ (List.mem_of_getElem? (i := 2) rfl)) (by decide) (by decide)) (g := (mkF m 36 #[.val (.long va), .second, .val (.long sa), .second, .val (.long vb), .second, .val (.long sb), .second, .val (.long vc), .second, .val (.long sc), .second, .val (.int (((1 : Int32) + (0 : Int32)) + (0 : Int32))), .val (.long u1), .second, .unset, .unset, .unset, .unset, .unset, .unset, .unset, .unset, .unset, .unset, .unset, .unset, .unset, .unset, .unset] [(.long sb)])) rfl (by rw [hml]; rfl) (argsL := [(.long sb)]) (rest := []) (lenOf pd_19 rfl) rfl (by show 2 * 0 + _ ≤ _; exact Nat.le_of_eq rfl) (hb hby at_36) (fun _ _ => ⟨rfl, e1, (by decide : 0 + 0 ≤ _), (by decide : 0 + 0 ≤ _)⟩)
      dsimp only [Pt.U, Pt.locs, Pt.cells, Pt.slots] at X2 l2 y2 z2 st2 hQ2
      subst l2 y2 z2
      obtain ⟨u2, rfl, N2, e2, p2⟩ := hQ2
      obtain ⟨_, _, ⟨T3, L3, k3, n3⟩, -, X3, ⟨Lc3, hQ3, l3, y3, z3⟩, st3⟩ := Jvm.LawKit.callS X2 hx (y := (⟨"com/example/quadwarden/quadwarden/cli/PairedTimingsRatioMaxPinLaw", "positive", "(J)J"⟩ : MethodName)) hown (mvT hZ (hw _ (List.mem_of_getElem? (i := 0) rfl))) (mvT hZ (hw _ (List.mem_of_getElem? (i := 1) rfl))) (mvT hZ (hw _ (List.mem_of_getElem? (i := 2) rfl))) (mvT hZ (hw _ (List.mem_of_getElem? (i := 3) rfl))) (by decide) (backOf (W := 0) (rmPos l Z a0 hw [] sc h0 n0 Z0) hZ (hw _ (List.mem_of_getElem? (i := 3) rfl)) (hw _ (List.mem_of_getElem? (i := 2) rfl)) (by decide) (by decide)) (g := (mkF m 43 #[.val (.long va), .second, .val (.long sa), .second, .val (.long vb), .second, .val (.long sb), .second, .val (.long vc), .second, .val (.long sc), .second, .val (.int (((1 : Int32) + (0 : Int32)) + (0 : Int32))), .val (.long u1), .second, .val (.long u2), .second, .unset, .unset, .unset, .unset, .unset, .unset, .unset, .unset, .unset, .unset, .unset, .unset, .unset] [(.long sc)])) rfl (by rw [hml]; rfl) (argsL := [(.long sc)]) (rest := []) (lenOf pd_19 rfl) rfl (by show 2 * 0 + _ ≤ _; exact Nat.le_of_eq rfl) (hb hby at_43) (fun _ _ => ⟨rfl, e2, (by decide : 0 + 0 ≤ _), (by decide : 0 + 0 ≤ _)⟩)
      dsimp only [Pt.U, Pt.locs, Pt.cells, Pt.slots] at X3 l3 y3 z3 st3 hQ3
      subst l3 y3 z3
      obtain ⟨u3, rfl, N3, e3, p3⟩ := hQ3
      obtain ⟨T4, h4, X4, e4, E4, A4, D4, -, st4⟩ := newO X3 hx hZ hown (hw _ (List.mem_of_getElem? (i := 5) rfl)) (hw _ (List.mem_of_getElem? (i := 6) rfl)) (hw _ (List.mem_of_getElem? (i := 7) rfl)) e3 (g := (mkF m 74 #[.val (.long va), .second, .val (.long sa), .second, .val (.long vb), .second, .val (.long sb), .second, .val (.long vc), .second, .val (.long sc), .second, .val (.int (((1 : Int32) + (0 : Int32)) + (0 : Int32))), .val (.long u1), .second, .val (.long u2), .second, .val (.long u3), .second, .val (.double (FP.ddiv (FP.l2d va) (FP.l2d u1))), .second, .val (.double (FP.ddiv (FP.l2d vb) (FP.l2d u2))), .second, .val (.double (FP.ddiv (FP.l2d vc) (FP.l2d u3))), .second, .unset, .unset, .unset, .unset, .unset] [])) rfl (hb hby at_74) (by decide) (by decide)
      obtain ⟨a4, g4⟩ : ∃ z, z = h0.size := ⟨_, rfl⟩
      rw [← g4] at A4 D4 st4
      have D_0 := D4 (Or.inr (hw _ (List.mem_of_getElem? (i := 39) rfl))) (ty := (.object "java/util/List")) (by decide)
      have D_1 := D4 (Or.inr (hw _ (List.mem_of_getElem? (i := 41) rfl))) (ty := (.object "java/util/List")) (by decide)
      have D_2 := D4 (Or.inr (hw _ (List.mem_of_getElem? (i := 43) rfl))) (ty := (.object "java/util/List")) (by decide)
      have g_4 : n0 ≤ a4 := Nat.le_trans Z0 (Nat.le_of_eq g4.symm)
      have O4 := O.ext E4
      have Z4 : n0 ≤ h4.size := Nat.le_trans Z0 E4.1
      obtain ⟨_, _, ⟨T5, L5, k5, n5⟩, -, X5, ⟨Lc5, hQ5, l5, y5, z5⟩, st5⟩ := X4.specialBack hx (y := (⟨"com/example/quadwarden/quadwarden/cli/PairedTimings", "<init>", "()V"⟩ : MethodName)) rfl hown (mvT hZ (hw _ (List.mem_of_getElem? (i := 8) rfl))) (mvT hZ (hw _ (List.mem_of_getElem? (i := 9) rfl))) (mvT hZ (hw _ (List.mem_of_getElem? (i := 10) rfl))) (by decide) (backOf (W := 1) (rmPi l Z a0 hw [] a4 h4 n0 Z4 w3 O4 S g_4 A4 D_0 D_1 D_2) hZ (hw _ (List.mem_of_getElem? (i := 10) rfl)) (hw _ (List.mem_of_getElem? (i := 7) rfl)) (by decide) (by decide)) (g := (mkF m 78 #[.val (.long va), .second, .val (.long sa), .second, .val (.long vb), .second, .val (.long sb), .second, .val (.long vc), .second, .val (.long sc), .second, .val (.int (((1 : Int32) + (0 : Int32)) + (0 : Int32))), .val (.long u1), .second, .val (.long u2), .second, .val (.long u3), .second, .val (.double (FP.ddiv (FP.l2d va) (FP.l2d u1))), .second, .val (.double (FP.ddiv (FP.l2d vb) (FP.l2d u2))), .second, .val (.double (FP.ddiv (FP.l2d vc) (FP.l2d u3))), .second, .unset, .unset, .unset, .unset, .unset] [(.ref a4), (.ref a4)])) rfl (by rw [hml]; rfl) (Steps.refl _) (a := a4) (argsL := []) (rest := [(.ref a4)]) (lenOf pd_0 rfl) rfl (by show 2 * 0 + _ ≤ _; exact Nat.le_of_eq rfl) (hb hby at_78) (fun _ _ => ⟨rfl, e4, (by decide : 1 + 3 ≤ _), (by decide : 3 + 9 ≤ _)⟩)
      dsimp only [Pt.U, Pt.locs, Pt.cells, Pt.slots] at X5 l5 y5 z5 st5 hQ5
      subst l5 y5 z5
      obtain ⟨rfl, N5, K5, la, lb, lc, P5⟩ := hQ5
      have O5 := O4.keep K5 (allS g_4 all0)
      have Z5 : n0 ≤ T5.heap.size := Nat.le_trans Z4 K5.1
      have M5 := Fr.app (Fr.app (Fr.app (Fr.app N0 N1) N2) N3) N5
      obtain ⟨cq6, kq6, q6a, q6b, q6c⟩ := isOf hZ rfl P5.1.1
      obtain ⟨_, _, ⟨T6, L6, k6, n6⟩, -, X6, ⟨Lc6, hQ6, l6, y6, z6⟩, st6⟩ := X5.virtualBack hx (y := (⟨"com/example/quadwarden/quadwarden/cli/PairedTimings", "add", "(JJ)V"⟩ : MethodName)) (z := (⟨"com/example/quadwarden/quadwarden/cli/PairedTimings", "add", "(JJ)V"⟩ : MethodName)) hown (mvT hZ (hw _ (List.mem_of_getElem? (i := 44) rfl))) (mvT hZ (hw _ (List.mem_of_getElem? (i := 45) rfl))) (notFace_of_selects (args := #[]) (mvT hZ (hw _ (List.mem_of_getElem? (i := 47) rfl)))) (mvT hZ (hw _ (List.mem_of_getElem? (i := 47) rfl))) (mvT hZ (hw _ (List.mem_of_getElem? (i := 46) rfl))) (by decide) (backOf (W := 0) (rmP1 l Z a0 hw [] a4 va u1 T5.heap n0 Z5 la lb lc w3 O5 S P5 (Jvm.Own.nn (own_q va u1 p1))) hZ (hw _ (List.mem_of_getElem? (i := 48) rfl)) (hw _ (List.mem_of_getElem? (i := 7) rfl)) (by decide) (by decide)) q6a q6c (g := (mkF m 88 #[.val (.long va), .second, .val (.long sa), .second, .val (.long vb), .second, .val (.long sb), .second, .val (.long vc), .second, .val (.long sc), .second, .val (.int (((1 : Int32) + (0 : Int32)) + (0 : Int32))), .val (.long u1), .second, .val (.long u2), .second, .val (.long u3), .second, .val (.double (FP.ddiv (FP.l2d va) (FP.l2d u1))), .second, .val (.double (FP.ddiv (FP.l2d vb) (FP.l2d u2))), .second, .val (.double (FP.ddiv (FP.l2d vc) (FP.l2d u3))), .second, .val (.ref a4), .unset, .unset, .unset, .unset] [(.long u1), (.long va), (.ref a4)])) rfl (by rw [hml]; rfl) (Steps.refl _) (argsL := [(.long va), (.long u1)]) (rest := []) (lenOf pd_20 rfl) rfl (by show 2 * 0 + _ ≤ _; exact Nat.le_of_eq rfl) (hb hby at_88) (fun _ _ => ⟨rfl, rfl, (by decide : 4 + 6 ≤ _), (by decide : 12 + 33 ≤ _)⟩)
      dsimp only [Pt.U, Pt.locs, Pt.cells, Pt.slots] at X6 l6 y6 z6 st6 hQ6
      subst l6 y6 z6
      obtain ⟨rfl, N6, K6, ta, tb, tc, x0_, P6, B6⟩ := hQ6
      have Z6 : n0 ≤ T6.heap.size := Nat.le_trans Z5 K6.1
      have M6 := Fr.app M5 N6
      obtain ⟨PX_, -, -, LC_, -⟩ := id P6
      obtain ⟨cq9, kq9, q9a, q9b, q9c⟩ := isOf hZ rfl PX_.1
      obtain ⟨_, _, ⟨T9, L9, k9, n9⟩, -, X9, ⟨Lc9, hQ9, l9, y9, z9⟩, st9⟩ := X6.virtualBack hx (y := (⟨"com/example/quadwarden/quadwarden/cli/PairedTimings", "ratioMax", "()D"⟩ : MethodName)) (z := (⟨"com/example/quadwarden/quadwarden/cli/PairedTimings", "ratioMax", "()D"⟩ : MethodName)) hown (mvT hZ (hw _ (List.mem_of_getElem? (i := 103) rfl))) (mvT hZ (hw _ (List.mem_of_getElem? (i := 104) rfl))) (notFace_of_selects (args := #[]) (mvT hZ (hw _ (List.mem_of_getElem? (i := 106) rfl)))) (mvT hZ (hw _ (List.mem_of_getElem? (i := 106) rfl))) (mvT hZ (hw _ (List.mem_of_getElem? (i := 105) rfl))) (by decide) (backOf (W := 0) (rmR1 l Z a0 hw [] a4 T6.heap n0 Z6 la lb lc PX_ _ _ tc _ LC_ (by decide) x0_ (FP.ddiv (FP.l2d va) (FP.l2d u1)) rfl B6 (own_q va u1 p1)) hZ (hw _ (List.mem_of_getElem? (i := 107) rfl)) (hw _ (List.mem_of_getElem? (i := 7) rfl)) (by decide) (by decide)) q9a q9c (g := (mkF m 163 #[.val (.long va), .second, .val (.long sa), .second, .val (.long vb), .second, .val (.long sb), .second, .val (.long vc), .second, .val (.long sc), .second, .val (.int (((1 : Int32) + (0 : Int32)) + (0 : Int32))), .val (.long u1), .second, .val (.long u2), .second, .val (.long u3), .second, .val (.double (FP.ddiv (FP.l2d va) (FP.l2d u1))), .second, .val (.double (FP.ddiv (FP.l2d vb) (FP.l2d u2))), .second, .val (.double (FP.ddiv (FP.l2d vc) (FP.l2d u3))), .second, .val (.ref a4), .val (.double (FP.ddiv (FP.l2d va) (FP.l2d u1))), .second, .unset, .unset] [(.ref a4)])) rfl (by rw [hml]; rfl) (Steps.refl _) (argsL := []) (rest := []) (lenOf pd_18 rfl) rfl (by show 2 * 0 + _ ≤ _; exact Nat.le_of_eq rfl) (hb hby at_163) (fun _ _ => ⟨rfl, rfl, (by decide : 10 + 1 ≤ _), (by decide : 45 + 4 ≤ _)⟩)
      dsimp only [Pt.U, Pt.locs, Pt.cells, Pt.slots] at X9 l9 y9 z9 st9 hQ9
      subst l9 y9 z9
      obtain ⟨w9, rfl, N9, f9, o9, l9_0⟩ := hQ9
      have z9 := congrArg Jvm.Own.z o9
      have heq : Jvm.Own.z w9 = Jvm.Own.z (FP.ddiv (FP.l2d va) (FP.l2d u1)) := by omega
      obtain ⟨fs, hr, hrun, hended, hW, hsame⟩ := X9.leave (v := some (.int (1 : Int32))) (fun h => by rw [Bd.returns] at h; cases h)
      refine ⟨_, _, pre0 _ ?_, hrun, hended, _, _, rfl, ?_, ⟨_, rfl⟩, hW, hsame.mono (by decide) (by decide)⟩
      · show Steps p.tables e below (s₁.setTop (mkF m 0 #[.val (.long va), .second, .val (.long sa), .second, .val (.long vb), .second, .val (.long sb), .second, .val (.long vc), .second, .val (.long sc), .second, .unset, .unset, .unset, .unset, .unset, .unset, .unset, .unset, .unset, .unset, .unset, .unset, .unset, .unset, .unset, .unset, .unset, .unset] [])) _
        refine XS.iconst X0.here hx rfl (hb hby at_0) ?_
        show Steps p.tables e below (s₁.setTop (mkF m 1 #[.val (.long va), .second, .val (.long sa), .second, .val (.long vb), .second, .val (.long sb), .second, .val (.long vc), .second, .val (.long sc), .second, .unset, .unset, .unset, .unset, .unset, .unset, .unset, .unset, .unset, .unset, .unset, .unset, .unset, .unset, .unset, .unset, .unset, .unset] [(.int (1 : Int32))])) _
        refine XS.lloadN X0.here hx rfl (hb hby at_1) rfl ?_
        show Steps p.tables e below (s₁.setTop (mkF m 2 #[.val (.long va), .second, .val (.long sa), .second, .val (.long vb), .second, .val (.long sb), .second, .val (.long vc), .second, .val (.long sc), .second, .unset, .unset, .unset, .unset, .unset, .unset, .unset, .unset, .unset, .unset, .unset, .unset, .unset, .unset, .unset, .unset, .unset, .unset] [(.long sa), (.int (1 : Int32))])) _
        refine XS.lconst X0.here hx rfl (hb hby at_2) ?_
        show Steps p.tables e below (s₁.setTop (mkF m 3 #[.val (.long va), .second, .val (.long sa), .second, .val (.long vb), .second, .val (.long sb), .second, .val (.long vc), .second, .val (.long sc), .second, .unset, .unset, .unset, .unset, .unset, .unset, .unset, .unset, .unset, .unset, .unset, .unset, .unset, .unset, .unset, .unset, .unset, .unset] [(.long (0 : Int64)), (.long sa), (.int (1 : Int32))])) _
        refine XS.lcmp X0.here hx rfl (hb hby at_3) rfl ?_
        show Steps p.tables e below (s₁.setTop (mkF m 4 #[.val (.long va), .second, .val (.long sa), .second, .val (.long vb), .second, .val (.long sb), .second, .val (.long vc), .second, .val (.long sc), .second, .unset, .unset, .unset, .unset, .unset, .unset, .unset, .unset, .unset, .unset, .unset, .unset, .unset, .unset, .unset, .unset, .unset, .unset] [(.int (lcmpW sa (0 : Int64))), (.int (1 : Int32))])) _
        refine XS.ifYes X0.here hx rfl (pc0 := 4) (pc' := 11) rfl (hb hby at_4) rfl ((Jvm.Own.holdsL _ _ _).trans (Jvm.Own.dT (by omega))) (by decide) (by decide) ?_
        show Steps p.tables e below (s₁.setTop (mkF m 11 #[.val (.long va), .second, .val (.long sa), .second, .val (.long vb), .second, .val (.long sb), .second, .val (.long vc), .second, .val (.long sc), .second, .unset, .unset, .unset, .unset, .unset, .unset, .unset, .unset, .unset, .unset, .unset, .unset, .unset, .unset, .unset, .unset, .unset, .unset] [(.int (1 : Int32))])) _
        refine XS.iconst X0.here hx rfl (hb hby at_11) ?_
        show Steps p.tables e below (s₁.setTop (mkF m 12 #[.val (.long va), .second, .val (.long sa), .second, .val (.long vb), .second, .val (.long sb), .second, .val (.long vc), .second, .val (.long sc), .second, .unset, .unset, .unset, .unset, .unset, .unset, .unset, .unset, .unset, .unset, .unset, .unset, .unset, .unset, .unset, .unset, .unset, .unset] [(.int (0 : Int32)), (.int (1 : Int32))])) _
        refine XS.iadd X0.here hx rfl (hb hby at_12) rfl ?_
        show Steps p.tables e below (s₁.setTop (mkF m 13 #[.val (.long va), .second, .val (.long sa), .second, .val (.long vb), .second, .val (.long sb), .second, .val (.long vc), .second, .val (.long sc), .second, .unset, .unset, .unset, .unset, .unset, .unset, .unset, .unset, .unset, .unset, .unset, .unset, .unset, .unset, .unset, .unset, .unset, .unset] [(.int ((1 : Int32) + (0 : Int32)))])) _
        refine XS.lload X0.here hx rfl (hb hby at_13) rfl ?_
        show Steps p.tables e below (s₁.setTop (mkF m 15 #[.val (.long va), .second, .val (.long sa), .second, .val (.long vb), .second, .val (.long sb), .second, .val (.long vc), .second, .val (.long sc), .second, .unset, .unset, .unset, .unset, .unset, .unset, .unset, .unset, .unset, .unset, .unset, .unset, .unset, .unset, .unset, .unset, .unset, .unset] [(.long sb), (.int ((1 : Int32) + (0 : Int32)))])) _
        refine XS.lconst X0.here hx rfl (hb hby at_15) ?_
        show Steps p.tables e below (s₁.setTop (mkF m 16 #[.val (.long va), .second, .val (.long sa), .second, .val (.long vb), .second, .val (.long sb), .second, .val (.long vc), .second, .val (.long sc), .second, .unset, .unset, .unset, .unset, .unset, .unset, .unset, .unset, .unset, .unset, .unset, .unset, .unset, .unset, .unset, .unset, .unset, .unset] [(.long (0 : Int64)), (.long sb), (.int ((1 : Int32) + (0 : Int32)))])) _
        refine XS.lcmp X0.here hx rfl (hb hby at_16) rfl ?_
        show Steps p.tables e below (s₁.setTop (mkF m 17 #[.val (.long va), .second, .val (.long sa), .second, .val (.long vb), .second, .val (.long sb), .second, .val (.long vc), .second, .val (.long sc), .second, .unset, .unset, .unset, .unset, .unset, .unset, .unset, .unset, .unset, .unset, .unset, .unset, .unset, .unset, .unset, .unset, .unset, .unset] [(.int (lcmpW sb (0 : Int64))), (.int ((1 : Int32) + (0 : Int32)))])) _
        refine XS.ifYes X0.here hx rfl (pc0 := 17) (pc' := 24) rfl (hb hby at_17) rfl ((Jvm.Own.holdsL _ _ _).trans (Jvm.Own.dT (by omega))) (by decide) (by decide) ?_
        show Steps p.tables e below (s₁.setTop (mkF m 24 #[.val (.long va), .second, .val (.long sa), .second, .val (.long vb), .second, .val (.long sb), .second, .val (.long vc), .second, .val (.long sc), .second, .unset, .unset, .unset, .unset, .unset, .unset, .unset, .unset, .unset, .unset, .unset, .unset, .unset, .unset, .unset, .unset, .unset, .unset] [(.int ((1 : Int32) + (0 : Int32)))])) _
        refine XS.iconst X0.here hx rfl (hb hby at_24) ?_
        show Steps p.tables e below (s₁.setTop (mkF m 25 #[.val (.long va), .second, .val (.long sa), .second, .val (.long vb), .second, .val (.long sb), .second, .val (.long vc), .second, .val (.long sc), .second, .unset, .unset, .unset, .unset, .unset, .unset, .unset, .unset, .unset, .unset, .unset, .unset, .unset, .unset, .unset, .unset, .unset, .unset] [(.int (0 : Int32)), (.int ((1 : Int32) + (0 : Int32)))])) _
        refine XS.iadd X0.here hx rfl (hb hby at_25) rfl ?_
        show Steps p.tables e below (s₁.setTop (mkF m 26 #[.val (.long va), .second, .val (.long sa), .second, .val (.long vb), .second, .val (.long sb), .second, .val (.long vc), .second, .val (.long sc), .second, .unset, .unset, .unset, .unset, .unset, .unset, .unset, .unset, .unset, .unset, .unset, .unset, .unset, .unset, .unset, .unset, .unset, .unset] [(.int (((1 : Int32) + (0 : Int32)) + (0 : Int32)))])) _
        refine XS.istore X0.here hx rfl (hb hby at_26) rfl (l' := #[.val (.long va), .second, .val (.long sa), .second, .val (.long vb), .second, .val (.long sb), .second, .val (.long vc), .second, .val (.long sc), .second, .val (.int (((1 : Int32) + (0 : Int32)) + (0 : Int32))), .unset, .unset, .unset, .unset, .unset, .unset, .unset, .unset, .unset, .unset, .unset, .unset, .unset, .unset, .unset, .unset, .unset]) rfl ?_
        show Steps p.tables e below (s₁.setTop (mkF m 28 #[.val (.long va), .second, .val (.long sa), .second, .val (.long vb), .second, .val (.long sb), .second, .val (.long vc), .second, .val (.long sc), .second, .val (.int (((1 : Int32) + (0 : Int32)) + (0 : Int32))), .unset, .unset, .unset, .unset, .unset, .unset, .unset, .unset, .unset, .unset, .unset, .unset, .unset, .unset, .unset, .unset, .unset] [])) _
        refine XS.lloadN X0.here hx rfl (hb hby at_28) rfl ?_
        show Steps p.tables e below (s₁.setTop (mkF m 29 #[.val (.long va), .second, .val (.long sa), .second, .val (.long vb), .second, .val (.long sb), .second, .val (.long vc), .second, .val (.long sc), .second, .val (.int (((1 : Int32) + (0 : Int32)) + (0 : Int32))), .unset, .unset, .unset, .unset, .unset, .unset, .unset, .unset, .unset, .unset, .unset, .unset, .unset, .unset, .unset, .unset, .unset] [(.long sa)])) _
        refine st1 _ ?_
        show Steps p.tables e below (T1.setTop (mkF m 32 #[.val (.long va), .second, .val (.long sa), .second, .val (.long vb), .second, .val (.long sb), .second, .val (.long vc), .second, .val (.long sc), .second, .val (.int (((1 : Int32) + (0 : Int32)) + (0 : Int32))), .unset, .unset, .unset, .unset, .unset, .unset, .unset, .unset, .unset, .unset, .unset, .unset, .unset, .unset, .unset, .unset, .unset] [(.long u1)])) _
        refine XS.lstore X1.here hx rfl (hb hby at_32) rfl (l' := #[.val (.long va), .second, .val (.long sa), .second, .val (.long vb), .second, .val (.long sb), .second, .val (.long vc), .second, .val (.long sc), .second, .val (.int (((1 : Int32) + (0 : Int32)) + (0 : Int32))), .val (.long u1), .second, .unset, .unset, .unset, .unset, .unset, .unset, .unset, .unset, .unset, .unset, .unset, .unset, .unset, .unset, .unset]) rfl ?_
        show Steps p.tables e below (T1.setTop (mkF m 34 #[.val (.long va), .second, .val (.long sa), .second, .val (.long vb), .second, .val (.long sb), .second, .val (.long vc), .second, .val (.long sc), .second, .val (.int (((1 : Int32) + (0 : Int32)) + (0 : Int32))), .val (.long u1), .second, .unset, .unset, .unset, .unset, .unset, .unset, .unset, .unset, .unset, .unset, .unset, .unset, .unset, .unset, .unset] [])) _
        refine XS.lload X1.here hx rfl (hb hby at_34) rfl ?_
        show Steps p.tables e below (T1.setTop (mkF m 36 #[.val (.long va), .second, .val (.long sa), .second, .val (.long vb), .second, .val (.long sb), .second, .val (.long vc), .second, .val (.long sc), .second, .val (.int (((1 : Int32) + (0 : Int32)) + (0 : Int32))), .val (.long u1), .second, .unset, .unset, .unset, .unset, .unset, .unset, .unset, .unset, .unset, .unset, .unset, .unset, .unset, .unset, .unset] [(.long sb)])) _
        refine st2 _ ?_
        show Steps p.tables e below (T2.setTop (mkF m 39 #[.val (.long va), .second, .val (.long sa), .second, .val (.long vb), .second, .val (.long sb), .second, .val (.long vc), .second, .val (.long sc), .second, .val (.int (((1 : Int32) + (0 : Int32)) + (0 : Int32))), .val (.long u1), .second, .unset, .unset, .unset, .unset, .unset, .unset, .unset, .unset, .unset, .unset, .unset, .unset, .unset, .unset, .unset] [(.long u2)])) _
        refine XS.lstore X2.here hx rfl (hb hby at_39) rfl (l' := #[.val (.long va), .second, .val (.long sa), .second, .val (.long vb), .second, .val (.long sb), .second, .val (.long vc), .second, .val (.long sc), .second, .val (.int (((1 : Int32) + (0 : Int32)) + (0 : Int32))), .val (.long u1), .second, .val (.long u2), .second, .unset, .unset, .unset, .unset, .unset, .unset, .unset, .unset, .unset, .unset, .unset, .unset, .unset]) rfl ?_
        show Steps p.tables e below (T2.setTop (mkF m 41 #[.val (.long va), .second, .val (.long sa), .second, .val (.long vb), .second, .val (.long sb), .second, .val (.long vc), .second, .val (.long sc), .second, .val (.int (((1 : Int32) + (0 : Int32)) + (0 : Int32))), .val (.long u1), .second, .val (.long u2), .second, .unset, .unset, .unset, .unset, .unset, .unset, .unset, .unset, .unset, .unset, .unset, .unset, .unset] [])) _
        refine XS.lload X2.here hx rfl (hb hby at_41) rfl ?_
        show Steps p.tables e below (T2.setTop (mkF m 43 #[.val (.long va), .second, .val (.long sa), .second, .val (.long vb), .second, .val (.long sb), .second, .val (.long vc), .second, .val (.long sc), .second, .val (.int (((1 : Int32) + (0 : Int32)) + (0 : Int32))), .val (.long u1), .second, .val (.long u2), .second, .unset, .unset, .unset, .unset, .unset, .unset, .unset, .unset, .unset, .unset, .unset, .unset, .unset] [(.long sc)])) _
        refine st3 _ ?_
        show Steps p.tables e below (T3.setTop (mkF m 46 #[.val (.long va), .second, .val (.long sa), .second, .val (.long vb), .second, .val (.long sb), .second, .val (.long vc), .second, .val (.long sc), .second, .val (.int (((1 : Int32) + (0 : Int32)) + (0 : Int32))), .val (.long u1), .second, .val (.long u2), .second, .unset, .unset, .unset, .unset, .unset, .unset, .unset, .unset, .unset, .unset, .unset, .unset, .unset] [(.long u3)])) _
        refine XS.lstore X3.here hx rfl (hb hby at_46) rfl (l' := #[.val (.long va), .second, .val (.long sa), .second, .val (.long vb), .second, .val (.long sb), .second, .val (.long vc), .second, .val (.long sc), .second, .val (.int (((1 : Int32) + (0 : Int32)) + (0 : Int32))), .val (.long u1), .second, .val (.long u2), .second, .val (.long u3), .second, .unset, .unset, .unset, .unset, .unset, .unset, .unset, .unset, .unset, .unset, .unset]) rfl ?_
        show Steps p.tables e below (T3.setTop (mkF m 48 #[.val (.long va), .second, .val (.long sa), .second, .val (.long vb), .second, .val (.long sb), .second, .val (.long vc), .second, .val (.long sc), .second, .val (.int (((1 : Int32) + (0 : Int32)) + (0 : Int32))), .val (.long u1), .second, .val (.long u2), .second, .val (.long u3), .second, .unset, .unset, .unset, .unset, .unset, .unset, .unset, .unset, .unset, .unset, .unset] [])) _
        refine XS.lloadN X3.here hx rfl (hb hby at_48) rfl ?_
        show Steps p.tables e below (T3.setTop (mkF m 49 #[.val (.long va), .second, .val (.long sa), .second, .val (.long vb), .second, .val (.long sb), .second, .val (.long vc), .second, .val (.long sc), .second, .val (.int (((1 : Int32) + (0 : Int32)) + (0 : Int32))), .val (.long u1), .second, .val (.long u2), .second, .val (.long u3), .second, .unset, .unset, .unset, .unset, .unset, .unset, .unset, .unset, .unset, .unset, .unset] [(.long va)])) _
        refine XS.l2dS X3.here hx rfl (hb hby at_49) rfl (v := FP.l2d va) rfl ?_
        show Steps p.tables e below (T3.setTop (mkF m 50 #[.val (.long va), .second, .val (.long sa), .second, .val (.long vb), .second, .val (.long sb), .second, .val (.long vc), .second, .val (.long sc), .second, .val (.int (((1 : Int32) + (0 : Int32)) + (0 : Int32))), .val (.long u1), .second, .val (.long u2), .second, .val (.long u3), .second, .unset, .unset, .unset, .unset, .unset, .unset, .unset, .unset, .unset, .unset, .unset] [(.double (FP.l2d va))])) _
        refine XS.lload X3.here hx rfl (hb hby at_50) rfl ?_
        show Steps p.tables e below (T3.setTop (mkF m 52 #[.val (.long va), .second, .val (.long sa), .second, .val (.long vb), .second, .val (.long sb), .second, .val (.long vc), .second, .val (.long sc), .second, .val (.int (((1 : Int32) + (0 : Int32)) + (0 : Int32))), .val (.long u1), .second, .val (.long u2), .second, .val (.long u3), .second, .unset, .unset, .unset, .unset, .unset, .unset, .unset, .unset, .unset, .unset, .unset] [(.long u1), (.double (FP.l2d va))])) _
        refine XS.l2dS X3.here hx rfl (hb hby at_52) rfl (v := FP.l2d u1) rfl ?_
        show Steps p.tables e below (T3.setTop (mkF m 53 #[.val (.long va), .second, .val (.long sa), .second, .val (.long vb), .second, .val (.long sb), .second, .val (.long vc), .second, .val (.long sc), .second, .val (.int (((1 : Int32) + (0 : Int32)) + (0 : Int32))), .val (.long u1), .second, .val (.long u2), .second, .val (.long u3), .second, .unset, .unset, .unset, .unset, .unset, .unset, .unset, .unset, .unset, .unset, .unset] [(.double (FP.l2d u1)), (.double (FP.l2d va))])) _
        refine XS.ddivS X3.here hx rfl (hb hby at_53) rfl (Jvm.Own.nn (own_q va u1 p1)) (v := FP.ddiv (FP.l2d va) (FP.l2d u1)) rfl ?_
        show Steps p.tables e below (T3.setTop (mkF m 54 #[.val (.long va), .second, .val (.long sa), .second, .val (.long vb), .second, .val (.long sb), .second, .val (.long vc), .second, .val (.long sc), .second, .val (.int (((1 : Int32) + (0 : Int32)) + (0 : Int32))), .val (.long u1), .second, .val (.long u2), .second, .val (.long u3), .second, .unset, .unset, .unset, .unset, .unset, .unset, .unset, .unset, .unset, .unset, .unset] [(.double (FP.ddiv (FP.l2d va) (FP.l2d u1)))])) _
        refine XS.dstore X3.here hx rfl (hb hby at_54) rfl (l' := #[.val (.long va), .second, .val (.long sa), .second, .val (.long vb), .second, .val (.long sb), .second, .val (.long vc), .second, .val (.long sc), .second, .val (.int (((1 : Int32) + (0 : Int32)) + (0 : Int32))), .val (.long u1), .second, .val (.long u2), .second, .val (.long u3), .second, .val (.double (FP.ddiv (FP.l2d va) (FP.l2d u1))), .second, .unset, .unset, .unset, .unset, .unset, .unset, .unset, .unset, .unset]) rfl ?_
        show Steps p.tables e below (T3.setTop (mkF m 56 #[.val (.long va), .second, .val (.long sa), .second, .val (.long vb), .second, .val (.long sb), .second, .val (.long vc), .second, .val (.long sc), .second, .val (.int (((1 : Int32) + (0 : Int32)) + (0 : Int32))), .val (.long u1), .second, .val (.long u2), .second, .val (.long u3), .second, .val (.double (FP.ddiv (FP.l2d va) (FP.l2d u1))), .second, .unset, .unset, .unset, .unset, .unset, .unset, .unset, .unset, .unset] [])) _
        refine XS.lload X3.here hx rfl (hb hby at_56) rfl ?_
        show Steps p.tables e below (T3.setTop (mkF m 58 #[.val (.long va), .second, .val (.long sa), .second, .val (.long vb), .second, .val (.long sb), .second, .val (.long vc), .second, .val (.long sc), .second, .val (.int (((1 : Int32) + (0 : Int32)) + (0 : Int32))), .val (.long u1), .second, .val (.long u2), .second, .val (.long u3), .second, .val (.double (FP.ddiv (FP.l2d va) (FP.l2d u1))), .second, .unset, .unset, .unset, .unset, .unset, .unset, .unset, .unset, .unset] [(.long vb)])) _
        refine XS.l2dS X3.here hx rfl (hb hby at_58) rfl (v := FP.l2d vb) rfl ?_
        show Steps p.tables e below (T3.setTop (mkF m 59 #[.val (.long va), .second, .val (.long sa), .second, .val (.long vb), .second, .val (.long sb), .second, .val (.long vc), .second, .val (.long sc), .second, .val (.int (((1 : Int32) + (0 : Int32)) + (0 : Int32))), .val (.long u1), .second, .val (.long u2), .second, .val (.long u3), .second, .val (.double (FP.ddiv (FP.l2d va) (FP.l2d u1))), .second, .unset, .unset, .unset, .unset, .unset, .unset, .unset, .unset, .unset] [(.double (FP.l2d vb))])) _
        refine XS.lload X3.here hx rfl (hb hby at_59) rfl ?_
        show Steps p.tables e below (T3.setTop (mkF m 61 #[.val (.long va), .second, .val (.long sa), .second, .val (.long vb), .second, .val (.long sb), .second, .val (.long vc), .second, .val (.long sc), .second, .val (.int (((1 : Int32) + (0 : Int32)) + (0 : Int32))), .val (.long u1), .second, .val (.long u2), .second, .val (.long u3), .second, .val (.double (FP.ddiv (FP.l2d va) (FP.l2d u1))), .second, .unset, .unset, .unset, .unset, .unset, .unset, .unset, .unset, .unset] [(.long u2), (.double (FP.l2d vb))])) _
        refine XS.l2dS X3.here hx rfl (hb hby at_61) rfl (v := FP.l2d u2) rfl ?_
        show Steps p.tables e below (T3.setTop (mkF m 62 #[.val (.long va), .second, .val (.long sa), .second, .val (.long vb), .second, .val (.long sb), .second, .val (.long vc), .second, .val (.long sc), .second, .val (.int (((1 : Int32) + (0 : Int32)) + (0 : Int32))), .val (.long u1), .second, .val (.long u2), .second, .val (.long u3), .second, .val (.double (FP.ddiv (FP.l2d va) (FP.l2d u1))), .second, .unset, .unset, .unset, .unset, .unset, .unset, .unset, .unset, .unset] [(.double (FP.l2d u2)), (.double (FP.l2d vb))])) _
        refine XS.ddivS X3.here hx rfl (hb hby at_62) rfl (Jvm.Own.nn (own_q vb u2 p2)) (v := FP.ddiv (FP.l2d vb) (FP.l2d u2)) rfl ?_
        show Steps p.tables e below (T3.setTop (mkF m 63 #[.val (.long va), .second, .val (.long sa), .second, .val (.long vb), .second, .val (.long sb), .second, .val (.long vc), .second, .val (.long sc), .second, .val (.int (((1 : Int32) + (0 : Int32)) + (0 : Int32))), .val (.long u1), .second, .val (.long u2), .second, .val (.long u3), .second, .val (.double (FP.ddiv (FP.l2d va) (FP.l2d u1))), .second, .unset, .unset, .unset, .unset, .unset, .unset, .unset, .unset, .unset] [(.double (FP.ddiv (FP.l2d vb) (FP.l2d u2)))])) _
        refine XS.dstore X3.here hx rfl (hb hby at_63) rfl (l' := #[.val (.long va), .second, .val (.long sa), .second, .val (.long vb), .second, .val (.long sb), .second, .val (.long vc), .second, .val (.long sc), .second, .val (.int (((1 : Int32) + (0 : Int32)) + (0 : Int32))), .val (.long u1), .second, .val (.long u2), .second, .val (.long u3), .second, .val (.double (FP.ddiv (FP.l2d va) (FP.l2d u1))), .second, .val (.double (FP.ddiv (FP.l2d vb) (FP.l2d u2))), .second, .unset, .unset, .unset, .unset, .unset, .unset, .unset]) rfl ?_
        show Steps p.tables e below (T3.setTop (mkF m 65 #[.val (.long va), .second, .val (.long sa), .second, .val (.long vb), .second, .val (.long sb), .second, .val (.long vc), .second, .val (.long sc), .second, .val (.int (((1 : Int32) + (0 : Int32)) + (0 : Int32))), .val (.long u1), .second, .val (.long u2), .second, .val (.long u3), .second, .val (.double (FP.ddiv (FP.l2d va) (FP.l2d u1))), .second, .val (.double (FP.ddiv (FP.l2d vb) (FP.l2d u2))), .second, .unset, .unset, .unset, .unset, .unset, .unset, .unset] [])) _
        refine XS.lload X3.here hx rfl (hb hby at_65) rfl ?_
        show Steps p.tables e below (T3.setTop (mkF m 67 #[.val (.long va), .second, .val (.long sa), .second, .val (.long vb), .second, .val (.long sb), .second, .val (.long vc), .second, .val (.long sc), .second, .val (.int (((1 : Int32) + (0 : Int32)) + (0 : Int32))), .val (.long u1), .second, .val (.long u2), .second, .val (.long u3), .second, .val (.double (FP.ddiv (FP.l2d va) (FP.l2d u1))), .second, .val (.double (FP.ddiv (FP.l2d vb) (FP.l2d u2))), .second, .unset, .unset, .unset, .unset, .unset, .unset, .unset] [(.long vc)])) _
        refine XS.l2dS X3.here hx rfl (hb hby at_67) rfl (v := FP.l2d vc) rfl ?_
        show Steps p.tables e below (T3.setTop (mkF m 68 #[.val (.long va), .second, .val (.long sa), .second, .val (.long vb), .second, .val (.long sb), .second, .val (.long vc), .second, .val (.long sc), .second, .val (.int (((1 : Int32) + (0 : Int32)) + (0 : Int32))), .val (.long u1), .second, .val (.long u2), .second, .val (.long u3), .second, .val (.double (FP.ddiv (FP.l2d va) (FP.l2d u1))), .second, .val (.double (FP.ddiv (FP.l2d vb) (FP.l2d u2))), .second, .unset, .unset, .unset, .unset, .unset, .unset, .unset] [(.double (FP.l2d vc))])) _
        refine XS.lload X3.here hx rfl (hb hby at_68) rfl ?_
        show Steps p.tables e below (T3.setTop (mkF m 70 #[.val (.long va), .second, .val (.long sa), .second, .val (.long vb), .second, .val (.long sb), .second, .val (.long vc), .second, .val (.long sc), .second, .val (.int (((1 : Int32) + (0 : Int32)) + (0 : Int32))), .val (.long u1), .second, .val (.long u2), .second, .val (.long u3), .second, .val (.double (FP.ddiv (FP.l2d va) (FP.l2d u1))), .second, .val (.double (FP.ddiv (FP.l2d vb) (FP.l2d u2))), .second, .unset, .unset, .unset, .unset, .unset, .unset, .unset] [(.long u3), (.double (FP.l2d vc))])) _
        refine XS.l2dS X3.here hx rfl (hb hby at_70) rfl (v := FP.l2d u3) rfl ?_
        show Steps p.tables e below (T3.setTop (mkF m 71 #[.val (.long va), .second, .val (.long sa), .second, .val (.long vb), .second, .val (.long sb), .second, .val (.long vc), .second, .val (.long sc), .second, .val (.int (((1 : Int32) + (0 : Int32)) + (0 : Int32))), .val (.long u1), .second, .val (.long u2), .second, .val (.long u3), .second, .val (.double (FP.ddiv (FP.l2d va) (FP.l2d u1))), .second, .val (.double (FP.ddiv (FP.l2d vb) (FP.l2d u2))), .second, .unset, .unset, .unset, .unset, .unset, .unset, .unset] [(.double (FP.l2d u3)), (.double (FP.l2d vc))])) _
        refine XS.ddivS X3.here hx rfl (hb hby at_71) rfl (Jvm.Own.nn (own_q vc u3 p3)) (v := FP.ddiv (FP.l2d vc) (FP.l2d u3)) rfl ?_
        show Steps p.tables e below (T3.setTop (mkF m 72 #[.val (.long va), .second, .val (.long sa), .second, .val (.long vb), .second, .val (.long sb), .second, .val (.long vc), .second, .val (.long sc), .second, .val (.int (((1 : Int32) + (0 : Int32)) + (0 : Int32))), .val (.long u1), .second, .val (.long u2), .second, .val (.long u3), .second, .val (.double (FP.ddiv (FP.l2d va) (FP.l2d u1))), .second, .val (.double (FP.ddiv (FP.l2d vb) (FP.l2d u2))), .second, .unset, .unset, .unset, .unset, .unset, .unset, .unset] [(.double (FP.ddiv (FP.l2d vc) (FP.l2d u3)))])) _
        refine XS.dstore X3.here hx rfl (hb hby at_72) rfl (l' := #[.val (.long va), .second, .val (.long sa), .second, .val (.long vb), .second, .val (.long sb), .second, .val (.long vc), .second, .val (.long sc), .second, .val (.int (((1 : Int32) + (0 : Int32)) + (0 : Int32))), .val (.long u1), .second, .val (.long u2), .second, .val (.long u3), .second, .val (.double (FP.ddiv (FP.l2d va) (FP.l2d u1))), .second, .val (.double (FP.ddiv (FP.l2d vb) (FP.l2d u2))), .second, .val (.double (FP.ddiv (FP.l2d vc) (FP.l2d u3))), .second, .unset, .unset, .unset, .unset, .unset]) rfl ?_
        show Steps p.tables e below (T3.setTop (mkF m 74 #[.val (.long va), .second, .val (.long sa), .second, .val (.long vb), .second, .val (.long sb), .second, .val (.long vc), .second, .val (.long sc), .second, .val (.int (((1 : Int32) + (0 : Int32)) + (0 : Int32))), .val (.long u1), .second, .val (.long u2), .second, .val (.long u3), .second, .val (.double (FP.ddiv (FP.l2d va) (FP.l2d u1))), .second, .val (.double (FP.ddiv (FP.l2d vb) (FP.l2d u2))), .second, .val (.double (FP.ddiv (FP.l2d vc) (FP.l2d u3))), .second, .unset, .unset, .unset, .unset, .unset] [])) _
        refine st4 _ ?_
        show Steps p.tables e below (T4.setTop (mkF m 77 #[.val (.long va), .second, .val (.long sa), .second, .val (.long vb), .second, .val (.long sb), .second, .val (.long vc), .second, .val (.long sc), .second, .val (.int (((1 : Int32) + (0 : Int32)) + (0 : Int32))), .val (.long u1), .second, .val (.long u2), .second, .val (.long u3), .second, .val (.double (FP.ddiv (FP.l2d va) (FP.l2d u1))), .second, .val (.double (FP.ddiv (FP.l2d vb) (FP.l2d u2))), .second, .val (.double (FP.ddiv (FP.l2d vc) (FP.l2d u3))), .second, .unset, .unset, .unset, .unset, .unset] [(.ref a4)])) _
        refine XS.dup X4.here hx rfl (hb hby at_77) rfl rfl ?_
        show Steps p.tables e below (T4.setTop (mkF m 78 #[.val (.long va), .second, .val (.long sa), .second, .val (.long vb), .second, .val (.long sb), .second, .val (.long vc), .second, .val (.long sc), .second, .val (.int (((1 : Int32) + (0 : Int32)) + (0 : Int32))), .val (.long u1), .second, .val (.long u2), .second, .val (.long u3), .second, .val (.double (FP.ddiv (FP.l2d va) (FP.l2d u1))), .second, .val (.double (FP.ddiv (FP.l2d vb) (FP.l2d u2))), .second, .val (.double (FP.ddiv (FP.l2d vc) (FP.l2d u3))), .second, .unset, .unset, .unset, .unset, .unset] [(.ref a4), (.ref a4)])) _
        refine st5.trans ?_
        show Steps p.tables e below (T5.setTop (mkF m 81 #[.val (.long va), .second, .val (.long sa), .second, .val (.long vb), .second, .val (.long sb), .second, .val (.long vc), .second, .val (.long sc), .second, .val (.int (((1 : Int32) + (0 : Int32)) + (0 : Int32))), .val (.long u1), .second, .val (.long u2), .second, .val (.long u3), .second, .val (.double (FP.ddiv (FP.l2d va) (FP.l2d u1))), .second, .val (.double (FP.ddiv (FP.l2d vb) (FP.l2d u2))), .second, .val (.double (FP.ddiv (FP.l2d vc) (FP.l2d u3))), .second, .unset, .unset, .unset, .unset, .unset] [(.ref a4)])) _
        refine XS.astore X5.here hx rfl (hb hby at_81) rfl rfl (l' := #[.val (.long va), .second, .val (.long sa), .second, .val (.long vb), .second, .val (.long sb), .second, .val (.long vc), .second, .val (.long sc), .second, .val (.int (((1 : Int32) + (0 : Int32)) + (0 : Int32))), .val (.long u1), .second, .val (.long u2), .second, .val (.long u3), .second, .val (.double (FP.ddiv (FP.l2d va) (FP.l2d u1))), .second, .val (.double (FP.ddiv (FP.l2d vb) (FP.l2d u2))), .second, .val (.double (FP.ddiv (FP.l2d vc) (FP.l2d u3))), .second, .val (.ref a4), .unset, .unset, .unset, .unset]) rfl ?_
        show Steps p.tables e below (T5.setTop (mkF m 83 #[.val (.long va), .second, .val (.long sa), .second, .val (.long vb), .second, .val (.long sb), .second, .val (.long vc), .second, .val (.long sc), .second, .val (.int (((1 : Int32) + (0 : Int32)) + (0 : Int32))), .val (.long u1), .second, .val (.long u2), .second, .val (.long u3), .second, .val (.double (FP.ddiv (FP.l2d va) (FP.l2d u1))), .second, .val (.double (FP.ddiv (FP.l2d vb) (FP.l2d u2))), .second, .val (.double (FP.ddiv (FP.l2d vc) (FP.l2d u3))), .second, .val (.ref a4), .unset, .unset, .unset, .unset] [])) _
        refine XS.aload X5.here hx rfl (hb hby at_83) rfl rfl ?_
        show Steps p.tables e below (T5.setTop (mkF m 85 #[.val (.long va), .second, .val (.long sa), .second, .val (.long vb), .second, .val (.long sb), .second, .val (.long vc), .second, .val (.long sc), .second, .val (.int (((1 : Int32) + (0 : Int32)) + (0 : Int32))), .val (.long u1), .second, .val (.long u2), .second, .val (.long u3), .second, .val (.double (FP.ddiv (FP.l2d va) (FP.l2d u1))), .second, .val (.double (FP.ddiv (FP.l2d vb) (FP.l2d u2))), .second, .val (.double (FP.ddiv (FP.l2d vc) (FP.l2d u3))), .second, .val (.ref a4), .unset, .unset, .unset, .unset] [(.ref a4)])) _
        refine XS.lloadN X5.here hx rfl (hb hby at_85) rfl ?_
        show Steps p.tables e below (T5.setTop (mkF m 86 #[.val (.long va), .second, .val (.long sa), .second, .val (.long vb), .second, .val (.long sb), .second, .val (.long vc), .second, .val (.long sc), .second, .val (.int (((1 : Int32) + (0 : Int32)) + (0 : Int32))), .val (.long u1), .second, .val (.long u2), .second, .val (.long u3), .second, .val (.double (FP.ddiv (FP.l2d va) (FP.l2d u1))), .second, .val (.double (FP.ddiv (FP.l2d vb) (FP.l2d u2))), .second, .val (.double (FP.ddiv (FP.l2d vc) (FP.l2d u3))), .second, .val (.ref a4), .unset, .unset, .unset, .unset] [(.long va), (.ref a4)])) _
        refine XS.lload X5.here hx rfl (hb hby at_86) rfl ?_
        show Steps p.tables e below (T5.setTop (mkF m 88 #[.val (.long va), .second, .val (.long sa), .second, .val (.long vb), .second, .val (.long sb), .second, .val (.long vc), .second, .val (.long sc), .second, .val (.int (((1 : Int32) + (0 : Int32)) + (0 : Int32))), .val (.long u1), .second, .val (.long u2), .second, .val (.long u3), .second, .val (.double (FP.ddiv (FP.l2d va) (FP.l2d u1))), .second, .val (.double (FP.ddiv (FP.l2d vb) (FP.l2d u2))), .second, .val (.double (FP.ddiv (FP.l2d vc) (FP.l2d u3))), .second, .val (.ref a4), .unset, .unset, .unset, .unset] [(.long u1), (.long va), (.ref a4)])) _
        refine st6.trans ?_
        show Steps p.tables e below (T6.setTop (mkF m 91 #[.val (.long va), .second, .val (.long sa), .second, .val (.long vb), .second, .val (.long sb), .second, .val (.long vc), .second, .val (.long sc), .second, .val (.int (((1 : Int32) + (0 : Int32)) + (0 : Int32))), .val (.long u1), .second, .val (.long u2), .second, .val (.long u3), .second, .val (.double (FP.ddiv (FP.l2d va) (FP.l2d u1))), .second, .val (.double (FP.ddiv (FP.l2d vb) (FP.l2d u2))), .second, .val (.double (FP.ddiv (FP.l2d vc) (FP.l2d u3))), .second, .val (.ref a4), .unset, .unset, .unset, .unset] [])) _
        refine XS.iload X6.here hx rfl (hb hby at_91) rfl ?_
        show Steps p.tables e below (T6.setTop (mkF m 93 #[.val (.long va), .second, .val (.long sa), .second, .val (.long vb), .second, .val (.long sb), .second, .val (.long vc), .second, .val (.long sc), .second, .val (.int (((1 : Int32) + (0 : Int32)) + (0 : Int32))), .val (.long u1), .second, .val (.long u2), .second, .val (.long u3), .second, .val (.double (FP.ddiv (FP.l2d va) (FP.l2d u1))), .second, .val (.double (FP.ddiv (FP.l2d vb) (FP.l2d u2))), .second, .val (.double (FP.ddiv (FP.l2d vc) (FP.l2d u3))), .second, .val (.ref a4), .unset, .unset, .unset, .unset] [(.int (((1 : Int32) + (0 : Int32)) + (0 : Int32)))])) _
        refine XS.iconst X6.here hx rfl (hb hby at_93) ?_
        show Steps p.tables e below (T6.setTop (mkF m 94 #[.val (.long va), .second, .val (.long sa), .second, .val (.long vb), .second, .val (.long sb), .second, .val (.long vc), .second, .val (.long sc), .second, .val (.int (((1 : Int32) + (0 : Int32)) + (0 : Int32))), .val (.long u1), .second, .val (.long u2), .second, .val (.long u3), .second, .val (.double (FP.ddiv (FP.l2d va) (FP.l2d u1))), .second, .val (.double (FP.ddiv (FP.l2d vb) (FP.l2d u2))), .second, .val (.double (FP.ddiv (FP.l2d vc) (FP.l2d u3))), .second, .val (.ref a4), .unset, .unset, .unset, .unset] [(.int (2 : Int32)), (.int (((1 : Int32) + (0 : Int32)) + (0 : Int32)))])) _
        refine XS.icmpYes X6.here hx rfl (pc0 := 94) (pc' := 106) rfl (hb hby at_94) rfl rfl (by decide) (by decide) ?_
        show Steps p.tables e below (T6.setTop (mkF m 106 #[.val (.long va), .second, .val (.long sa), .second, .val (.long vb), .second, .val (.long sb), .second, .val (.long vc), .second, .val (.long sc), .second, .val (.int (((1 : Int32) + (0 : Int32)) + (0 : Int32))), .val (.long u1), .second, .val (.long u2), .second, .val (.long u3), .second, .val (.double (FP.ddiv (FP.l2d va) (FP.l2d u1))), .second, .val (.double (FP.ddiv (FP.l2d vb) (FP.l2d u2))), .second, .val (.double (FP.ddiv (FP.l2d vc) (FP.l2d u3))), .second, .val (.ref a4), .unset, .unset, .unset, .unset] [])) _
        refine XS.iload X6.here hx rfl (hb hby at_106) rfl ?_
        show Steps p.tables e below (T6.setTop (mkF m 108 #[.val (.long va), .second, .val (.long sa), .second, .val (.long vb), .second, .val (.long sb), .second, .val (.long vc), .second, .val (.long sc), .second, .val (.int (((1 : Int32) + (0 : Int32)) + (0 : Int32))), .val (.long u1), .second, .val (.long u2), .second, .val (.long u3), .second, .val (.double (FP.ddiv (FP.l2d va) (FP.l2d u1))), .second, .val (.double (FP.ddiv (FP.l2d vb) (FP.l2d u2))), .second, .val (.double (FP.ddiv (FP.l2d vc) (FP.l2d u3))), .second, .val (.ref a4), .unset, .unset, .unset, .unset] [(.int (((1 : Int32) + (0 : Int32)) + (0 : Int32)))])) _
        refine XS.iconst X6.here hx rfl (hb hby at_108) ?_
        show Steps p.tables e below (T6.setTop (mkF m 109 #[.val (.long va), .second, .val (.long sa), .second, .val (.long vb), .second, .val (.long sb), .second, .val (.long vc), .second, .val (.long sc), .second, .val (.int (((1 : Int32) + (0 : Int32)) + (0 : Int32))), .val (.long u1), .second, .val (.long u2), .second, .val (.long u3), .second, .val (.double (FP.ddiv (FP.l2d va) (FP.l2d u1))), .second, .val (.double (FP.ddiv (FP.l2d vb) (FP.l2d u2))), .second, .val (.double (FP.ddiv (FP.l2d vc) (FP.l2d u3))), .second, .val (.ref a4), .unset, .unset, .unset, .unset] [(.int (3 : Int32)), (.int (((1 : Int32) + (0 : Int32)) + (0 : Int32)))])) _
        refine XS.icmpYes X6.here hx rfl (pc0 := 109) (pc' := 121) rfl (hb hby at_109) rfl rfl (by decide) (by decide) ?_
        show Steps p.tables e below (T6.setTop (mkF m 121 #[.val (.long va), .second, .val (.long sa), .second, .val (.long vb), .second, .val (.long sb), .second, .val (.long vc), .second, .val (.long sc), .second, .val (.int (((1 : Int32) + (0 : Int32)) + (0 : Int32))), .val (.long u1), .second, .val (.long u2), .second, .val (.long u3), .second, .val (.double (FP.ddiv (FP.l2d va) (FP.l2d u1))), .second, .val (.double (FP.ddiv (FP.l2d vb) (FP.l2d u2))), .second, .val (.double (FP.ddiv (FP.l2d vc) (FP.l2d u3))), .second, .val (.ref a4), .unset, .unset, .unset, .unset] [])) _
        refine XS.dload X6.here hx rfl (hb hby at_121) rfl ?_
        show Steps p.tables e below (T6.setTop (mkF m 123 #[.val (.long va), .second, .val (.long sa), .second, .val (.long vb), .second, .val (.long sb), .second, .val (.long vc), .second, .val (.long sc), .second, .val (.int (((1 : Int32) + (0 : Int32)) + (0 : Int32))), .val (.long u1), .second, .val (.long u2), .second, .val (.long u3), .second, .val (.double (FP.ddiv (FP.l2d va) (FP.l2d u1))), .second, .val (.double (FP.ddiv (FP.l2d vb) (FP.l2d u2))), .second, .val (.double (FP.ddiv (FP.l2d vc) (FP.l2d u3))), .second, .val (.ref a4), .unset, .unset, .unset, .unset] [(.double (FP.ddiv (FP.l2d va) (FP.l2d u1)))])) _
        refine XS.dstore X6.here hx rfl (hb hby at_123) rfl (l' := #[.val (.long va), .second, .val (.long sa), .second, .val (.long vb), .second, .val (.long sb), .second, .val (.long vc), .second, .val (.long sc), .second, .val (.int (((1 : Int32) + (0 : Int32)) + (0 : Int32))), .val (.long u1), .second, .val (.long u2), .second, .val (.long u3), .second, .val (.double (FP.ddiv (FP.l2d va) (FP.l2d u1))), .second, .val (.double (FP.ddiv (FP.l2d vb) (FP.l2d u2))), .second, .val (.double (FP.ddiv (FP.l2d vc) (FP.l2d u3))), .second, .val (.ref a4), .val (.double (FP.ddiv (FP.l2d va) (FP.l2d u1))), .second, .unset, .unset]) rfl ?_
        show Steps p.tables e below (T6.setTop (mkF m 125 #[.val (.long va), .second, .val (.long sa), .second, .val (.long vb), .second, .val (.long sb), .second, .val (.long vc), .second, .val (.long sc), .second, .val (.int (((1 : Int32) + (0 : Int32)) + (0 : Int32))), .val (.long u1), .second, .val (.long u2), .second, .val (.long u3), .second, .val (.double (FP.ddiv (FP.l2d va) (FP.l2d u1))), .second, .val (.double (FP.ddiv (FP.l2d vb) (FP.l2d u2))), .second, .val (.double (FP.ddiv (FP.l2d vc) (FP.l2d u3))), .second, .val (.ref a4), .val (.double (FP.ddiv (FP.l2d va) (FP.l2d u1))), .second, .unset, .unset] [])) _
        refine XS.iload X6.here hx rfl (hb hby at_125) rfl ?_
        show Steps p.tables e below (T6.setTop (mkF m 127 #[.val (.long va), .second, .val (.long sa), .second, .val (.long vb), .second, .val (.long sb), .second, .val (.long vc), .second, .val (.long sc), .second, .val (.int (((1 : Int32) + (0 : Int32)) + (0 : Int32))), .val (.long u1), .second, .val (.long u2), .second, .val (.long u3), .second, .val (.double (FP.ddiv (FP.l2d va) (FP.l2d u1))), .second, .val (.double (FP.ddiv (FP.l2d vb) (FP.l2d u2))), .second, .val (.double (FP.ddiv (FP.l2d vc) (FP.l2d u3))), .second, .val (.ref a4), .val (.double (FP.ddiv (FP.l2d va) (FP.l2d u1))), .second, .unset, .unset] [(.int (((1 : Int32) + (0 : Int32)) + (0 : Int32)))])) _
        refine XS.iconst X6.here hx rfl (hb hby at_127) ?_
        show Steps p.tables e below (T6.setTop (mkF m 128 #[.val (.long va), .second, .val (.long sa), .second, .val (.long vb), .second, .val (.long sb), .second, .val (.long vc), .second, .val (.long sc), .second, .val (.int (((1 : Int32) + (0 : Int32)) + (0 : Int32))), .val (.long u1), .second, .val (.long u2), .second, .val (.long u3), .second, .val (.double (FP.ddiv (FP.l2d va) (FP.l2d u1))), .second, .val (.double (FP.ddiv (FP.l2d vb) (FP.l2d u2))), .second, .val (.double (FP.ddiv (FP.l2d vc) (FP.l2d u3))), .second, .val (.ref a4), .val (.double (FP.ddiv (FP.l2d va) (FP.l2d u1))), .second, .unset, .unset] [(.int (2 : Int32)), (.int (((1 : Int32) + (0 : Int32)) + (0 : Int32)))])) _
        refine XS.icmpYes X6.here hx rfl (pc0 := 128) (pc' := 143) rfl (hb hby at_128) rfl rfl (by decide) (by decide) ?_
        show Steps p.tables e below (T6.setTop (mkF m 143 #[.val (.long va), .second, .val (.long sa), .second, .val (.long vb), .second, .val (.long sb), .second, .val (.long vc), .second, .val (.long sc), .second, .val (.int (((1 : Int32) + (0 : Int32)) + (0 : Int32))), .val (.long u1), .second, .val (.long u2), .second, .val (.long u3), .second, .val (.double (FP.ddiv (FP.l2d va) (FP.l2d u1))), .second, .val (.double (FP.ddiv (FP.l2d vb) (FP.l2d u2))), .second, .val (.double (FP.ddiv (FP.l2d vc) (FP.l2d u3))), .second, .val (.ref a4), .val (.double (FP.ddiv (FP.l2d va) (FP.l2d u1))), .second, .unset, .unset] [])) _
        refine XS.iload X6.here hx rfl (hb hby at_143) rfl ?_
        show Steps p.tables e below (T6.setTop (mkF m 145 #[.val (.long va), .second, .val (.long sa), .second, .val (.long vb), .second, .val (.long sb), .second, .val (.long vc), .second, .val (.long sc), .second, .val (.int (((1 : Int32) + (0 : Int32)) + (0 : Int32))), .val (.long u1), .second, .val (.long u2), .second, .val (.long u3), .second, .val (.double (FP.ddiv (FP.l2d va) (FP.l2d u1))), .second, .val (.double (FP.ddiv (FP.l2d vb) (FP.l2d u2))), .second, .val (.double (FP.ddiv (FP.l2d vc) (FP.l2d u3))), .second, .val (.ref a4), .val (.double (FP.ddiv (FP.l2d va) (FP.l2d u1))), .second, .unset, .unset] [(.int (((1 : Int32) + (0 : Int32)) + (0 : Int32)))])) _
        refine XS.iconst X6.here hx rfl (hb hby at_145) ?_
        show Steps p.tables e below (T6.setTop (mkF m 146 #[.val (.long va), .second, .val (.long sa), .second, .val (.long vb), .second, .val (.long sb), .second, .val (.long vc), .second, .val (.long sc), .second, .val (.int (((1 : Int32) + (0 : Int32)) + (0 : Int32))), .val (.long u1), .second, .val (.long u2), .second, .val (.long u3), .second, .val (.double (FP.ddiv (FP.l2d va) (FP.l2d u1))), .second, .val (.double (FP.ddiv (FP.l2d vb) (FP.l2d u2))), .second, .val (.double (FP.ddiv (FP.l2d vc) (FP.l2d u3))), .second, .val (.ref a4), .val (.double (FP.ddiv (FP.l2d va) (FP.l2d u1))), .second, .unset, .unset] [(.int (3 : Int32)), (.int (((1 : Int32) + (0 : Int32)) + (0 : Int32)))])) _
        refine XS.icmpYes X6.here hx rfl (pc0 := 146) (pc' := 161) rfl (hb hby at_146) rfl rfl (by decide) (by decide) ?_
        show Steps p.tables e below (T6.setTop (mkF m 161 #[.val (.long va), .second, .val (.long sa), .second, .val (.long vb), .second, .val (.long sb), .second, .val (.long vc), .second, .val (.long sc), .second, .val (.int (((1 : Int32) + (0 : Int32)) + (0 : Int32))), .val (.long u1), .second, .val (.long u2), .second, .val (.long u3), .second, .val (.double (FP.ddiv (FP.l2d va) (FP.l2d u1))), .second, .val (.double (FP.ddiv (FP.l2d vb) (FP.l2d u2))), .second, .val (.double (FP.ddiv (FP.l2d vc) (FP.l2d u3))), .second, .val (.ref a4), .val (.double (FP.ddiv (FP.l2d va) (FP.l2d u1))), .second, .unset, .unset] [])) _
        refine XS.aload X6.here hx rfl (hb hby at_161) rfl rfl ?_
        show Steps p.tables e below (T6.setTop (mkF m 163 #[.val (.long va), .second, .val (.long sa), .second, .val (.long vb), .second, .val (.long sb), .second, .val (.long vc), .second, .val (.long sc), .second, .val (.int (((1 : Int32) + (0 : Int32)) + (0 : Int32))), .val (.long u1), .second, .val (.long u2), .second, .val (.long u3), .second, .val (.double (FP.ddiv (FP.l2d va) (FP.l2d u1))), .second, .val (.double (FP.ddiv (FP.l2d vb) (FP.l2d u2))), .second, .val (.double (FP.ddiv (FP.l2d vc) (FP.l2d u3))), .second, .val (.ref a4), .val (.double (FP.ddiv (FP.l2d va) (FP.l2d u1))), .second, .unset, .unset] [(.ref a4)])) _
        refine st9.trans ?_
        show Steps p.tables e below (T9.setTop (mkF m 166 #[.val (.long va), .second, .val (.long sa), .second, .val (.long vb), .second, .val (.long sb), .second, .val (.long vc), .second, .val (.long sc), .second, .val (.int (((1 : Int32) + (0 : Int32)) + (0 : Int32))), .val (.long u1), .second, .val (.long u2), .second, .val (.long u3), .second, .val (.double (FP.ddiv (FP.l2d va) (FP.l2d u1))), .second, .val (.double (FP.ddiv (FP.l2d vb) (FP.l2d u2))), .second, .val (.double (FP.ddiv (FP.l2d vc) (FP.l2d u3))), .second, .val (.ref a4), .val (.double (FP.ddiv (FP.l2d va) (FP.l2d u1))), .second, .unset, .unset] [(.double w9)])) _
        refine XS.dstore X9.here hx rfl (hb hby at_166) rfl (l' := #[.val (.long va), .second, .val (.long sa), .second, .val (.long vb), .second, .val (.long sb), .second, .val (.long vc), .second, .val (.long sc), .second, .val (.int (((1 : Int32) + (0 : Int32)) + (0 : Int32))), .val (.long u1), .second, .val (.long u2), .second, .val (.long u3), .second, .val (.double (FP.ddiv (FP.l2d va) (FP.l2d u1))), .second, .val (.double (FP.ddiv (FP.l2d vb) (FP.l2d u2))), .second, .val (.double (FP.ddiv (FP.l2d vc) (FP.l2d u3))), .second, .val (.ref a4), .val (.double (FP.ddiv (FP.l2d va) (FP.l2d u1))), .second, .val (.double w9), .second]) rfl ?_
        show Steps p.tables e below (T9.setTop (mkF m 168 #[.val (.long va), .second, .val (.long sa), .second, .val (.long vb), .second, .val (.long sb), .second, .val (.long vc), .second, .val (.long sc), .second, .val (.int (((1 : Int32) + (0 : Int32)) + (0 : Int32))), .val (.long u1), .second, .val (.long u2), .second, .val (.long u3), .second, .val (.double (FP.ddiv (FP.l2d va) (FP.l2d u1))), .second, .val (.double (FP.ddiv (FP.l2d vb) (FP.l2d u2))), .second, .val (.double (FP.ddiv (FP.l2d vc) (FP.l2d u3))), .second, .val (.ref a4), .val (.double (FP.ddiv (FP.l2d va) (FP.l2d u1))), .second, .val (.double w9), .second] [])) _
        refine XS.dload X9.here hx rfl (hb hby at_168) rfl ?_
        show Steps p.tables e below (T9.setTop (mkF m 170 #[.val (.long va), .second, .val (.long sa), .second, .val (.long vb), .second, .val (.long sb), .second, .val (.long vc), .second, .val (.long sc), .second, .val (.int (((1 : Int32) + (0 : Int32)) + (0 : Int32))), .val (.long u1), .second, .val (.long u2), .second, .val (.long u3), .second, .val (.double (FP.ddiv (FP.l2d va) (FP.l2d u1))), .second, .val (.double (FP.ddiv (FP.l2d vb) (FP.l2d u2))), .second, .val (.double (FP.ddiv (FP.l2d vc) (FP.l2d u3))), .second, .val (.ref a4), .val (.double (FP.ddiv (FP.l2d va) (FP.l2d u1))), .second, .val (.double w9), .second] [(.double w9)])) _
        refine XS.dload X9.here hx rfl (hb hby at_170) rfl ?_
        show Steps p.tables e below (T9.setTop (mkF m 172 #[.val (.long va), .second, .val (.long sa), .second, .val (.long vb), .second, .val (.long sb), .second, .val (.long vc), .second, .val (.long sc), .second, .val (.int (((1 : Int32) + (0 : Int32)) + (0 : Int32))), .val (.long u1), .second, .val (.long u2), .second, .val (.long u3), .second, .val (.double (FP.ddiv (FP.l2d va) (FP.l2d u1))), .second, .val (.double (FP.ddiv (FP.l2d vb) (FP.l2d u2))), .second, .val (.double (FP.ddiv (FP.l2d vc) (FP.l2d u3))), .second, .val (.ref a4), .val (.double (FP.ddiv (FP.l2d va) (FP.l2d u1))), .second, .val (.double w9), .second] [(.double (FP.ddiv (FP.l2d va) (FP.l2d u1))), (.double w9)])) _
        refine XS.dcmpS X9.here hx rfl (hb hby at_172) rfl (v := Jvm.Op.cmpValue (FP.dcmp w9 (FP.ddiv (FP.l2d va) (FP.l2d u1))) .l) rfl ?_
        show Steps p.tables e below (T9.setTop (mkF m 173 #[.val (.long va), .second, .val (.long sa), .second, .val (.long vb), .second, .val (.long sb), .second, .val (.long vc), .second, .val (.long sc), .second, .val (.int (((1 : Int32) + (0 : Int32)) + (0 : Int32))), .val (.long u1), .second, .val (.long u2), .second, .val (.long u3), .second, .val (.double (FP.ddiv (FP.l2d va) (FP.l2d u1))), .second, .val (.double (FP.ddiv (FP.l2d vb) (FP.l2d u2))), .second, .val (.double (FP.ddiv (FP.l2d vc) (FP.l2d u3))), .second, .val (.ref a4), .val (.double (FP.ddiv (FP.l2d va) (FP.l2d u1))), .second, .val (.double w9), .second] [(.int (Jvm.Op.cmpValue (FP.dcmp w9 (FP.ddiv (FP.l2d va) (FP.l2d u1))) .l))])) _
        refine XS.ifNo X9.here hx rfl (hb hby at_173) rfl ((Jvm.Own.holdsD f9 (own_q va u1 p1) _ _).trans (Jvm.Own.dF (fun q => q heq))) ?_
        show Steps p.tables e below (T9.setTop (mkF m 176 #[.val (.long va), .second, .val (.long sa), .second, .val (.long vb), .second, .val (.long sb), .second, .val (.long vc), .second, .val (.long sc), .second, .val (.int (((1 : Int32) + (0 : Int32)) + (0 : Int32))), .val (.long u1), .second, .val (.long u2), .second, .val (.long u3), .second, .val (.double (FP.ddiv (FP.l2d va) (FP.l2d u1))), .second, .val (.double (FP.ddiv (FP.l2d vb) (FP.l2d u2))), .second, .val (.double (FP.ddiv (FP.l2d vc) (FP.l2d u3))), .second, .val (.ref a4), .val (.double (FP.ddiv (FP.l2d va) (FP.l2d u1))), .second, .val (.double w9), .second] [])) _
        refine XS.iconst X9.here hx rfl (hb hby at_176) ?_
        show Steps p.tables e below (T9.setTop (mkF m 177 #[.val (.long va), .second, .val (.long sa), .second, .val (.long vb), .second, .val (.long sb), .second, .val (.long vc), .second, .val (.long sc), .second, .val (.int (((1 : Int32) + (0 : Int32)) + (0 : Int32))), .val (.long u1), .second, .val (.long u2), .second, .val (.long u3), .second, .val (.double (FP.ddiv (FP.l2d va) (FP.l2d u1))), .second, .val (.double (FP.ddiv (FP.l2d vb) (FP.l2d u2))), .second, .val (.double (FP.ddiv (FP.l2d vc) (FP.l2d u3))), .second, .val (.ref a4), .val (.double (FP.ddiv (FP.l2d va) (FP.l2d u1))), .second, .val (.double w9), .second] [(.int (1 : Int32))])) _
        refine XS.goto X9.here hx rfl (pc0 := 177) (pc' := 181) rfl (hb hby at_177) (by decide) (by decide) ?_
        show Steps p.tables e below (T9.setTop (mkF m 181 #[.val (.long va), .second, .val (.long sa), .second, .val (.long vb), .second, .val (.long sb), .second, .val (.long vc), .second, .val (.long sc), .second, .val (.int (((1 : Int32) + (0 : Int32)) + (0 : Int32))), .val (.long u1), .second, .val (.long u2), .second, .val (.long u3), .second, .val (.double (FP.ddiv (FP.l2d va) (FP.l2d u1))), .second, .val (.double (FP.ddiv (FP.l2d vb) (FP.l2d u2))), .second, .val (.double (FP.ddiv (FP.l2d vc) (FP.l2d u3))), .second, .val (.ref a4), .val (.double (FP.ddiv (FP.l2d va) (FP.l2d u1))), .second, .val (.double w9), .second] [(.int (1 : Int32))])) _
        exact retN X9 hx (t := .boolean) Bd.returns (by simp) (hb hby at_181) hr
      · show QL n0 _ T9.heap _
        exact ⟨rfl, Fr.app M6 N9⟩
set_option maxRecDepth 65536 in
set_option maxHeartbeats 40000000 in
theorem comes_1 {Post : Tables → Env → Array Value → State → Outcome → State → Prop} (hpost : ∀ tb e args s v u, (limb_1_1.after args s (.returned v) u = true ∧ limb_1_2.after args s (.returned v) u = true ∧ True) → FrameEnd s (.returned v) u (Jvm.fieldLocs frame_1_writes args s ++ Jvm.arrayLocs frame_1_arrays args s ++ Jvm.staticLocs frame_1_statics s) 48 192 → Post tb e args s (.returned v) u) :
    ArmFor flags0 classFile x code maxLocals ret World_1 tables_1 room_1 Calls_1 rest_1 Pre_1 Post := by
  intro l hfl _ _ p e ha hc hk s m args below hf hA hF happ hP
  obtain ⟨hcalls, hrest, hpre⟩ := hP
  obtain ⟨-, -, -, hnamed, -, -, -, hat⟩ := (Spec.applies_iff hf).mp happ
  obtain ⟨hg, hn⟩ := and_e (Cond.before_iff.mp (show (Jvm.Cond.and given_1 narrow_1).before args s = true from hpre))
  obtain ⟨hcnt, g0⟩ := and_e hg
  obtain ⟨a0, g1⟩ := and_e g0
  obtain ⟨a1, g2⟩ := and_e g1
  obtain ⟨a2, g3⟩ := and_e g2
  obtain ⟨a3, g4⟩ := and_e g3
  obtain ⟨a4, g5⟩ := and_e g4
  obtain ⟨w0, w1, w2, w3, w4, w5, rfl⟩ : ∃ w0 w1 w2 w3 w4 w5 : Value, args = #[w0, w1, w2, w3, w4, w5] := by
    have hs : args.size = 6 := by simpa [Cond.value, given_1] using hcnt
    obtain ⟨L⟩ := args
    match L, hs with
    | [w0, w1, w2, w3, w4, w5], _ => exact ⟨w0, w1, w2, w3, w4, w5, rfl⟩
  have hw := fun d (hd : d ∈ tables_1) => atoms_spec (ws := Jvm.Cond.code x code maxLocals ret :: tables_1) hat d (List.mem_cons_of_mem _ hd)
  obtain ⟨hsets, hown0⟩ := atoms_of _ (rest_1_c_eq ▸ (show rest_1_c.before _ s = true from hrest))
  have hfit : Fit s := fun {y c} hc i hi => by
    obtain ⟨ha, rfl⟩ := Array.getElem?_eq_some_iff.mp hc
    have q := List.all_eq_true.mp ((Array.all_eq_true_iff_forall_mem.mp hF) _ (Array.getElem_mem ha)) i (List.mem_range.mpr hi)
    simpa [Array.getElem?_eq_getElem hi] using q
  obtain ⟨v0, e0⟩ := isL_v a0
  obtain rfl : w0 = (.long v0) := Option.some.inj e0
  obtain ⟨v1, e1⟩ := isL_v a1
  obtain rfl : w1 = (.long v1) := Option.some.inj e1
  obtain ⟨v2, e2⟩ := isL_v a2
  obtain rfl : w2 = (.long v2) := Option.some.inj e2
  obtain ⟨v3, e3⟩ := isL_v a3
  obtain rfl : w3 = (.long v3) := Option.some.inj e3
  obtain ⟨v4, e4⟩ := isL_v a4
  obtain rfl : w4 = (.long v4) := Option.some.inj e4
  obtain ⟨v5, e5⟩ := isL_v g5
  obtain rfl : w5 = (.long v5) := Option.some.inj e5
  obtain ⟨w3, ew⟩ := arr_v (Cond.before_iff.mp (hsets _ (List.mem_of_getElem? (i := 6) rfl)))
  have S3 : Sta s s.heap "java/util/ArrayList" "DEFAULTCAPACITY_EMPTY_ELEMENTDATA" "[Ljava/lang/Object;" (.ref w3) := Sta.start ew (Or.inr ⟨(hw _ (List.mem_of_getElem? (i := 16) rfl)), hsets _ (List.mem_of_getElem? (i := 2) rfl)⟩)
  obtain ⟨c9, A9⟩ := Arr.start ew (Cond.before_iff.mp (hsets _ (List.mem_of_getElem? (i := 6) rfl)))
  have S4 : EA s w3 := ⟨S3, c9, A9, own_len0 (Cond.before_iff.mp (hsets _ (List.mem_of_getElem? (i := 8) rfl))) ew (A9.fin (State.Warmed39.refl s).alike)⟩
  obtain ⟨n, o, h1, h2, h3, _, L, rfl, ⟨rfl, N⟩, hq⟩ := rm0 l s _ hw tables_1 v0 v1 v2 v3 v4 v5 s.heap s.heap.size (Nat.le_refl _) w3 (Old.start s) S4 p e ha hc hk s m _ below hf ((Spec.applies_iff_loose hf).mp happ).1 ⟨rfl, State.Warmed39.refl s, rfl⟩ trivial
  refine ⟨n, _, h1, h2, h3, hpost _ _ _ _ _ _ ⟨Cond.after_iff.mpr rfl, Cond.after_iff.mpr (eq_i res_at (Term.int_eval (1)) rfl), trivial⟩ ⟨hq.1, hq.2.1, (hq.2.2.sift fun y hy => Or.inr (N y hy)).mono (by decide) (by decide)⟩⟩
theorem main_1_1 : Claimed_1_1 := comes_1 fun _ _ _ _ _ _ h hF => ⟨h.1, hF⟩
theorem main_1_2 : Claimed_1_2 := comes_1 fun _ _ _ _ _ _ h hF => ⟨h.2.1, hF⟩
end Jvm.Pilot.@@N@@
namespace Jvm.Pilot.@@N@@
open Jvm Jvm.ClassFile Sem Op Lib Jvm.Free Jvm.Stand Jvm.Pilot.@@N@@.Jvm.D
/-! MADE BY PROGRAM (witnessworld.py) out of the Statement's table words and the real class files: 27 classes; the members and pool entries that the words name. The judged class is class 1, her method 2. -/
namespace start1
open Jvm.ClassFile
def u (s : String) : CpInfo := .utf8 (stringToUtf16 s)
/-- a pool by its gaps: so many unusable entries, then the entry; so many at the end -/
def gap : Nat → List CpInfo → List CpInfo
  | 0, r => r
  | n + 1, r => .unusable :: gap n r
def poolList (es : List (Nat × CpInfo)) (last : Nat) : List CpInfo := es.foldr (fun e r => gap e.1 (e.2 :: r)) (gap last [])
def pool (es : List (Nat × CpInfo)) (last : Nat) : Array CpInfo := ⟨poolList es last⟩
def fileOf (pool : Array CpInfo) (this : Nat) (attrs : Array Attribute := #[]) (ms : Array MethodInfo := #[]) (fl : Nat := 33) (sup : Nat := 0) (ifs : Array Nat := #[]) (fds : Array FieldInfo := #[]) : ClassFile where
  minorVersion := 0
  majorVersion := 65
  constantPool := pool
  accessFlags := fl
  thisClass := this
  superClass := sup
  interfaces := ifs
  fields := fds
  methods := ms
  attributes := attrs
def plain (name : String) (sup : Option ClassId) : Class where
  name := name
  kind := .ordinary
  loader := none
  accessFlags := 33
  super := sup
  interfaces := #[]
  cf := none
  fields := #[]
  methods := #[]
  instanceTypes := #[]
  staticTypes := #[]
  resolved := #[]
  callSites := []
  init := .initialized
  statics := none
  mirror := none

def pool0 : Array CpInfo := pool [(5, u "<init>"), (0, u "()V"), (1, .class_ 10), (1, u "java/lang/Object")] 113

def k0c0 : Code := { maxStack := 0, maxLocals := 1, code := object_method_1_code, exceptionTable := #[], attributes := #[] }
def k0m0 : Method := { name := "<init>", desc := "()V", sig := { parameters := [], returnType := none }, accessFlags := 1, code := some k0c0 }
/-- java/lang/Object -/
def k0 : Class := { plain "java/lang/Object" none with
  accessFlags := 33
  interfaces := #[]
  cf := some (fileOf pool0 8 #[] #[{ accessFlags := 1, nameIndex := 5, descriptorIndex := 6, attributes := #[] }] 33 0 #[] #[])
  fields := #[]
  methods := #[k0m0]
  instanceTypes := #[]
  staticTypes := #[]
  resolved := Array.replicate 124 none
  statics := none }

def pool1 : Array CpInfo := pool [(2, .class_ 4), (0, .nameAndType 5 6), (0, u "java/lang/Object"), (0, u "<init>"), (0, u "()V"), (2, .long 9223372036854775807), (1, .methodref 12 13), (0, .class_ 14), (0, .nameAndType 15 16), (0, u "com/example/quadwarden/quadwarden/cli/PairedTimingsRatioMaxPinLaw"), (0, u "positive"), (0, u "(J)J"), (0, .class_ 18), (0, u "com/example/quadwarden/quadwarden/cli/PairedTimings"), (0, .methodref 17 3), (0, .methodref 17 21), (0, .nameAndType 22 23), (0, u "add"), (0, u "(JJ)V"), (0, .methodref 17 25), (0, .nameAndType 26 27), (0, u "ratioMax"), (0, u "()D"), (3, u "law"), (0, u "(JJJJJJ)Z")] 2

def k1m0 : Method := { name := "<init>", desc := "()V", sig := { parameters := [], returnType := none }, accessFlags := 1, code := none }
def k1c1 : Code := { maxStack := 4, maxLocals := 4, code := method_2_code, exceptionTable := #[], attributes := #[] }
def k1m1 : Method := { name := "positive", desc := "(J)J", sig := { parameters := [.long], returnType := some .long }, accessFlags := 10, code := some k1c1 }
def k1c2 : Code := { maxStack := 5, maxLocals := 30, code := code, exceptionTable := #[], attributes := #[] }
def k1m2 : Method := { name := "law", desc := "(JJJJJJ)Z", sig := { parameters := [.long, .long, .long, .long, .long, .long], returnType := some .boolean }, accessFlags := 9, code := some k1c2 }
/-- com/example/quadwarden/quadwarden/cli/PairedTimingsRatioMaxPinLaw -/
def k1 : Class := { plain "com/example/quadwarden/quadwarden/cli/PairedTimingsRatioMaxPinLaw" (some 0) with
  accessFlags := 49
  interfaces := #[]
  cf := some (fileOf pool1 12 #[] #[{ accessFlags := 1, nameIndex := 5, descriptorIndex := 6, attributes := #[] }, { accessFlags := 10, nameIndex := 15, descriptorIndex := 16, attributes := #[] }, { accessFlags := 9, nameIndex := 31, descriptorIndex := 32, attributes := #[] }] 49 2 #[] #[])
  fields := #[]
  methods := #[k1m0, k1m1, k1m2]
  instanceTypes := #[]
  staticTypes := #[]
  resolved := Array.replicate 35 none
  statics := none }

def pool2 : Array CpInfo := pool [(1, .methodref 2 3), (0, .class_ 4), (0, .nameAndType 5 6), (0, u "java/lang/Object"), (0, u "<init>"), (0, u "()V"), (0, .class_ 8), (0, u "java/util/ArrayList"), (0, .methodref 7 3), (0, .fieldref 11 12), (0, .class_ 13), (0, .nameAndType 14 15), (0, u "com/example/quadwarden/quadwarden/cli/PairedTimings"), (0, u "viewNanos"), (0, u "Ljava/util/List;"), (0, .fieldref 11 17), (0, .nameAndType 18 15), (0, u "subsetNanos"), (0, .fieldref 11 20), (0, .nameAndType 21 15), (0, u "ratios"), (0, .methodref 23 24), (0, .class_ 25), (0, .nameAndType 26 27), (0, u "java/lang/Double"), (0, u "valueOf"), (0, u "(D)Ljava/lang/Double;"), (0, .interfaceMethodref 29 30), (0, .class_ 31), (0, .nameAndType 32 33), (0, u "java/util/List"), (0, u "add"), (0, u "(Ljava/lang/Object;)Z"), (7, .class_ 43), (1, u "java/util/Collections"), (1, u "(Ljava/util/Collection;)Ljava/lang/Object;"), (0, .methodref 23 47), (0, .nameAndType 48 49), (0, u "doubleValue"), (0, u "()D"), (0, .methodref 41 51), (0, .nameAndType 52 45), (0, u "max"), (17, u "NANOS_PER_MILLI"), (0, u "D"), (5, u "(JJ)V"), (4, u "ratioMax")] 4

def k2c0 : Code := { maxStack := 3, maxLocals := 1, code := prog_5_method_1_code, exceptionTable := #[], attributes := #[] }
def k2m0 : Method := { name := "<init>", desc := "()V", sig := { parameters := [], returnType := none }, accessFlags := 0, code := some k2c0 }
def k2c1 : Code := { maxStack := 5, maxLocals := 5, code := prog_5_method_2_code, exceptionTable := #[], attributes := #[] }
def k2m1 : Method := { name := "add", desc := "(JJ)V", sig := { parameters := [.long, .long], returnType := none }, accessFlags := 0, code := some k2c1 }
def k2c2 : Code := { maxStack := 2, maxLocals := 1, code := prog_5_method_7_code, exceptionTable := #[], attributes := #[] }
def k2m2 : Method := { name := "ratioMax", desc := "()D", sig := { parameters := [], returnType := some .double }, accessFlags := 0, code := some k2c2 }
/-- com/example/quadwarden/quadwarden/cli/PairedTimings -/
def k2 : Class := { plain "com/example/quadwarden/quadwarden/cli/PairedTimings" (some 0) with
  accessFlags := 48
  interfaces := #[]
  cf := some (fileOf pool2 11 #[] #[{ accessFlags := 0, nameIndex := 5, descriptorIndex := 6, attributes := #[] }, { accessFlags := 0, nameIndex := 32, descriptorIndex := 77, attributes := #[] }, { accessFlags := 0, nameIndex := 82, descriptorIndex := 49, attributes := #[] }] 48 2 #[] #[{ accessFlags := 26, nameIndex := 70, descriptorIndex := 71, attributes := #[] }, { accessFlags := 18, nameIndex := 14, descriptorIndex := 15, attributes := #[] }, { accessFlags := 18, nameIndex := 18, descriptorIndex := 15, attributes := #[] }, { accessFlags := 18, nameIndex := 21, descriptorIndex := 15, attributes := #[] }])
  fields := #[{ name := "NANOS_PER_MILLI", type := .double, accessFlags := 26, slot := 0, constantValue := 0 }, { name := "viewNanos", type := (.object "java/util/List"), accessFlags := 18, slot := 0, constantValue := 0 }, { name := "subsetNanos", type := (.object "java/util/List"), accessFlags := 18, slot := 1, constantValue := 0 }, { name := "ratios", type := (.object "java/util/List"), accessFlags := 18, slot := 2, constantValue := 0 }]
  methods := #[k2m0, k2m1, k2m2]
  instanceTypes := #[(.object "java/util/List"), (.object "java/util/List"), (.object "java/util/List")]
  staticTypes := #[.double]
  resolved := Array.replicate 87 none
  statics := none }

def pool3 : Array CpInfo := pool [(8, .class_ 10), (1, u "java/lang/Iterable"), (24, .class_ 36), (0, u "java/lang/Object")] 25

/-- java/lang/Iterable -/
def k3 : Class := { plain "java/lang/Iterable" (some 0) with
  accessFlags := 1537
  interfaces := #[]
  cf := some (fileOf pool3 8 #[] #[] 1537 35 #[] #[])
  fields := #[]
  methods := #[]
  instanceTypes := #[]
  staticTypes := #[]
  resolved := Array.replicate 62 none
  statics := none }

def pool4 : Array CpInfo := pool [(10, .class_ 12), (1, u "java/util/Collection"), (10, u "iterator"), (0, u "()Ljava/util/Iterator;"), (35, .class_ 61), (0, u "java/lang/Object"), (0, .class_ 63), (0, u "java/lang/Iterable")] 51

def k4m0 : Method := { name := "iterator", desc := "()Ljava/util/Iterator;", sig := { parameters := [], returnType := some (.object "java/util/Iterator") }, accessFlags := 1025, code := none }
/-- java/util/Collection -/
def k4 : Class := { plain "java/util/Collection" (some 0) with
  accessFlags := 1537
  interfaces := #[3]
  cf := some (fileOf pool4 10 #[] #[{ accessFlags := 1025, nameIndex := 23, descriptorIndex := 24, attributes := #[] }] 1537 60 #[62] #[])
  fields := #[]
  methods := #[k4m0]
  instanceTypes := #[]
  staticTypes := #[]
  resolved := Array.replicate 115 none
  statics := none }

def pool5 : Array CpInfo := pool [(1, .methodref 2 3), (0, .class_ 4), (0, .nameAndType 5 6), (0, u "java/lang/Object"), (0, u "<init>"), (0, u "()V"), (1, .class_ 10), (1, u "java/util/AbstractCollection"), (66, .class_ 78), (0, u "java/util/Collection")] 81

def k5c0 : Code := { maxStack := 1, maxLocals := 1, code := jdk_22_method_1_code, exceptionTable := #[], attributes := #[] }
def k5m0 : Method := { name := "<init>", desc := "()V", sig := { parameters := [], returnType := none }, accessFlags := 4, code := some k5c0 }
/-- java/util/AbstractCollection -/
def k5 : Class := { plain "java/util/AbstractCollection" (some 0) with
  accessFlags := 1057
  interfaces := #[4]
  cf := some (fileOf pool5 8 #[] #[{ accessFlags := 4, nameIndex := 5, descriptorIndex := 6, attributes := #[] }] 1057 2 #[77] #[])
  fields := #[]
  methods := #[k5m0]
  instanceTypes := #[]
  staticTypes := #[]
  resolved := Array.replicate 160 none
  statics := none }

def pool6 : Array CpInfo := pool [(8, .class_ 10), (1, u "java/util/SequencedCollection"), (15, .class_ 27), (0, u "java/lang/Object"), (0, .class_ 29), (0, u "java/util/Collection")] 27

/-- java/util/SequencedCollection -/
def k6 : Class := { plain "java/util/SequencedCollection" (some 0) with
  accessFlags := 1537
  interfaces := #[4]
  cf := some (fileOf pool6 8 #[] #[] 1537 26 #[28] #[])
  fields := #[]
  methods := #[]
  instanceTypes := #[]
  staticTypes := #[]
  resolved := Array.replicate 57 none
  statics := none }

def pool7 : Array CpInfo := pool [(8, .class_ 10), (1, u "java/util/List"), (49, u "add"), (3, u "(Ljava/lang/Object;)Z"), (38, .class_ 104), (0, u "java/lang/Object"), (15, .class_ 121), (0, u "java/util/SequencedCollection")] 129

def k7m0 : Method := { name := "add", desc := "(Ljava/lang/Object;)Z", sig := { parameters := [(.object "java/lang/Object")], returnType := some .boolean }, accessFlags := 1025, code := none }
/-- java/util/List -/
def k7 : Class := { plain "java/util/List" (some 0) with
  accessFlags := 1537
  interfaces := #[6]
  cf := some (fileOf pool7 8 #[] #[{ accessFlags := 1025, nameIndex := 60, descriptorIndex := 64, attributes := #[] }] 1537 103 #[120] #[])
  fields := #[]
  methods := #[k7m0]
  instanceTypes := #[]
  staticTypes := #[]
  resolved := Array.replicate 251 none
  statics := none }

def pool8 : Array CpInfo := pool [(1, .methodref 2 3), (0, .class_ 4), (0, .nameAndType 5 6), (0, u "java/util/AbstractCollection"), (0, u "<init>"), (0, u "()V"), (0, .fieldref 8 9), (0, .class_ 10), (0, .nameAndType 11 12), (0, u "java/util/AbstractList"), (0, u "modCount"), (0, u "I"), (64, .class_ 78), (0, u "java/util/AbstractList$Itr"), (3, .class_ 83), (0, u "java/util/AbstractList$ListItr"), (9, .class_ 94), (0, u "java/util/AbstractList$RandomAccessSubList"), (3, .class_ 99), (0, u "java/util/AbstractList$SubList"), (33, .class_ 134), (0, u "java/util/List"), (73, .class_ 209), (0, u "java/util/AbstractList$SubList$1"), (0, .class_ 211), (0, u "java/util/AbstractList$RandomAccessSpliterator")] 6

def k8c0 : Code := { maxStack := 2, maxLocals := 1, code := jdk_39_method_1_code, exceptionTable := #[], attributes := #[] }
def k8m0 : Method := { name := "<init>", desc := "()V", sig := { parameters := [], returnType := none }, accessFlags := 4, code := some k8c0 }
/-- java/util/AbstractList -/
def k8 : Class := { plain "java/util/AbstractList" (some 5) with
  accessFlags := 1057
  interfaces := #[7]
  cf := some (fileOf pool8 8 #[.nestMembers #[93, 98, 208, 210, 82, 77]] #[{ accessFlags := 4, nameIndex := 5, descriptorIndex := 6, attributes := #[] }] 1057 2 #[133] #[{ accessFlags := 132, nameIndex := 11, descriptorIndex := 12, attributes := #[] }])
  fields := #[{ name := "modCount", type := .int, accessFlags := 132, slot := 0, constantValue := 0 }]
  methods := #[k8m0]
  instanceTypes := #[.int]
  staticTypes := #[]
  resolved := Array.replicate 218 none
  statics := none }

def pool9 : Array CpInfo := pool [(1, .class_ 2), (0, u "java/util/RandomAccess"), (0, .class_ 4), (0, u "java/lang/Object")] 2

/-- java/util/RandomAccess -/
def k9 : Class := { plain "java/util/RandomAccess" (some 0) with
  accessFlags := 1537
  interfaces := #[]
  cf := some (fileOf pool9 1 #[] #[] 1537 3 #[] #[])
  fields := #[]
  methods := #[]
  instanceTypes := #[]
  staticTypes := #[]
  resolved := Array.replicate 7 none
  statics := none }

def pool10 : Array CpInfo := pool [(1, .class_ 2), (0, u "java/lang/Cloneable"), (0, .class_ 4), (0, u "java/lang/Object")] 2

/-- java/lang/Cloneable -/
def k10 : Class := { plain "java/lang/Cloneable" (some 0) with
  accessFlags := 1537
  interfaces := #[]
  cf := some (fileOf pool10 1 #[] #[] 1537 3 #[] #[])
  fields := #[]
  methods := #[]
  instanceTypes := #[]
  staticTypes := #[]
  resolved := Array.replicate 7 none
  statics := none }

def pool11 : Array CpInfo := pool [(1, .class_ 2), (0, u "java/io/Serializable"), (0, .class_ 4), (0, u "java/lang/Object")] 2

/-- java/io/Serializable -/
def k11 : Class := { plain "java/io/Serializable" (some 0) with
  accessFlags := 1537
  interfaces := #[]
  cf := some (fileOf pool11 1 #[] #[] 1537 3 #[] #[])
  fields := #[]
  methods := #[]
  instanceTypes := #[]
  staticTypes := #[]
  resolved := Array.replicate 7 none
  statics := none }

def pool12 : Array CpInfo := pool [(1, .methodref 2 3), (0, .class_ 4), (0, .nameAndType 5 6), (0, u "java/util/AbstractList"), (0, u "<init>"), (0, u "()V"), (0, .class_ 8), (0, u "java/lang/Object"), (0, .fieldref 10 11), (0, .class_ 12), (0, .nameAndType 13 14), (0, u "java/util/ArrayList"), (0, u "elementData"), (0, u "[Ljava/lang/Object;"), (2, u "EMPTY_ELEMENTDATA"), (21, .fieldref 10 40), (0, .nameAndType 41 14), (0, u "DEFAULTCAPACITY_EMPTY_ELEMENTDATA"), (5, u "()[Ljava/lang/Object;"), (0, .fieldref 10 49), (0, .nameAndType 50 51), (0, u "size"), (0, u "I"), (11, .fieldref 10 64), (0, .nameAndType 65 51), (0, u "modCount"), (3, .methodref 10 70), (0, .nameAndType 71 72), (0, u "grow"), (0, u "(I)[Ljava/lang/Object;"), (6, .methodref 80 81), (0, .class_ 82), (0, .nameAndType 83 84), (0, u "java/lang/Math"), (0, u "max"), (0, u "(II)I"), (11, u "(Ljava/lang/Object;)Z"), (32, .methodref 10 130), (0, .nameAndType 71 47), (0, .methodref 10 132), (0, .nameAndType 133 134), (0, u "add"), (0, u "(Ljava/lang/Object;[Ljava/lang/Object;I)V"), (13, .class_ 149), (0, u "java/util/List"), (16, u "iterator"), (0, u "()Ljava/util/Iterator;"), (94, .class_ 263), (0, u "java/util/ArrayList$ListItr"), (3, .class_ 268), (0, u "java/util/ArrayList$Itr"), (0, .methodref 267 270), (0, .nameAndType 5 271), (0, u "(Ljava/util/ArrayList;)V"), (4, .class_ 277), (0, u "java/util/ArrayList$SubList"), (12, .class_ 291), (0, u "java/util/ArrayList$ArrayListSpliterator"), (37, .class_ 330), (0, u "java/util/RandomAccess"), (0, .class_ 332), (0, u "java/lang/Cloneable"), (0, .class_ 334), (0, u "java/io/Serializable"), (0, u "serialVersionUID"), (0, u "J"), (3, u "DEFAULT_CAPACITY"), (159, .class_ 501), (0, u "java/util/ArrayList$SubList$2"), (0, .class_ 503), (0, u "java/util/ArrayList$SubList$1")] 5

def k12c0 : Code := { maxStack := 2, maxLocals := 1, code := jdk_38_method_2_code, exceptionTable := #[], attributes := #[] }
def k12m0 : Method := { name := "<init>", desc := "()V", sig := { parameters := [], returnType := none }, accessFlags := 1, code := some k12c0 }
def k12c1 : Code := { maxStack := 4, maxLocals := 4, code := jdk_38_method_6_code, exceptionTable := #[], attributes := #[] }
def k12m1 : Method := { name := "grow", desc := "(I)[Ljava/lang/Object;", sig := { parameters := [.int], returnType := some (.array (.object "java/lang/Object")) }, accessFlags := 2, code := some k12c1 }
def k12c2 : Code := { maxStack := 3, maxLocals := 1, code := jdk_38_method_7_code, exceptionTable := #[], attributes := #[] }
def k12m2 : Method := { name := "grow", desc := "()[Ljava/lang/Object;", sig := { parameters := [], returnType := some (.array (.object "java/lang/Object")) }, accessFlags := 2, code := some k12c2 }
def k12c3 : Code := { maxStack := 3, maxLocals := 4, code := jdk_38_method_24_code, exceptionTable := #[], attributes := #[] }
def k12m3 : Method := { name := "add", desc := "(Ljava/lang/Object;[Ljava/lang/Object;I)V", sig := { parameters := [(.object "java/lang/Object"), (.array (.object "java/lang/Object")), .int], returnType := none }, accessFlags := 2, code := some k12c3 }
def k12c4 : Code := { maxStack := 4, maxLocals := 2, code := jdk_38_method_25_code, exceptionTable := #[], attributes := #[] }
def k12m4 : Method := { name := "add", desc := "(Ljava/lang/Object;)Z", sig := { parameters := [(.object "java/lang/Object")], returnType := some .boolean }, accessFlags := 1, code := some k12c4 }
def k12c5 : Code := { maxStack := 3, maxLocals := 1, code := jdk_38_method_55_code, exceptionTable := #[], attributes := #[] }
def k12m5 : Method := { name := "iterator", desc := "()Ljava/util/Iterator;", sig := { parameters := [], returnType := some (.object "java/util/Iterator") }, accessFlags := 1, code := some k12c5 }
/-- java/util/ArrayList -/
def k12 : Class := { plain "java/util/ArrayList" (some 8) with
  accessFlags := 33
  interfaces := #[7, 9, 10, 11]
  cf := some (fileOf pool12 10 #[.nestMembers #[290, 276, 500, 502, 262, 267]] #[{ accessFlags := 1, nameIndex := 5, descriptorIndex := 6, attributes := #[] }, { accessFlags := 2, nameIndex := 71, descriptorIndex := 72, attributes := #[] }, { accessFlags := 2, nameIndex := 71, descriptorIndex := 47, attributes := #[] }, { accessFlags := 2, nameIndex := 133, descriptorIndex := 134, attributes := #[] }, { accessFlags := 1, nameIndex := 133, descriptorIndex := 96, attributes := #[] }, { accessFlags := 1, nameIndex := 166, descriptorIndex := 167, attributes := #[] }] 33 2 #[148, 329, 331, 333] #[{ accessFlags := 26, nameIndex := 335, descriptorIndex := 336, attributes := #[] }, { accessFlags := 26, nameIndex := 340, descriptorIndex := 51, attributes := #[] }, { accessFlags := 26, nameIndex := 17, descriptorIndex := 14, attributes := #[] }, { accessFlags := 26, nameIndex := 41, descriptorIndex := 14, attributes := #[] }, { accessFlags := 128, nameIndex := 13, descriptorIndex := 14, attributes := #[] }, { accessFlags := 2, nameIndex := 50, descriptorIndex := 51, attributes := #[] }])
  fields := #[{ name := "serialVersionUID", type := .long, accessFlags := 26, slot := 0, constantValue := 0 }, { name := "DEFAULT_CAPACITY", type := .int, accessFlags := 26, slot := 1, constantValue := 0 }, { name := "EMPTY_ELEMENTDATA", type := (.array (.object "java/lang/Object")), accessFlags := 26, slot := 2, constantValue := 0 }, { name := "DEFAULTCAPACITY_EMPTY_ELEMENTDATA", type := (.array (.object "java/lang/Object")), accessFlags := 26, slot := 3, constantValue := 0 }, { name := "elementData", type := (.array (.object "java/lang/Object")), accessFlags := 128, slot := 1, constantValue := 0 }, { name := "size", type := .int, accessFlags := 2, slot := 2, constantValue := 0 }]
  methods := #[k12m0, k12m1, k12m2, k12m3, k12m4, k12m5]
  instanceTypes := #[.int, (.array (.object "java/lang/Object")), .int]
  staticTypes := #[.long, .int, (.array (.object "java/lang/Object")), (.array (.object "java/lang/Object"))]
  resolved := Array.replicate 509 none
  statics := some 0 }

def pool13 : Array CpInfo := pool [(1, .methodref 2 3), (0, .class_ 4), (0, .nameAndType 5 6), (0, u "java/lang/Object"), (0, u "<init>"), (0, u "()V"), (1, .class_ 10), (1, u "java/lang/Number"), (2, .class_ 14), (0, u "java/io/Serializable"), (0, u "serialVersionUID"), (0, u "J")] 20

def k13c0 : Code := { maxStack := 1, maxLocals := 1, code := jdk_18_method_1_code, exceptionTable := #[], attributes := #[] }
def k13m0 : Method := { name := "<init>", desc := "()V", sig := { parameters := [], returnType := none }, accessFlags := 1, code := some k13c0 }
/-- java/lang/Number -/
def k13 : Class := { plain "java/lang/Number" (some 0) with
  accessFlags := 1057
  interfaces := #[11]
  cf := some (fileOf pool13 8 #[] #[{ accessFlags := 1, nameIndex := 5, descriptorIndex := 6, attributes := #[] }] 1057 2 #[13] #[{ accessFlags := 26, nameIndex := 15, descriptorIndex := 16, attributes := #[] }])
  fields := #[{ name := "serialVersionUID", type := .long, accessFlags := 26, slot := 0, constantValue := 0 }]
  methods := #[k13m0]
  instanceTypes := #[]
  staticTypes := #[.long]
  resolved := Array.replicate 37 none
  statics := none }

def pool14 : Array CpInfo := pool [(1, .class_ 2), (0, u "java/lang/Comparable"), (0, .class_ 4), (0, u "java/lang/Object"), (0, u "compareTo"), (0, u "(Ljava/lang/Object;)I")] 5

def k14m0 : Method := { name := "compareTo", desc := "(Ljava/lang/Object;)I", sig := { parameters := [(.object "java/lang/Object")], returnType := some .int }, accessFlags := 1025, code := none }
/-- java/lang/Comparable -/
def k14 : Class := { plain "java/lang/Comparable" (some 0) with
  accessFlags := 1537
  interfaces := #[]
  cf := some (fileOf pool14 1 #[] #[{ accessFlags := 1025, nameIndex := 5, descriptorIndex := 6, attributes := #[] }] 1537 3 #[] #[])
  fields := #[]
  methods := #[k14m0]
  instanceTypes := #[]
  staticTypes := #[]
  resolved := Array.replicate 12 none
  statics := none }

def pool15 : Array CpInfo := pool [(1, .class_ 2), (0, u "java/lang/constant/Constable"), (0, .class_ 4), (0, u "java/lang/Object")] 6

/-- java/lang/constant/Constable -/
def k15 : Class := { plain "java/lang/constant/Constable" (some 0) with
  accessFlags := 1537
  interfaces := #[]
  cf := some (fileOf pool15 1 #[] #[] 1537 3 #[] #[])
  fields := #[]
  methods := #[]
  instanceTypes := #[]
  staticTypes := #[]
  resolved := Array.replicate 11 none
  statics := none }

def pool16 : Array CpInfo := pool [(1, .class_ 2), (0, u "java/lang/constant/ConstantDesc"), (0, .class_ 4), (0, u "java/lang/Object")] 32

/-- java/lang/constant/ConstantDesc -/
def k16 : Class := { plain "java/lang/constant/ConstantDesc" (some 0) with
  accessFlags := 1537
  interfaces := #[]
  cf := some (fileOf pool16 1 #[] #[] 1537 3 #[] #[])
  fields := #[]
  methods := #[]
  instanceTypes := #[]
  staticTypes := #[]
  resolved := Array.replicate 37 none
  statics := none }

def pool17 : Array CpInfo := pool [(1, .class_ 2), (0, u "java/lang/Double"), (11, u "(D)Z"), (5, u "<init>"), (25, .methodref 1 47), (0, .nameAndType 48 49), (0, u "doubleToLongBits"), (0, u "(D)J"), (55, .methodref 1 106), (0, .nameAndType 20 107), (0, u "(D)V"), (5, .methodref 114 115), (0, .class_ 116), (0, .nameAndType 20 117), (0, u "java/lang/Number"), (0, u "()V"), (0, .fieldref 1 119), (0, .nameAndType 120 121), (0, u "value"), (0, u "D"), (0, .methodref 1 123), (0, .nameAndType 124 14), (0, u "isNaN"), (9, .methodref 1 135), (0, .nameAndType 136 49), (0, u "doubleToRawLongBits"), (2, .methodref 1 140), (0, .nameAndType 141 142), (0, u "compare"), (0, u "(DD)I"), (12, .methodref 1 156), (0, .nameAndType 157 158), (0, u "compareTo"), (0, u "(Ljava/lang/Double;)I"), (14, u "TYPE"), (0, u "Ljava/lang/Class;"), (0, .class_ 176), (0, u "java/lang/Comparable"), (0, .class_ 178), (0, u "java/lang/constant/Constable"), (0, .class_ 180), (0, u "java/lang/constant/ConstantDesc"), (0, u "POSITIVE_INFINITY"), (3, u "NEGATIVE_INFINITY"), (2, u "NaN"), (2, u "MAX_VALUE"), (0, u "MIN_NORMAL"), (0, u "MIN_VALUE"), (2, u "SIZE"), (0, u "I"), (1, u "PRECISION"), (1, u "MAX_EXPONENT"), (1, u "MIN_EXPONENT"), (1, u "BYTES"), (3, u "serialVersionUID"), (0, u "J"), (14, u "valueOf"), (5, u "(D)Ljava/lang/Double;"), (23, u "doubleValue"), (0, u "()D"), (17, u "(Ljava/lang/Object;)I")] 15

def k17c0 : Code := { maxStack := 4, maxLocals := 2, code := jdk_117_method_4_code, exceptionTable := #[], attributes := #[] }
def k17m0 : Method := { name := "valueOf", desc := "(D)Ljava/lang/Double;", sig := { parameters := [.double], returnType := some (.object "java/lang/Double") }, accessFlags := 9, code := some k17c0 }
def k17c1 : Code := { maxStack := 4, maxLocals := 2, code := jdk_117_method_6_code, exceptionTable := #[], attributes := #[] }
def k17m1 : Method := { name := "isNaN", desc := "(D)Z", sig := { parameters := [.double], returnType := some .boolean }, accessFlags := 9, code := some k17c1 }
def k17c2 : Code := { maxStack := 3, maxLocals := 3, code := jdk_117_method_9_code, exceptionTable := #[], attributes := #[] }
def k17m2 : Method := { name := "<init>", desc := "(D)V", sig := { parameters := [.double], returnType := none }, accessFlags := 1, code := some k17c2 }
def k17c3 : Code := { maxStack := 2, maxLocals := 1, code := jdk_117_method_19_code, exceptionTable := #[], attributes := #[] }
def k17m3 : Method := { name := "doubleValue", desc := "()D", sig := { parameters := [], returnType := some .double }, accessFlags := 1, code := some k17c3 }
def k17c4 : Code := { maxStack := 2, maxLocals := 2, code := jdk_117_method_23_code, exceptionTable := #[], attributes := #[] }
def k17m4 : Method := { name := "doubleToLongBits", desc := "(D)J", sig := { parameters := [.double], returnType := some .long }, accessFlags := 9, code := some k17c4 }
def k17m5 : Method := { name := "doubleToRawLongBits", desc := "(D)J", sig := { parameters := [.double], returnType := some .long }, accessFlags := 265, code := none }
def k17c6 : Code := { maxStack := 4, maxLocals := 2, code := jdk_117_method_26_code, exceptionTable := #[], attributes := #[] }
def k17m6 : Method := { name := "compareTo", desc := "(Ljava/lang/Double;)I", sig := { parameters := [(.object "java/lang/Double")], returnType := some .int }, accessFlags := 1, code := some k17c6 }
def k17c7 : Code := { maxStack := 4, maxLocals := 8, code := jdk_117_method_27_code, exceptionTable := #[], attributes := #[] }
def k17m7 : Method := { name := "compare", desc := "(DD)I", sig := { parameters := [.double, .double], returnType := some .int }, accessFlags := 9, code := some k17c7 }
def k17c8 : Code := { maxStack := 2, maxLocals := 2, code := jdk_117_method_33_code, exceptionTable := #[], attributes := #[] }
def k17m8 : Method := { name := "compareTo", desc := "(Ljava/lang/Object;)I", sig := { parameters := [(.object "java/lang/Object")], returnType := some .int }, accessFlags := 4161, code := some k17c8 }
/-- java/lang/Double -/
def k17 : Class := { plain "java/lang/Double" (some 13) with
  accessFlags := 49
  interfaces := #[14, 15, 16]
  cf := some (fileOf pool17 1 #[] #[{ accessFlags := 9, nameIndex := 225, descriptorIndex := 231, attributes := #[] }, { accessFlags := 9, nameIndex := 124, descriptorIndex := 14, attributes := #[] }, { accessFlags := 1, nameIndex := 20, descriptorIndex := 107, attributes := #[] }, { accessFlags := 1, nameIndex := 255, descriptorIndex := 256, attributes := #[] }, { accessFlags := 9, nameIndex := 48, descriptorIndex := 49, attributes := #[] }, { accessFlags := 265, nameIndex := 136, descriptorIndex := 49, attributes := #[] }, { accessFlags := 1, nameIndex := 157, descriptorIndex := 158, attributes := #[] }, { accessFlags := 9, nameIndex := 141, descriptorIndex := 142, attributes := #[] }, { accessFlags := 4161, nameIndex := 157, descriptorIndex := 274, attributes := #[] }] 49 114 #[175, 177, 179] #[{ accessFlags := 25, nameIndex := 181, descriptorIndex := 121, attributes := #[] }, { accessFlags := 25, nameIndex := 185, descriptorIndex := 121, attributes := #[] }, { accessFlags := 25, nameIndex := 188, descriptorIndex := 121, attributes := #[] }, { accessFlags := 25, nameIndex := 191, descriptorIndex := 121, attributes := #[] }, { accessFlags := 25, nameIndex := 192, descriptorIndex := 121, attributes := #[] }, { accessFlags := 25, nameIndex := 193, descriptorIndex := 121, attributes := #[] }, { accessFlags := 25, nameIndex := 196, descriptorIndex := 197, attributes := #[] }, { accessFlags := 25, nameIndex := 199, descriptorIndex := 197, attributes := #[] }, { accessFlags := 25, nameIndex := 201, descriptorIndex := 197, attributes := #[] }, { accessFlags := 25, nameIndex := 203, descriptorIndex := 197, attributes := #[] }, { accessFlags := 25, nameIndex := 205, descriptorIndex := 197, attributes := #[] }, { accessFlags := 25, nameIndex := 173, descriptorIndex := 174, attributes := #[] }, { accessFlags := 18, nameIndex := 120, descriptorIndex := 121, attributes := #[] }, { accessFlags := 26, nameIndex := 209, descriptorIndex := 210, attributes := #[] }])
  fields := #[{ name := "POSITIVE_INFINITY", type := .double, accessFlags := 25, slot := 0, constantValue := 0 }, { name := "NEGATIVE_INFINITY", type := .double, accessFlags := 25, slot := 1, constantValue := 0 }, { name := "NaN", type := .double, accessFlags := 25, slot := 2, constantValue := 0 }, { name := "MAX_VALUE", type := .double, accessFlags := 25, slot := 3, constantValue := 0 }, { name := "MIN_NORMAL", type := .double, accessFlags := 25, slot := 4, constantValue := 0 }, { name := "MIN_VALUE", type := .double, accessFlags := 25, slot := 5, constantValue := 0 }, { name := "SIZE", type := .int, accessFlags := 25, slot := 6, constantValue := 0 }, { name := "PRECISION", type := .int, accessFlags := 25, slot := 7, constantValue := 0 }, { name := "MAX_EXPONENT", type := .int, accessFlags := 25, slot := 8, constantValue := 0 }, { name := "MIN_EXPONENT", type := .int, accessFlags := 25, slot := 9, constantValue := 0 }, { name := "BYTES", type := .int, accessFlags := 25, slot := 10, constantValue := 0 }, { name := "TYPE", type := (.object "java/lang/Class"), accessFlags := 25, slot := 11, constantValue := 0 }, { name := "value", type := .double, accessFlags := 18, slot := 0, constantValue := 0 }, { name := "serialVersionUID", type := .long, accessFlags := 26, slot := 12, constantValue := 0 }]
  methods := #[k17m0, k17m1, k17m2, k17m3, k17m4, k17m5, k17m6, k17m7, k17m8]
  instanceTypes := #[.double]
  staticTypes := #[.double, .double, .double, .double, .double, .double, .int, .int, .int, .int, .int, (.object "java/lang/Class"), .long]
  resolved := Array.replicate 290 none
  statics := none }

def pool18 : Array CpInfo := pool [(1, .class_ 2), (0, u "java/lang/Math"), (1, .class_ 6), (1, u "java/lang/Object"), (0, u "<init>"), (0, u "()V"), (89, .class_ 100), (1, u "java/lang/Math$RandomNumberGeneratorHolder"), (71, u "negativeZeroFloatBits"), (0, u "J"), (2, u "negativeZeroDoubleBits"), (21, u "max"), (46, u "$assertionsDisabled"), (0, u "Z"), (88, u "(II)I"), (2, u "twoToTheDoubleScaleDown"), (0, u "D"), (4, u "twoToTheDoubleScaleUp"), (9, u "E"), (3, u "PI"), (2, u "TAU"), (2, u "DEGREES_TO_RADIANS"), (0, u "RADIANS_TO_DEGREES")] 94

def k18m0 : Method := { name := "<init>", desc := "()V", sig := { parameters := [], returnType := none }, accessFlags := 2, code := none }
def k18c1 : Code := { maxStack := 2, maxLocals := 2, code := jdk_29_method_65_code, exceptionTable := #[], attributes := #[] }
def k18m1 : Method := { name := "max", desc := "(II)I", sig := { parameters := [.int, .int], returnType := some .int }, accessFlags := 9, code := some k18c1 }
/-- java/lang/Math -/
def k18 : Class := { plain "java/lang/Math" (some 0) with
  accessFlags := 49
  interfaces := #[]
  cf := some (fileOf pool18 1 #[.nestMembers #[98]] #[{ accessFlags := 2, nameIndex := 7, descriptorIndex := 8, attributes := #[] }, { accessFlags := 9, nameIndex := 198, descriptorIndex := 335, attributes := #[] }] 49 4 #[] #[{ accessFlags := 25, nameIndex := 354, descriptorIndex := 339, attributes := #[] }, { accessFlags := 25, nameIndex := 358, descriptorIndex := 339, attributes := #[] }, { accessFlags := 25, nameIndex := 361, descriptorIndex := 339, attributes := #[] }, { accessFlags := 26, nameIndex := 364, descriptorIndex := 339, attributes := #[] }, { accessFlags := 26, nameIndex := 365, descriptorIndex := 339, attributes := #[] }, { accessFlags := 26, nameIndex := 172, descriptorIndex := 173, attributes := #[] }, { accessFlags := 26, nameIndex := 176, descriptorIndex := 173, attributes := #[] }, { accessFlags := 8, nameIndex := 344, descriptorIndex := 339, attributes := #[] }, { accessFlags := 8, nameIndex := 338, descriptorIndex := 339, attributes := #[] }, { accessFlags := 4120, nameIndex := 245, descriptorIndex := 246, attributes := #[] }])
  fields := #[{ name := "E", type := .double, accessFlags := 25, slot := 0, constantValue := 0 }, { name := "PI", type := .double, accessFlags := 25, slot := 1, constantValue := 0 }, { name := "TAU", type := .double, accessFlags := 25, slot := 2, constantValue := 0 }, { name := "DEGREES_TO_RADIANS", type := .double, accessFlags := 26, slot := 3, constantValue := 0 }, { name := "RADIANS_TO_DEGREES", type := .double, accessFlags := 26, slot := 4, constantValue := 0 }, { name := "negativeZeroFloatBits", type := .long, accessFlags := 26, slot := 5, constantValue := 0 }, { name := "negativeZeroDoubleBits", type := .long, accessFlags := 26, slot := 6, constantValue := 0 }, { name := "twoToTheDoubleScaleUp", type := .double, accessFlags := 8, slot := 7, constantValue := 0 }, { name := "twoToTheDoubleScaleDown", type := .double, accessFlags := 8, slot := 8, constantValue := 0 }, { name := "$assertionsDisabled", type := .boolean, accessFlags := 4120, slot := 9, constantValue := 0 }]
  methods := #[k18m0, k18m1]
  instanceTypes := #[]
  staticTypes := #[.double, .double, .double, .double, .double, .long, .long, .double, .double, .boolean]
  resolved := Array.replicate 460 none
  statics := none }

def pool19 : Array CpInfo := pool [(2, .class_ 4), (1, u "java/lang/Object"), (0, u "<init>"), (0, u "()V"), (12, .class_ 20), (0, u "java/util/Collections"), (11, .class_ 33), (0, u "java/lang/Comparable"), (0, .interfaceMethodref 32 35), (0, .nameAndType 36 37), (0, u "compareTo"), (0, u "(Ljava/lang/Object;)I"), (13, .nameAndType 52 53), (0, u "next"), (0, u "()Ljava/lang/Object;"), (30, u "r"), (0, u "Ljava/util/Random;"), (33, .interfaceMethodref 120 121), (0, .class_ 122), (0, .nameAndType 123 124), (0, u "java/util/Collection"), (0, u "iterator"), (0, u "()Ljava/util/Iterator;"), (0, .interfaceMethodref 126 51), (0, .class_ 127), (0, u "java/util/Iterator"), (0, .interfaceMethodref 126 129), (0, .nameAndType 130 131), (0, u "hasNext"), (0, u "()Z"), (3, u "(Ljava/util/Collection;)Ljava/lang/Object;"), (2, u "max"), (27, .class_ 167), (0, u "java/util/Collections$UnmodifiableCollection"), (6, .class_ 175), (0, u "java/util/Collections$UnmodifiableSequencedCollection"), (6, .class_ 183), (0, u "java/util/Collections$UnmodifiableSet"), (6, .class_ 191), (0, u "java/util/Collections$UnmodifiableSequencedSet"), (6, .class_ 199), (0, u "java/util/Collections$UnmodifiableSortedSet"), (6, .class_ 207), (0, u "java/util/Collections$UnmodifiableNavigableSet"), (4, .class_ 213), (0, u "java/util/Collections$UnmodifiableList"), (1, .class_ 216), (0, u "java/util/Collections$UnmodifiableRandomAccessList"), (6, .class_ 224), (0, u "java/util/Collections$UnmodifiableMap"), (6, .class_ 232), (0, u "java/util/Collections$UnmodifiableSequencedMap"), (4, .class_ 238), (0, u "java/util/Collections$UnmodifiableSortedMap"), (6, .class_ 246), (0, u "java/util/Collections$UnmodifiableNavigableMap"), (3, .class_ 251), (0, u "java/util/Collections$SynchronizedCollection"), (4, .class_ 257), (0, u "java/util/Collections$SynchronizedSet"), (4, .class_ 263), (0, u "java/util/Collections$SynchronizedSortedSet"), (1, .class_ 266), (0, u "java/util/Collections$SynchronizedNavigableSet"), (1, .class_ 269), (0, u "java/util/Collections$SynchronizedRandomAccessList"), (1, .class_ 272), (0, u "java/util/Collections$SynchronizedList"), (5, .class_ 279), (0, u "java/util/Collections$SynchronizedMap"), (1, .class_ 282), (0, u "java/util/Collections$SynchronizedSortedMap"), (1, .class_ 285), (0, u "java/util/Collections$SynchronizedNavigableMap"), (1, .class_ 288), (0, u "java/util/Collections$CheckedCollection"), (11, .class_ 301), (0, u "java/util/Collections$CheckedQueue"), (3, .class_ 306), (0, u "java/util/Collections$CheckedSet"), (3, .class_ 311), (0, u "java/util/Collections$CheckedSortedSet"), (3, .class_ 316), (0, u "java/util/Collections$CheckedNavigableSet"), (3, .class_ 321), (0, u "java/util/Collections$CheckedRandomAccessList"), (3, .class_ 326), (0, u "java/util/Collections$CheckedList"), (1, .class_ 329), (0, u "java/util/Collections$CheckedMap"), (3, .class_ 334), (0, u "java/util/Collections$CheckedSortedMap"), (3, .class_ 339), (0, u "java/util/Collections$CheckedNavigableMap"), (4, .class_ 346), (1, u "java/util/Collections$EmptyIterator"), (3, .class_ 352), (1, u "java/util/Collections$EmptyListIterator"), (2, .class_ 357), (1, u "java/util/Collections$EmptyEnumeration"), (4, u "EMPTY_SET"), (0, u "Ljava/util/Set;"), (6, u "EMPTY_LIST"), (0, u "Ljava/util/List;"), (2, u "EMPTY_MAP"), (0, u "Ljava/util/Map;"), (4, .class_ 381), (0, u "java/util/Collections$SingletonSet"), (2, .class_ 385), (0, u "java/util/Collections$1"), (1, .class_ 388), (0, u "java/util/Collections$2"), (1, .class_ 391), (0, u "java/util/Collections$SingletonList"), (1, .class_ 394), (0, u "java/util/Collections$SingletonMap"), (22, .class_ 418), (0, u "java/util/Collections$CopiesList"), (4, .class_ 425), (1, u "java/util/Collections$ReverseComparator"), (8, .class_ 435), (0, u "java/util/Collections$ReverseComparator2"), (6, .class_ 443), (0, u "java/util/Collections$3"), (25, .class_ 470), (0, u "java/util/Collections$SetFromMap"), (2, .class_ 474), (0, u "java/util/Collections$SequencedSetFromMap"), (3, .class_ 479), (0, u "java/util/Collections$AsLIFOQueue"), (11, .class_ 492), (0, u "java/util/Collections$EmptySet"), (1, .class_ 495), (0, u "java/util/Collections$EmptyList"), (1, .class_ 498), (0, u "java/util/Collections$EmptyMap"), (1, u "BINARYSEARCH_THRESHOLD"), (0, u "I"), (2, u "REVERSE_THRESHOLD"), (1, u "SHUFFLE_THRESHOLD"), (1, u "FILL_THRESHOLD"), (1, u "ROTATE_THRESHOLD"), (1, u "COPY_THRESHOLD"), (1, u "REPLACEALL_THRESHOLD"), (1, u "INDEXOFSUBLIST_THRESHOLD"), (333, .class_ 851), (0, u "java/util/Collections$CheckedMap$CheckedEntrySet"), (0, .class_ 853), (0, u "java/util/Collections$CheckedMap$CheckedEntrySet$CheckedEntry"), (0, .class_ 855), (0, u "java/util/Collections$CheckedMap$CheckedEntrySet$1"), (0, .class_ 857), (0, u "java/util/Collections$CheckedList$1"), (0, .class_ 859), (0, u "java/util/Collections$CheckedCollection$1"), (0, .class_ 861), (0, u "java/util/Collections$UnmodifiableNavigableMap$EmptyNavigableMap"), (0, .class_ 863), (0, u "java/util/Collections$UnmodifiableMap$UnmodifiableEntrySet"), (0, .class_ 865), (0, u "java/util/Collections$UnmodifiableMap$UnmodifiableEntrySet$UnmodifiableEntry"), (0, .class_ 867), (0, u "java/util/Collections$UnmodifiableMap$UnmodifiableEntrySet$UnmodifiableEntrySetSpliterator"), (0, .class_ 869), (0, u "java/util/Collections$UnmodifiableMap$UnmodifiableEntrySet$1"), (0, .class_ 871), (0, u "java/util/Collections$UnmodifiableList$1"), (0, .class_ 873), (0, u "java/util/Collections$UnmodifiableNavigableSet$EmptyNavigableSet"), (0, .class_ 875), (0, u "java/util/Collections$UnmodifiableCollection$1")] 57

def k19m0 : Method := { name := "<init>", desc := "()V", sig := { parameters := [], returnType := none }, accessFlags := 2, code := none }
def k19c1 : Code := { maxStack := 2, maxLocals := 4, code := jdk_79_method_21_code, exceptionTable := #[], attributes := #[] }
def k19m1 : Method := { name := "max", desc := "(Ljava/util/Collection;)Ljava/lang/Object;", sig := { parameters := [(.object "java/util/Collection")], returnType := some (.object "java/lang/Object") }, accessFlags := 9, code := some k19c1 }
/-- java/util/Collections -/
def k19 : Class := { plain "java/util/Collections" (some 0) with
  accessFlags := 33
  interfaces := #[]
  cf := some (fileOf pool19 19 #[.nestMembers #[478, 473, 469, 434, 423, 417, 393, 390, 380, 497, 494, 491, 355, 350, 344, 338, 333, 328, 850, 852, 854, 320, 325, 856, 315, 310, 305, 300, 287, 858, 284, 281, 278, 268, 271, 265, 262, 256, 250, 245, 860, 237, 231, 223, 862, 864, 866, 868, 215, 212, 870, 206, 872, 198, 190, 182, 174, 166, 874, 442, 387, 384]] #[{ accessFlags := 2, nameIndex := 5, descriptorIndex := 6, attributes := #[] }, { accessFlags := 9, nameIndex := 138, descriptorIndex := 135, attributes := #[] }] 33 2 #[] #[{ accessFlags := 26, nameIndex := 500, descriptorIndex := 501, attributes := #[] }, { accessFlags := 26, nameIndex := 504, descriptorIndex := 501, attributes := #[] }, { accessFlags := 26, nameIndex := 506, descriptorIndex := 501, attributes := #[] }, { accessFlags := 26, nameIndex := 508, descriptorIndex := 501, attributes := #[] }, { accessFlags := 26, nameIndex := 510, descriptorIndex := 501, attributes := #[] }, { accessFlags := 26, nameIndex := 512, descriptorIndex := 501, attributes := #[] }, { accessFlags := 26, nameIndex := 514, descriptorIndex := 501, attributes := #[] }, { accessFlags := 26, nameIndex := 516, descriptorIndex := 501, attributes := #[] }, { accessFlags := 10, nameIndex := 84, descriptorIndex := 85, attributes := #[] }, { accessFlags := 25, nameIndex := 362, descriptorIndex := 363, attributes := #[] }, { accessFlags := 25, nameIndex := 370, descriptorIndex := 371, attributes := #[] }, { accessFlags := 25, nameIndex := 374, descriptorIndex := 375, attributes := #[] }])
  fields := #[{ name := "BINARYSEARCH_THRESHOLD", type := .int, accessFlags := 26, slot := 0, constantValue := 0 }, { name := "REVERSE_THRESHOLD", type := .int, accessFlags := 26, slot := 1, constantValue := 0 }, { name := "SHUFFLE_THRESHOLD", type := .int, accessFlags := 26, slot := 2, constantValue := 0 }, { name := "FILL_THRESHOLD", type := .int, accessFlags := 26, slot := 3, constantValue := 0 }, { name := "ROTATE_THRESHOLD", type := .int, accessFlags := 26, slot := 4, constantValue := 0 }, { name := "COPY_THRESHOLD", type := .int, accessFlags := 26, slot := 5, constantValue := 0 }, { name := "REPLACEALL_THRESHOLD", type := .int, accessFlags := 26, slot := 6, constantValue := 0 }, { name := "INDEXOFSUBLIST_THRESHOLD", type := .int, accessFlags := 26, slot := 7, constantValue := 0 }, { name := "r", type := (.object "java/util/Random"), accessFlags := 10, slot := 8, constantValue := 0 }, { name := "EMPTY_SET", type := (.object "java/util/Set"), accessFlags := 25, slot := 9, constantValue := 0 }, { name := "EMPTY_LIST", type := (.object "java/util/List"), accessFlags := 25, slot := 10, constantValue := 0 }, { name := "EMPTY_MAP", type := (.object "java/util/Map"), accessFlags := 25, slot := 11, constantValue := 0 }]
  methods := #[k19m0, k19m1]
  instanceTypes := #[]
  staticTypes := #[.int, .int, .int, .int, .int, .int, .int, .int, (.object "java/util/Random"), (.object "java/util/Set"), (.object "java/util/List"), (.object "java/util/Map")]
  resolved := Array.replicate 933 none
  statics := none }

def pool20 : Array CpInfo := pool [(16, .class_ 18), (1, u "java/util/Iterator"), (0, u "hasNext"), (0, u "()Z"), (2, u "next"), (0, u "()Ljava/lang/Object;"), (6, .class_ 32), (0, u "java/lang/Object")] 20

def k20m0 : Method := { name := "hasNext", desc := "()Z", sig := { parameters := [], returnType := some .boolean }, accessFlags := 1025, code := none }
def k20m1 : Method := { name := "next", desc := "()Ljava/lang/Object;", sig := { parameters := [], returnType := some (.object "java/lang/Object") }, accessFlags := 1025, code := none }
/-- java/util/Iterator -/
def k20 : Class := { plain "java/util/Iterator" (some 0) with
  accessFlags := 1537
  interfaces := #[]
  cf := some (fileOf pool20 16 #[] #[{ accessFlags := 1025, nameIndex := 19, descriptorIndex := 20, attributes := #[] }, { accessFlags := 1025, nameIndex := 23, descriptorIndex := 24, attributes := #[] }] 1537 31 #[] #[])
  fields := #[]
  methods := #[k20m0, k20m1]
  instanceTypes := #[]
  staticTypes := #[]
  resolved := Array.replicate 53 none
  statics := none }

def pool21 : Array CpInfo := pool [(1, .fieldref 2 3), (0, .class_ 4), (0, .nameAndType 5 6), (0, u "java/util/ArrayList$Itr"), (0, u "this$0"), (0, u "Ljava/util/ArrayList;"), (0, .methodref 8 9), (0, .class_ 10), (0, .nameAndType 11 12), (0, u "java/lang/Object"), (0, u "<init>"), (0, u "()V"), (0, .fieldref 2 14), (0, .nameAndType 15 16), (0, u "lastRet"), (0, u "I"), (0, .fieldref 18 19), (0, .class_ 20), (0, .nameAndType 21 16), (0, u "java/util/ArrayList"), (0, u "modCount"), (0, .fieldref 2 23), (0, .nameAndType 24 16), (0, u "expectedModCount"), (0, .fieldref 2 26), (0, .nameAndType 27 16), (0, u "cursor"), (0, .fieldref 18 29), (0, .nameAndType 30 16), (0, u "size"), (0, .methodref 2 32), (0, .nameAndType 33 12), (0, u "checkForComodification"), (3, .fieldref 18 38), (0, .nameAndType 39 40), (0, u "elementData"), (0, u "[Ljava/lang/Object;"), (28, .class_ 70), (0, u "java/util/Iterator"), (0, u "(Ljava/util/ArrayList;)V"), (8, u "hasNext"), (0, u "()Z"), (1, u "next"), (0, u "()Ljava/lang/Object;")] 19

def k21c0 : Code := { maxStack := 2, maxLocals := 2, code := jdk_49_method_1_code, exceptionTable := #[], attributes := #[] }
def k21m0 : Method := { name := "<init>", desc := "(Ljava/util/ArrayList;)V", sig := { parameters := [(.object "java/util/ArrayList")], returnType := none }, accessFlags := 0, code := some k21c0 }
def k21c1 : Code := { maxStack := 2, maxLocals := 1, code := jdk_49_method_2_code, exceptionTable := #[], attributes := #[] }
def k21m1 : Method := { name := "hasNext", desc := "()Z", sig := { parameters := [], returnType := some .boolean }, accessFlags := 1, code := some k21c1 }
def k21c2 : Code := { maxStack := 4, maxLocals := 3, code := jdk_49_method_3_code, exceptionTable := #[], attributes := #[] }
def k21m2 : Method := { name := "next", desc := "()Ljava/lang/Object;", sig := { parameters := [], returnType := some (.object "java/lang/Object") }, accessFlags := 1, code := some k21c2 }
def k21c3 : Code := { maxStack := 2, maxLocals := 1, code := jdk_49_method_6_code, exceptionTable := #[], attributes := #[] }
def k21m3 : Method := { name := "checkForComodification", desc := "()V", sig := { parameters := [], returnType := none }, accessFlags := 16, code := some k21c3 }
/-- java/util/ArrayList$Itr -/
def k21 : Class := { plain "java/util/ArrayList$Itr" (some 0) with
  accessFlags := 32
  interfaces := #[20]
  cf := some (fileOf pool21 2 #[.nestHost 18] #[{ accessFlags := 0, nameIndex := 11, descriptorIndex := 71, attributes := #[] }, { accessFlags := 1, nameIndex := 80, descriptorIndex := 81, attributes := #[] }, { accessFlags := 1, nameIndex := 83, descriptorIndex := 84, attributes := #[] }, { accessFlags := 16, nameIndex := 33, descriptorIndex := 12, attributes := #[] }] 32 8 #[69] #[{ accessFlags := 0, nameIndex := 27, descriptorIndex := 16, attributes := #[] }, { accessFlags := 0, nameIndex := 15, descriptorIndex := 16, attributes := #[] }, { accessFlags := 0, nameIndex := 24, descriptorIndex := 16, attributes := #[] }, { accessFlags := 4112, nameIndex := 5, descriptorIndex := 6, attributes := #[] }])
  fields := #[{ name := "cursor", type := .int, accessFlags := 0, slot := 0, constantValue := 0 }, { name := "lastRet", type := .int, accessFlags := 0, slot := 1, constantValue := 0 }, { name := "expectedModCount", type := .int, accessFlags := 0, slot := 2, constantValue := 0 }, { name := "this$0", type := (.object "java/util/ArrayList"), accessFlags := 4112, slot := 3, constantValue := 0 }]
  methods := #[k21m0, k21m1, k21m2, k21m3]
  instanceTypes := #[.int, .int, .int, (.object "java/util/ArrayList")]
  staticTypes := #[]
  resolved := Array.replicate 104 none
  statics := none }

/-- the primitive byte -/
def k22 : Class := { plain "byte" none with kind := .primitive 'B', accessFlags := 0x411 }
/-- [B -/
def k23 : Class := { plain "[B" (some 0) with kind := .array 22 .byte, interfaces := #[10, 11], accessFlags := 1041 }

/-- the primitive int -/
def k24 : Class := { plain "int" none with kind := .primitive 'I', accessFlags := 0x411 }
/-- [I -/
def k25 : Class := { plain "[I" (some 0) with kind := .array 24 .int, interfaces := #[10, 11], accessFlags := 1041 }

/-- [Ljava/lang/Object; -/
def k26 : Class := { plain "[Ljava/lang/Object;" (some 0) with kind := .array 0 (.object "java/lang/Object"), interfaces := #[10, 11], accessFlags := 1041 }

def heap : Heap := #[{ cls := 12, slots := #[.long 0, .int 0, .ref 1, .ref 2], vm := .statics 12 },
  { cls := 26, slots := #[], vm := .none },
  { cls := 26, slots := #[], vm := .none }]
def classes : Array Class := #[k0, k1, k2, k3, k4, k5, k6, k7, k8, k9, k10, k11, k12, k13, k14, k15, k16, k17, k18, k19, k20, k21, k22, k23, k24, k25, k26]
def interned : List (Array UInt16 × Addr) := []
def slotsUsed : Nat := 4
def theMethod : MethodId := ⟨1, 2⟩
def args0 : Array Value := #[.long 5, .long 3, .long 7, .long 2, .long 9, .long 4]
def aboutOver (below : List Frame) : State where
  vm := { classes := classes, interned := interned.toArray }
  heap := heap
  slotsUsed := slotsUsed
  threads := #[{ frames := .invoking theMethod args0 :: below }]
def below0 : List Frame := [.native { method := ⟨0, 0⟩, args := #[] }]
def about1 : State := aboutOver below0
def p0 : Program := .bare "" "" ""
def e0 : Env := launch0.env 0 0 0
theorem w_frames : about1.frames = Frame.invoking theMethod args0 :: below0 := rfl
set_option maxRecDepth 65536 in
theorem w_args : argsFit about1.vm theMethod args0 = true := by decide +kernel
set_option maxRecDepth 65536 in
theorem w_heap : heapFits about1 = true := by decide +kernel
set_option maxRecDepth 65536 in
theorem w_runnable : about1.curStatus? = some .runnable := by decide +kernel
set_option maxRecDepth 65536 in
theorem w_alone : about1.alone = true := by decide +kernel
set_option maxRecDepth 65536 in
theorem w_named : about1.methodNamed? x = some theMethod := by decide +kernel
set_option maxRecDepth 65536 in
theorem w_hears : about1.hears theMethod below0 = true := by decide +kernel
set_option maxRecDepth 65536 in
theorem w_ripe : about1.ripe theMethod args0 below0 = true := by decide +kernel
theorem w_running : about1.status = .running := rfl
set_option maxRecDepth 65536 in
theorem w_room : about1.hasRoom e0.platform room_1 = true :=
  launch0.hasRoom_least _ room_1 (by decide +kernel) (by decide +kernel) (by decide +kernel) (by decide +kernel) (by decide +kernel) (by decide +kernel)
theorem allAtoms_all (ts : List Jvm.Cond) (a : Array Jvm.Value) (st : Jvm.State) : (allAtoms ts).before a st = ts.all (fun c => c.before a st) := by
  induction ts with
  | nil => rfl
  | cons c t ih =>
    show (Jvm.Cond.and c (allAtoms t)).before a st = _
    rw [Jvm.Cond.before_and, ih, List.all_cons]
def words1 : List Jvm.Cond := Jvm.Cond.code x code maxLocals ret :: tables_1
/-- a 'code' word, met by the world's own term for the bytes: nothing is compared byte by byte -/
theorem code_word {y : MethodName} {bytes : ByteArray} {mx : Nat} {rt : Option FieldType} {a : Array Value} {s : State} {m : MethodId} {meth : Method} {c : Code} (h1 : s.methodNamed? y = some m) (h2 : s.vm.method? m = some meth) (h3 : meth.code = some c) (h4 : c.code = bytes)
    (h5 : (c.maxLocals == mx && c.exceptionTable.isEmpty && decide (c.maxStack ≤ mostOperands) && decide (meth.sig.returnType = rt) && !meth.locks && decide (parseMethodDescriptor y.desc = some meth.sig)) = true) : (Jvm.Cond.code y bytes mx rt).before a s = true := by
  simp only [Bool.and_eq_true, beq_iff_eq, Bool.not_eq_true', decide_eq_true_eq] at h5
  obtain ⟨⟨⟨⟨⟨g1, g2⟩, g3⟩, g4⟩, g5⟩, g6⟩ := h5
  simp [Cond.before, Cond.holds, Cond.value, h1, h2, h3, h4, g1, g2, g3, g4, g5, g6]
def isCode : Jvm.Cond → Bool
  | .code _ _ _ _ => true
  | _ => false
theorem all_split {L : List Jvm.Cond} {P : Jvm.Cond → Bool} (h1 : L.all (fun c => isCode c || P c) = true) (h2 : ∀ c ∈ L.filter isCode, P c = true) : L.all P = true := by
  refine List.all_eq_true.mpr fun c hc => ?_
  have h := List.all_eq_true.mp h1 c hc
  rcases Bool.eq_false_or_eq_true (isCode c) with hi | hi
  · exact h2 c (List.mem_filter.mpr ⟨hc, hi⟩)
  · simpa [hi] using h
set_option maxRecDepth 65536 in
theorem w_c0 : (Jvm.Cond.code x code maxLocals ret).before args0 about1 = true := code_word (m := ⟨1, 2⟩) (meth := k1m2) (c := k1c2) (by decide +kernel) rfl rfl rfl (by decide +kernel)
set_option maxRecDepth 65536 in
theorem w_c1 : (Jvm.Cond.code ({ cls := "com/example/quadwarden/quadwarden/cli/PairedTimingsRatioMaxPinLaw", name := "positive", desc := "(J)J" } : Jvm.MethodName) method_2_code (4 : Nat) (Option.some Jvm.ClassFile.FieldType.long)).before args0 about1 = true := code_word (m := ⟨1, 1⟩) (meth := k1m1) (c := k1c1) (by decide +kernel) rfl rfl rfl (by decide +kernel)
set_option maxRecDepth 65536 in
theorem w_c2 : (Jvm.Cond.code ({ cls := "com/example/quadwarden/quadwarden/cli/PairedTimings", name := "<init>", desc := "()V" } : Jvm.MethodName) prog_5_method_1_code (1 : Nat) (Option.none : Option Jvm.ClassFile.FieldType)).before args0 about1 = true := code_word (m := ⟨2, 0⟩) (meth := k2m0) (c := k2c0) (by decide +kernel) rfl rfl rfl (by decide +kernel)
set_option maxRecDepth 65536 in
theorem w_c3 : (Jvm.Cond.code ({ cls := "java/lang/Object", name := "<init>", desc := "()V" } : Jvm.MethodName) object_method_1_code (1 : Nat) (Option.none : Option Jvm.ClassFile.FieldType)).before args0 about1 = true := code_word (m := ⟨0, 0⟩) (meth := k0m0) (c := k0c0) (by decide +kernel) rfl rfl rfl (by decide +kernel)
set_option maxRecDepth 65536 in
theorem w_c4 : (Jvm.Cond.code ({ cls := "java/util/ArrayList", name := "<init>", desc := "()V" } : Jvm.MethodName) jdk_38_method_2_code (1 : Nat) (Option.none : Option Jvm.ClassFile.FieldType)).before args0 about1 = true := code_word (m := ⟨12, 0⟩) (meth := k12m0) (c := k12c0) (by decide +kernel) rfl rfl rfl (by decide +kernel)
set_option maxRecDepth 65536 in
theorem w_c5 : (Jvm.Cond.code ({ cls := "java/util/AbstractList", name := "<init>", desc := "()V" } : Jvm.MethodName) jdk_39_method_1_code (1 : Nat) (Option.none : Option Jvm.ClassFile.FieldType)).before args0 about1 = true := code_word (m := ⟨8, 0⟩) (meth := k8m0) (c := k8c0) (by decide +kernel) rfl rfl rfl (by decide +kernel)
set_option maxRecDepth 65536 in
theorem w_c6 : (Jvm.Cond.code ({ cls := "java/util/AbstractCollection", name := "<init>", desc := "()V" } : Jvm.MethodName) jdk_22_method_1_code (1 : Nat) (Option.none : Option Jvm.ClassFile.FieldType)).before args0 about1 = true := code_word (m := ⟨5, 0⟩) (meth := k5m0) (c := k5c0) (by decide +kernel) rfl rfl rfl (by decide +kernel)
set_option maxRecDepth 65536 in
theorem w_c7 : (Jvm.Cond.code ({ cls := "com/example/quadwarden/quadwarden/cli/PairedTimings", name := "add", desc := "(JJ)V" } : Jvm.MethodName) prog_5_method_2_code (5 : Nat) (Option.none : Option Jvm.ClassFile.FieldType)).before args0 about1 = true := code_word (m := ⟨2, 1⟩) (meth := k2m1) (c := k2c1) (by decide +kernel) rfl rfl rfl (by decide +kernel)
set_option maxRecDepth 65536 in
theorem w_c8 : (Jvm.Cond.code ({ cls := "java/lang/Double", name := "valueOf", desc := "(D)Ljava/lang/Double;" } : Jvm.MethodName) jdk_117_method_4_code (2 : Nat) (Option.some (Jvm.ClassFile.FieldType.object "java/lang/Double"))).before args0 about1 = true := code_word (m := ⟨17, 0⟩) (meth := k17m0) (c := k17c0) (by decide +kernel) rfl rfl rfl (by decide +kernel)
set_option maxRecDepth 65536 in
theorem w_c9 : (Jvm.Cond.code ({ cls := "java/lang/Double", name := "<init>", desc := "(D)V" } : Jvm.MethodName) jdk_117_method_9_code (3 : Nat) (Option.none : Option Jvm.ClassFile.FieldType)).before args0 about1 = true := code_word (m := ⟨17, 2⟩) (meth := k17m2) (c := k17c2) (by decide +kernel) rfl rfl rfl (by decide +kernel)
set_option maxRecDepth 65536 in
theorem w_c10 : (Jvm.Cond.code ({ cls := "java/lang/Number", name := "<init>", desc := "()V" } : Jvm.MethodName) jdk_18_method_1_code (1 : Nat) (Option.none : Option Jvm.ClassFile.FieldType)).before args0 about1 = true := code_word (m := ⟨13, 0⟩) (meth := k13m0) (c := k13c0) (by decide +kernel) rfl rfl rfl (by decide +kernel)
set_option maxRecDepth 65536 in
theorem w_c11 : (Jvm.Cond.code ({ cls := "java/util/ArrayList", name := "add", desc := "(Ljava/lang/Object;)Z" } : Jvm.MethodName) jdk_38_method_25_code (2 : Nat) (Option.some Jvm.ClassFile.FieldType.boolean)).before args0 about1 = true := code_word (m := ⟨12, 4⟩) (meth := k12m4) (c := k12c4) (by decide +kernel) rfl rfl rfl (by decide +kernel)
set_option maxRecDepth 65536 in
theorem w_c12 : (Jvm.Cond.code ({ cls := "java/util/ArrayList", name := "add", desc := "(Ljava/lang/Object;[Ljava/lang/Object;I)V" } : Jvm.MethodName) jdk_38_method_24_code (4 : Nat) (Option.none : Option Jvm.ClassFile.FieldType)).before args0 about1 = true := code_word (m := ⟨12, 3⟩) (meth := k12m3) (c := k12c3) (by decide +kernel) rfl rfl rfl (by decide +kernel)
set_option maxRecDepth 65536 in
theorem w_c13 : (Jvm.Cond.code ({ cls := "java/util/ArrayList", name := "grow", desc := "()[Ljava/lang/Object;" } : Jvm.MethodName) jdk_38_method_7_code (1 : Nat) (Option.some (Jvm.ClassFile.FieldType.array (Jvm.ClassFile.FieldType.object "java/lang/Object")))).before args0 about1 = true := code_word (m := ⟨12, 2⟩) (meth := k12m2) (c := k12c2) (by decide +kernel) rfl rfl rfl (by decide +kernel)
set_option maxRecDepth 65536 in
theorem w_c14 : (Jvm.Cond.code ({ cls := "java/util/ArrayList", name := "grow", desc := "(I)[Ljava/lang/Object;" } : Jvm.MethodName) jdk_38_method_6_code (4 : Nat) (Option.some (Jvm.ClassFile.FieldType.array (Jvm.ClassFile.FieldType.object "java/lang/Object")))).before args0 about1 = true := code_word (m := ⟨12, 1⟩) (meth := k12m1) (c := k12c1) (by decide +kernel) rfl rfl rfl (by decide +kernel)
set_option maxRecDepth 65536 in
theorem w_c15 : (Jvm.Cond.code ({ cls := "java/lang/Math", name := "max", desc := "(II)I" } : Jvm.MethodName) jdk_29_method_65_code (2 : Nat) (Option.some Jvm.ClassFile.FieldType.int)).before args0 about1 = true := code_word (m := ⟨18, 1⟩) (meth := k18m1) (c := k18c1) (by decide +kernel) rfl rfl rfl (by decide +kernel)
set_option maxRecDepth 65536 in
theorem w_c16 : (Jvm.Cond.code ({ cls := "com/example/quadwarden/quadwarden/cli/PairedTimings", name := "ratioMax", desc := "()D" } : Jvm.MethodName) prog_5_method_7_code (1 : Nat) (Option.some Jvm.ClassFile.FieldType.double)).before args0 about1 = true := code_word (m := ⟨2, 2⟩) (meth := k2m2) (c := k2c2) (by decide +kernel) rfl rfl rfl (by decide +kernel)
set_option maxRecDepth 65536 in
theorem w_c17 : (Jvm.Cond.code ({ cls := "java/util/Collections", name := "max", desc := "(Ljava/util/Collection;)Ljava/lang/Object;" } : Jvm.MethodName) jdk_79_method_21_code (4 : Nat) (Option.some (Jvm.ClassFile.FieldType.object "java/lang/Object"))).before args0 about1 = true := code_word (m := ⟨19, 1⟩) (meth := k19m1) (c := k19c1) (by decide +kernel) rfl rfl rfl (by decide +kernel)
set_option maxRecDepth 65536 in
theorem w_c18 : (Jvm.Cond.code ({ cls := "java/util/ArrayList", name := "iterator", desc := "()Ljava/util/Iterator;" } : Jvm.MethodName) jdk_38_method_55_code (1 : Nat) (Option.some (Jvm.ClassFile.FieldType.object "java/util/Iterator"))).before args0 about1 = true := code_word (m := ⟨12, 5⟩) (meth := k12m5) (c := k12c5) (by decide +kernel) rfl rfl rfl (by decide +kernel)
set_option maxRecDepth 65536 in
theorem w_c19 : (Jvm.Cond.code ({ cls := "java/util/ArrayList$Itr", name := "<init>", desc := "(Ljava/util/ArrayList;)V" } : Jvm.MethodName) jdk_49_method_1_code (2 : Nat) (Option.none : Option Jvm.ClassFile.FieldType)).before args0 about1 = true := code_word (m := ⟨21, 0⟩) (meth := k21m0) (c := k21c0) (by decide +kernel) rfl rfl rfl (by decide +kernel)
set_option maxRecDepth 65536 in
theorem w_c20 : (Jvm.Cond.code ({ cls := "java/util/ArrayList$Itr", name := "next", desc := "()Ljava/lang/Object;" } : Jvm.MethodName) jdk_49_method_3_code (3 : Nat) (Option.some (Jvm.ClassFile.FieldType.object "java/lang/Object"))).before args0 about1 = true := code_word (m := ⟨21, 2⟩) (meth := k21m2) (c := k21c2) (by decide +kernel) rfl rfl rfl (by decide +kernel)
set_option maxRecDepth 65536 in
theorem w_c21 : (Jvm.Cond.code ({ cls := "java/util/ArrayList$Itr", name := "checkForComodification", desc := "()V" } : Jvm.MethodName) jdk_49_method_6_code (1 : Nat) (Option.none : Option Jvm.ClassFile.FieldType)).before args0 about1 = true := code_word (m := ⟨21, 3⟩) (meth := k21m3) (c := k21c3) (by decide +kernel) rfl rfl rfl (by decide +kernel)
set_option maxRecDepth 65536 in
theorem w_c22 : (Jvm.Cond.code ({ cls := "java/util/ArrayList$Itr", name := "hasNext", desc := "()Z" } : Jvm.MethodName) jdk_49_method_2_code (1 : Nat) (Option.some Jvm.ClassFile.FieldType.boolean)).before args0 about1 = true := code_word (m := ⟨21, 1⟩) (meth := k21m1) (c := k21c1) (by decide +kernel) rfl rfl rfl (by decide +kernel)
set_option maxRecDepth 65536 in
theorem w_c23 : (Jvm.Cond.code ({ cls := "java/lang/Double", name := "doubleValue", desc := "()D" } : Jvm.MethodName) jdk_117_method_19_code (1 : Nat) (Option.some Jvm.ClassFile.FieldType.double)).before args0 about1 = true := code_word (m := ⟨17, 3⟩) (meth := k17m3) (c := k17c3) (by decide +kernel) rfl rfl rfl (by decide +kernel)
set_option maxRecDepth 65536 in
theorem w_c24 : (Jvm.Cond.code ({ cls := "java/lang/Double", name := "compareTo", desc := "(Ljava/lang/Object;)I" } : Jvm.MethodName) jdk_117_method_33_code (2 : Nat) (Option.some Jvm.ClassFile.FieldType.int)).before args0 about1 = true := code_word (m := ⟨17, 8⟩) (meth := k17m8) (c := k17c8) (by decide +kernel) rfl rfl rfl (by decide +kernel)
set_option maxRecDepth 65536 in
theorem w_c25 : (Jvm.Cond.code ({ cls := "java/lang/Double", name := "compareTo", desc := "(Ljava/lang/Double;)I" } : Jvm.MethodName) jdk_117_method_26_code (2 : Nat) (Option.some Jvm.ClassFile.FieldType.int)).before args0 about1 = true := code_word (m := ⟨17, 6⟩) (meth := k17m6) (c := k17c6) (by decide +kernel) rfl rfl rfl (by decide +kernel)
set_option maxRecDepth 65536 in
theorem w_c26 : (Jvm.Cond.code ({ cls := "java/lang/Double", name := "compare", desc := "(DD)I" } : Jvm.MethodName) jdk_117_method_27_code (8 : Nat) (Option.some Jvm.ClassFile.FieldType.int)).before args0 about1 = true := code_word (m := ⟨17, 7⟩) (meth := k17m7) (c := k17c7) (by decide +kernel) rfl rfl rfl (by decide +kernel)
set_option maxRecDepth 65536 in
theorem w_c27 : (Jvm.Cond.code ({ cls := "java/lang/Double", name := "doubleToLongBits", desc := "(D)J" } : Jvm.MethodName) jdk_117_method_23_code (2 : Nat) (Option.some Jvm.ClassFile.FieldType.long)).before args0 about1 = true := code_word (m := ⟨17, 4⟩) (meth := k17m4) (c := k17c4) (by decide +kernel) rfl rfl rfl (by decide +kernel)
set_option maxRecDepth 65536 in
theorem w_c28 : (Jvm.Cond.code ({ cls := "java/lang/Double", name := "isNaN", desc := "(D)Z" } : Jvm.MethodName) jdk_117_method_6_code (2 : Nat) (Option.some Jvm.ClassFile.FieldType.boolean)).before args0 about1 = true := code_word (m := ⟨17, 1⟩) (meth := k17m1) (c := k17c1) (by decide +kernel) rfl rfl rfl (by decide +kernel)
def codes1 : List Jvm.Cond := [Jvm.Cond.code x code maxLocals ret, Jvm.Cond.code ({ cls := "com/example/quadwarden/quadwarden/cli/PairedTimingsRatioMaxPinLaw", name := "positive", desc := "(J)J" } : Jvm.MethodName) method_2_code (4 : Nat) (Option.some Jvm.ClassFile.FieldType.long), Jvm.Cond.code ({ cls := "com/example/quadwarden/quadwarden/cli/PairedTimings", name := "<init>", desc := "()V" } : Jvm.MethodName) prog_5_method_1_code (1 : Nat) (Option.none : Option Jvm.ClassFile.FieldType), Jvm.Cond.code ({ cls := "java/lang/Object", name := "<init>", desc := "()V" } : Jvm.MethodName) object_method_1_code (1 : Nat) (Option.none : Option Jvm.ClassFile.FieldType), Jvm.Cond.code ({ cls := "java/util/ArrayList", name := "<init>", desc := "()V" } : Jvm.MethodName) jdk_38_method_2_code (1 : Nat) (Option.none : Option Jvm.ClassFile.FieldType), Jvm.Cond.code ({ cls := "java/util/AbstractList", name := "<init>", desc := "()V" } : Jvm.MethodName) jdk_39_method_1_code (1 : Nat) (Option.none : Option Jvm.ClassFile.FieldType), Jvm.Cond.code ({ cls := "java/util/AbstractCollection", name := "<init>", desc := "()V" } : Jvm.MethodName) jdk_22_method_1_code (1 : Nat) (Option.none : Option Jvm.ClassFile.FieldType), Jvm.Cond.code ({ cls := "com/example/quadwarden/quadwarden/cli/PairedTimings", name := "add", desc := "(JJ)V" } : Jvm.MethodName) prog_5_method_2_code (5 : Nat) (Option.none : Option Jvm.ClassFile.FieldType), Jvm.Cond.code ({ cls := "java/lang/Double", name := "valueOf", desc := "(D)Ljava/lang/Double;" } : Jvm.MethodName) jdk_117_method_4_code (2 : Nat) (Option.some (Jvm.ClassFile.FieldType.object "java/lang/Double")), Jvm.Cond.code ({ cls := "java/lang/Double", name := "<init>", desc := "(D)V" } : Jvm.MethodName) jdk_117_method_9_code (3 : Nat) (Option.none : Option Jvm.ClassFile.FieldType), Jvm.Cond.code ({ cls := "java/lang/Number", name := "<init>", desc := "()V" } : Jvm.MethodName) jdk_18_method_1_code (1 : Nat) (Option.none : Option Jvm.ClassFile.FieldType), Jvm.Cond.code ({ cls := "java/util/ArrayList", name := "add", desc := "(Ljava/lang/Object;)Z" } : Jvm.MethodName) jdk_38_method_25_code (2 : Nat) (Option.some Jvm.ClassFile.FieldType.boolean), Jvm.Cond.code ({ cls := "java/util/ArrayList", name := "add", desc := "(Ljava/lang/Object;[Ljava/lang/Object;I)V" } : Jvm.MethodName) jdk_38_method_24_code (4 : Nat) (Option.none : Option Jvm.ClassFile.FieldType), Jvm.Cond.code ({ cls := "java/util/ArrayList", name := "grow", desc := "()[Ljava/lang/Object;" } : Jvm.MethodName) jdk_38_method_7_code (1 : Nat) (Option.some (Jvm.ClassFile.FieldType.array (Jvm.ClassFile.FieldType.object "java/lang/Object"))), Jvm.Cond.code ({ cls := "java/util/ArrayList", name := "grow", desc := "(I)[Ljava/lang/Object;" } : Jvm.MethodName) jdk_38_method_6_code (4 : Nat) (Option.some (Jvm.ClassFile.FieldType.array (Jvm.ClassFile.FieldType.object "java/lang/Object"))), Jvm.Cond.code ({ cls := "java/lang/Math", name := "max", desc := "(II)I" } : Jvm.MethodName) jdk_29_method_65_code (2 : Nat) (Option.some Jvm.ClassFile.FieldType.int), Jvm.Cond.code ({ cls := "com/example/quadwarden/quadwarden/cli/PairedTimings", name := "ratioMax", desc := "()D" } : Jvm.MethodName) prog_5_method_7_code (1 : Nat) (Option.some Jvm.ClassFile.FieldType.double), Jvm.Cond.code ({ cls := "java/util/Collections", name := "max", desc := "(Ljava/util/Collection;)Ljava/lang/Object;" } : Jvm.MethodName) jdk_79_method_21_code (4 : Nat) (Option.some (Jvm.ClassFile.FieldType.object "java/lang/Object")), Jvm.Cond.code ({ cls := "java/util/ArrayList", name := "iterator", desc := "()Ljava/util/Iterator;" } : Jvm.MethodName) jdk_38_method_55_code (1 : Nat) (Option.some (Jvm.ClassFile.FieldType.object "java/util/Iterator")), Jvm.Cond.code ({ cls := "java/util/ArrayList$Itr", name := "<init>", desc := "(Ljava/util/ArrayList;)V" } : Jvm.MethodName) jdk_49_method_1_code (2 : Nat) (Option.none : Option Jvm.ClassFile.FieldType), Jvm.Cond.code ({ cls := "java/util/ArrayList$Itr", name := "next", desc := "()Ljava/lang/Object;" } : Jvm.MethodName) jdk_49_method_3_code (3 : Nat) (Option.some (Jvm.ClassFile.FieldType.object "java/lang/Object")), Jvm.Cond.code ({ cls := "java/util/ArrayList$Itr", name := "checkForComodification", desc := "()V" } : Jvm.MethodName) jdk_49_method_6_code (1 : Nat) (Option.none : Option Jvm.ClassFile.FieldType), Jvm.Cond.code ({ cls := "java/util/ArrayList$Itr", name := "hasNext", desc := "()Z" } : Jvm.MethodName) jdk_49_method_2_code (1 : Nat) (Option.some Jvm.ClassFile.FieldType.boolean), Jvm.Cond.code ({ cls := "java/lang/Double", name := "doubleValue", desc := "()D" } : Jvm.MethodName) jdk_117_method_19_code (1 : Nat) (Option.some Jvm.ClassFile.FieldType.double), Jvm.Cond.code ({ cls := "java/lang/Double", name := "compareTo", desc := "(Ljava/lang/Object;)I" } : Jvm.MethodName) jdk_117_method_33_code (2 : Nat) (Option.some Jvm.ClassFile.FieldType.int), Jvm.Cond.code ({ cls := "java/lang/Double", name := "compareTo", desc := "(Ljava/lang/Double;)I" } : Jvm.MethodName) jdk_117_method_26_code (2 : Nat) (Option.some Jvm.ClassFile.FieldType.int), Jvm.Cond.code ({ cls := "java/lang/Double", name := "compare", desc := "(DD)I" } : Jvm.MethodName) jdk_117_method_27_code (8 : Nat) (Option.some Jvm.ClassFile.FieldType.int), Jvm.Cond.code ({ cls := "java/lang/Double", name := "doubleToLongBits", desc := "(D)J" } : Jvm.MethodName) jdk_117_method_23_code (2 : Nat) (Option.some Jvm.ClassFile.FieldType.long), Jvm.Cond.code ({ cls := "java/lang/Double", name := "isNaN", desc := "(D)Z" } : Jvm.MethodName) jdk_117_method_6_code (2 : Nat) (Option.some Jvm.ClassFile.FieldType.boolean)]
set_option maxRecDepth 65536 in
theorem codes_eq : words1.filter isCode = codes1 := rfl
theorem w_codes : ∀ c ∈ words1.filter isCode, c.before args0 about1 = true := by
  rw [codes_eq]
  intro c hc
  simp only [codes1, List.mem_cons, List.not_mem_nil, or_false] at hc
  rcases hc with rfl | rfl | rfl | rfl | rfl | rfl | rfl | rfl | rfl | rfl | rfl | rfl | rfl | rfl | rfl | rfl | rfl | rfl | rfl | rfl | rfl | rfl | rfl | rfl | rfl | rfl | rfl | rfl | rfl
  · exact w_c0
  · exact w_c1
  · exact w_c2
  · exact w_c3
  · exact w_c4
  · exact w_c5
  · exact w_c6
  · exact w_c7
  · exact w_c8
  · exact w_c9
  · exact w_c10
  · exact w_c11
  · exact w_c12
  · exact w_c13
  · exact w_c14
  · exact w_c15
  · exact w_c16
  · exact w_c17
  · exact w_c18
  · exact w_c19
  · exact w_c20
  · exact w_c21
  · exact w_c22
  · exact w_c23
  · exact w_c24
  · exact w_c25
  · exact w_c26
  · exact w_c27
  · exact w_c28
set_option maxRecDepth 65536 in
theorem w_t1 : (words1.take 24).all (fun c => isCode c || c.before args0 about1) = true := by decide +kernel
set_option maxRecDepth 65536 in
theorem w_t2 : ((words1.drop 24).take 24).all (fun c => isCode c || c.before args0 about1) = true := by decide +kernel
set_option maxRecDepth 65536 in
theorem w_t3 : (((words1.drop 24).drop 24).take 24).all (fun c => isCode c || c.before args0 about1) = true := by decide +kernel
set_option maxRecDepth 65536 in
theorem w_t4 : ((((words1.drop 24).drop 24).drop 24).take 24).all (fun c => isCode c || c.before args0 about1) = true := by decide +kernel
set_option maxRecDepth 65536 in
theorem w_t5 : (((((words1.drop 24).drop 24).drop 24).drop 24).take 24).all (fun c => isCode c || c.before args0 about1) = true := by decide +kernel
set_option maxRecDepth 65536 in
theorem w_t6 : ((((((words1.drop 24).drop 24).drop 24).drop 24).drop 24).take 24).all (fun c => isCode c || c.before args0 about1) = true := by decide +kernel
set_option maxRecDepth 65536 in
theorem w_t7 : (((((((words1.drop 24).drop 24).drop 24).drop 24).drop 24).drop 24).take 24).all (fun c => isCode c || c.before args0 about1) = true := by decide +kernel
set_option maxRecDepth 65536 in
theorem w_t8 : ((((((((words1.drop 24).drop 24).drop 24).drop 24).drop 24).drop 24).drop 24).take 24).all (fun c => isCode c || c.before args0 about1) = true := by decide +kernel
set_option maxRecDepth 65536 in
theorem w_t9 : ((((((((words1.drop 24).drop 24).drop 24).drop 24).drop 24).drop 24).drop 24).drop 24).all (fun c => isCode c || c.before args0 about1) = true := by decide +kernel
theorem w_tables : (allAtoms (Jvm.Cond.code x code maxLocals ret :: tables_1)).before args0 about1 = true := by
  rw [allAtoms_all]
  show words1.all (fun c => c.before args0 about1) = true
  refine all_split ?_ w_codes
  rw [← List.take_append_drop 24 words1, List.all_append, w_t1, ← List.take_append_drop 24 (words1.drop 24), List.all_append, w_t2, ← List.take_append_drop 24 ((words1.drop 24).drop 24), List.all_append, w_t3, ← List.take_append_drop 24 (((words1.drop 24).drop 24).drop 24), List.all_append, w_t4, ← List.take_append_drop 24 ((((words1.drop 24).drop 24).drop 24).drop 24), List.all_append, w_t5, ← List.take_append_drop 24 (((((words1.drop 24).drop 24).drop 24).drop 24).drop 24), List.all_append, w_t6, ← List.take_append_drop 24 ((((((words1.drop 24).drop 24).drop 24).drop 24).drop 24).drop 24), List.all_append, w_t7, ← List.take_append_drop 24 (((((((words1.drop 24).drop 24).drop 24).drop 24).drop 24).drop 24).drop 24), List.all_append, w_t8, w_t9]
  rfl
set_option maxRecDepth 65536 in
theorem w_rest : rest_1_c.before args0 about1 = true := by decide +kernel
set_option maxRecDepth 65536 in
theorem w_case : (Jvm.Cond.and given_1 narrow_1).before args0 about1 = true := by decide +kernel
theorem w_applies : (headSpec (Jvm.Cond.code x code maxLocals ret :: tables_1) room_1).applies x e0.platform about1 = true :=
  (Spec.applies_iff w_frames).mpr ⟨w_running, w_runnable, w_alone, w_named, w_hears, w_ripe, w_room, w_tables⟩
theorem atStart : AtStart classFile x code maxLocals ret World_1 tables_1 room_1 Calls_1 rest_1 Pre_1 launch0 p0 e0 about1 theMethod args0 below0 :=
  ⟨lists_1, trivial, launch0.admits_env _ _ _, launch0.least_env, fairChoices_fair.cas, fairChoices_fair.clock, w_frames, w_args, w_heap, w_applies, trivial, w_rest, w_case⟩
end start1
theorem witness_1 : WitnessClaimed_1 := ⟨start1.p0, start1.e0, start1.about1, start1.theMethod, start1.args0, start1.below0, start1.atStart⟩
end Jvm.Pilot.@@N@@
