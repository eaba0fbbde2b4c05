import JvmDerived
import JvmDerived.Pilot.@@N@@Statement
import JvmDerived.Pilot.@@N@@Code
set_option linter.unusedVariables false
set_option linter.unusedSimpArgs false
namespace Jvm.RoadKit
open Sem ClassFile Op Lib Jvm.Stand Jvm.Free Jvm.LawKit
section New
variable {p : Program} {l : Launch} {e : Env} {R : Room} {s : State} {m : MethodId} {args : Array Value} {below : List Frame} {meth : Method} {c : Code} {T : State} {locs : List Loc} {cells slots : Nat}
theorem retI (X : Stand p l e R s m args below meth c T locs cells slots) (hx : p.tables.exec = Jvm.exec) {pc : Nat} {Ls : Array Slot} {z : Int32} {rest : List Value} (hret : meth.sig.returnType = some .int) (hd : decode c.code pc = .ok (.ireturn, 1)) {fs : List Frame}
    (hl : ∀ (f : JFrame) (acts : List Action), f.method = m → f.locked = none → f.entered = [] → (doReturn e (T.setTop f) acts (some (.int z))).1 = T.setFrames fs) : Steps p.tables e below (T.setTop (mkF m pc Ls (.int z :: rest))) (T.setFrames fs) := by
  have hm' : T.vm.method? m = some meth := X.method'
  have hn : narrow .int (.int z) = .int z := rfl
  show Steps p.tables e below (T.setTop { method := m, pc := pc, locals := Ls, stack := _ :: rest, locked := none }) _
  jvm_step X.here [X.here.top, hx, hd, hm', hret, hn]
  first | (intro acts; rw [hl _ acts rfl rfl rfl]) | rw [hl _ _ rfl rfl rfl]
  exact Steps.refl _
theorem retD (X : Stand p l e R s m args below meth c T locs cells slots) (hx : p.tables.exec = Jvm.exec) {pc : Nat} {Ls : Array Slot} {z : UInt64} {rest : List Value} (hret : meth.sig.returnType = some .double) (hd : decode c.code pc = .ok (.dreturn, 1)) {fs : List Frame}
    (hl : ∀ (f : JFrame) (acts : List Action), f.method = m → f.locked = none → f.entered = [] → (doReturn e (T.setTop f) acts (some (.double z))).1 = T.setFrames fs) : Steps p.tables e below (T.setTop (mkF m pc Ls (.double z :: rest))) (T.setFrames fs) := by
  have hm' : T.vm.method? m = some meth := X.method'
  show Steps p.tables e below (T.setTop { method := m, pc := pc, locals := Ls, stack := _ :: rest, locked := none }) _
  jvm_step X.here [X.here.top, hx, hd, hm', hret]
  first | (intro acts; rw [hl _ acts rfl rfl rfl]) | rw [hl _ _ rfl rfl rfl]
  exact Steps.refl _
end New
/-- a body that leaves the heap as it was -/
def QP (w : Value) (h0 : Heap) (n0 : Nat) (v : Option Value) (h : Heap) (L : List Loc) : Prop := v = some w ∧ Fr n0 L ∧ h = h0
/-- the law says true, and writes into nothing that stood at the start -/
def QL (n0 : Nat) (v : Option Value) (h : Heap) (L : List Loc) : Prop := v = some (.int 1) ∧ Fr n0 L
end Jvm.RoadKit

/-! OwnFP: rounding, in units of the least double. My own text, pasted into each proof. -/
namespace Jvm.Own
open Jvm.FP.Core Jvm.Free.Fl
/-- a power of two that nothing reckons out -/
def PN (j : Nat) : Nat := 2 ^ j
theorem PN_pos (j : Nat) : 0 < PN j := Nat.two_pow_pos _
theorem PN_posI (j : Nat) : (0 : Int) < (PN j : Int) := Int.ofNat_lt.mpr (PN_pos j)
theorem PN_add (i j : Nat) : PN (i + j) = PN i * PN j := Nat.pow_add ..
theorem PN_addI (i j : Nat) : (PN (i + j) : Int) = (PN i : Int) * (PN j : Int) := by rw [PN_add, Int.natCast_mul]
/-- a double as a whole number of 2^-1074 -/
def z (a : UInt64) : Int := zval b64 (val64 a)
theorem z_fin {a : UInt64} {s : Bool} {c : Nat} {q : Int} (h : val64 a = .fin s c q) : z a = signed s (inUnits c q b64.qmin) := by
  unfold z; rw [h]; rfl
/-- r is the rounding of N / D, in these units -/
def Rnd (N : Int) (D : Nat) (r : UInt64) : Prop := 0 < D ∧ ∃ s, signed s N.natAbs = N ∧ val64 r = roundRatio b64 s N.natAbs D b64.qmin
theorem DFin.fits {a : UInt64} {s : Bool} {c : Nat} {q : Int} (h : val64 a = .fin s c q) : Jvm.FP.Core.fits b64 (.fin s c q) := h ▸ val64_fits a
theorem rnd_dadd {a b : UInt64} (ha : DFin a) (hb : DFin b) : Rnd (z a + z b) 1 (dadd a b) := by
  obtain ⟨s, c, q, h1⟩ := ha
  obtain ⟨t, d, r, h2⟩ := hb
  obtain ⟨sg, n, e, hs, he, hu⟩ := sum_units (DFin.fits h1) (DFin.fits h2)
  have hz : z a + z b = signed sg (inUnits n e b64.qmin) := by unfold z; rw [h1, h2, hu]
  have hn : (z a + z b).natAbs = inUnits n e b64.qmin := by rw [hz, natAbs_signed]
  refine ⟨by decide, sg, by rw [hn, hz], ?_⟩
  rw [val64_dadd, h1, h2, hs, hn]
  show roundRatio b64 sg n 1 e = _
  refine roundRatio_congr (by decide) (by decide) ?_
  rw [show (b64.qmin - e).toNat = 0 by omega]
  simp [inUnits]
theorem z_neg {b : UInt64} : z (Jvm.FP.Core.dneg b) = - z b := by unfold z; rw [val64_dneg, zval_negate]
theorem fin_neg {b : UInt64} (hb : DFin b) : DFin (Jvm.FP.Core.dneg b) := by
  obtain ⟨t, d, r, h2⟩ := hb
  exact ⟨!t, d, r, by rw [val64_dneg, h2]; rfl⟩
theorem z_dneg {b : UInt64} : z (Jvm.FP.dneg b) = - z b := by unfold z; rw [Jvm.FP.val64_dneg, zval_negate]
theorem fin_dneg {b : UInt64} (hb : DFin b) : DFin (Jvm.FP.dneg b) := by
  obtain ⟨t, d, r, h2⟩ := hb
  exact ⟨!t, d, r, by rw [Jvm.FP.val64_dneg, h2]; rfl⟩
theorem rnd_dsub {a b : UInt64} (ha : DFin a) (hb : DFin b) : Rnd (z a - z b) 1 (dsub a b) := by
  have h := rnd_dadd ha (fin_neg hb)
  rw [z_neg] at h
  rw [dsub_eq, Int.sub_eq_add_neg]
  exact h
theorem qm : b64.qmin = -1074 := qmin_b64
theorem rnd_dmul {a b : UInt64} (ha : DFin a) (hb : DFin b) : Rnd (z a * z b) (PN 1074) (dmul a b) := by
  obtain ⟨s, c, q, h1⟩ := ha
  obtain ⟨t, d, r, h2⟩ := hb
  obtain ⟨hp, hq, hu⟩ := product_units (DFin.fits h1) (DFin.fits h2)
  have hz : z a * z b = signed (s != t) (inUnits (c * d) (q + r) (2 * b64.qmin)) := by
    rw [hu, signed_xor]; unfold z; rw [h1, h2]; rfl
  have hn : (z a * z b).natAbs = inUnits (c * d) (q + r) (2 * b64.qmin) := by rw [hz, natAbs_signed]
  refine ⟨PN_pos _, s != t, by rw [hn, hz], ?_⟩
  rw [val64_dmul, h1, h2, hp, hn]
  show roundRatio b64 (s != t) (c * d) 1 (q + r) = _
  refine roundRatio_congr (by decide) (PN_pos _) ?_
  unfold inUnits PN
  have := qm
  generalize hk : (1074 : Nat) = K at *
  calc c * d * 2 ^ K * 2 ^ (q + r - b64.qmin).toNat = c * d * 2 ^ (K + (q + r - b64.qmin).toNat) := by rw [Nat.pow_add]; ac_rfl
    _ = c * d * 2 ^ ((q + r - 2 * b64.qmin).toNat + (b64.qmin - (q + r)).toNat) := by congr 2; omega
    _ = _ := by rw [Nat.pow_add]; ac_rfl
theorem pos_sign {b : UInt64} {t : Bool} {d : Nat} {r : Int} (h2 : val64 b = .fin t d r) (hb : 0 < z b) : t = false ∧ d ≠ 0 ∧ (z b).natAbs = d * 2 ^ (r - b64.qmin).toNat := by
  have h := z_fin h2
  have hn : (z b).natAbs = d * 2 ^ (r - b64.qmin).toNat := by rw [h, natAbs_signed]; rfl
  refine ⟨?_, ?_, hn⟩
  · cases t
    · rfl
    · simp only [signed, if_true] at h; omega
  · rintro rfl
    rw [Nat.zero_mul] at hn; omega
theorem rnd_ddiv {a b : UInt64} (ha : DFin a) (hb : DFin b) (hp : 0 < z b) : Rnd (z a * (PN 1074 : Int)) (z b).natAbs (ddiv a b) := by
  obtain ⟨s, c, q, h1⟩ := ha
  obtain ⟨t, d, r, h2⟩ := hb
  obtain ⟨rfl, hd0, hD⟩ := pos_sign h2 hp
  have hza : z a * (PN 1074 : Int) = signed s (inUnits c q b64.qmin * PN 1074) := by rw [z_fin h1, signed_mul]
  have hn : (z a * (PN 1074 : Int)).natAbs = inUnits c q b64.qmin * PN 1074 := by rw [hza, natAbs_signed]
  refine ⟨by omega, s, by rw [hn, hza], ?_⟩
  rw [val64_ddiv, h1, h2, hn, hD]
  simp only [quotient, if_neg hd0]
  rw [show (s != false) = s by cases s <;> rfl]
  refine roundRatio_congr (by omega) (Nat.mul_pos (by omega) (Nat.two_pow_pos _)) ?_
  have f1 := (DFin.fits h1).2.1
  have f2 := (DFin.fits h2).2.1
  unfold inUnits PN
  have := qm
  generalize hk : (1074 : Nat) = K at *
  calc c * (d * 2 ^ (r - b64.qmin).toNat) * 2 ^ (q - r - b64.qmin).toNat = c * d * 2 ^ ((r - b64.qmin).toNat + (q - r - b64.qmin).toNat) := by rw [Nat.pow_add]; ac_rfl
    _ = c * d * 2 ^ ((q - b64.qmin).toNat + K + (b64.qmin - (q - r)).toNat) := by congr 2; omega
    _ = _ := by rw [Nat.pow_add, Nat.pow_add]; ac_rfl
theorem rnd_l2d (v : Int64) : Rnd (v.toInt * (PN 1074 : Int)) 1 (l2d v) := by
  have hP := PN_posI 1074
  have hn : (v.toInt * (PN 1074 : Int)).natAbs = v.toInt.natAbs * PN 1074 := by rw [Int.natAbs_mul, Int.natAbs_natCast]
  refine ⟨by decide, decide (v.toInt < 0), ?_, ?_⟩
  · rw [hn, signed_mul]
    congr 1
    by_cases h : v.toInt < 0
    · simp only [signed, h, decide_true, if_true]; omega
    · simp only [signed, h, decide_false, Bool.false_eq_true, if_false]; omega
  · rw [val64_l2d, hn]
    show roundRatio b64 (decide (v.toInt < 0)) v.toInt.natAbs 1 0 = _
    refine roundRatio_congr (by decide) (by decide) ?_
    have := qm
    rw [show (0 - b64.qmin).toNat = 1074 by omega, show (b64.qmin - 0).toNat = 0 by omega]
    show v.toInt.natAbs * 1 * PN 1074 = v.toInt.natAbs * PN 1074 * 1 * 2 ^ 0
    rw [Nat.pow_zero, Nat.mul_one, Nat.mul_one, Nat.mul_one]
theorem i2d_l2d' (v : Int32) : i2d v = l2d v.toInt64 := i2d_l2d v
theorem rnd_i2d (v : Int32) : Rnd (v.toInt * (PN 1074 : Int)) 1 (i2d v) := by
  have h := rnd_l2d v.toInt64
  rw [Int32.toInt_toInt64] at h
  rw [i2d_l2d]; exact h
theorem Rnd.ne_nan {N : Int} {D : Nat} {r : UInt64} (h : Rnd N D r) : val64 r ≠ .nan := by
  obtain ⟨-, s, -, h⟩ := h
  rw [h]; exact roundRatio_ne_nan _ _ _ _ _
/-- the quotient alone counts -/
theorem Rnd.scale {N : Int} {D : Nat} {r : UInt64} (k : Nat) (hk : 0 < k) (h : Rnd (N * (k : Int)) (D * k) r) : Rnd N D r := by
  obtain ⟨hD, s, hs, hv⟩ := h
  have hD' : 0 < D := Nat.pos_of_mul_pos_right hD
  have hn : (N * (k : Int)).natAbs = N.natAbs * k := by rw [Int.natAbs_mul, Int.natAbs_natCast]
  refine ⟨hD', s, ?_, ?_⟩
  · rw [hn, signed_mul] at hs
    exact Int.eq_of_mul_eq_mul_right (by omega) hs
  · rw [hv, hn]
    refine roundRatio_congr hD hD' ?_
    simp only [Int.sub_self, Int.toNat_zero, Nat.pow_zero, Nat.mul_one]
    ac_rfl
theorem Rnd.up {N : Int} {D : Nat} {r : UInt64} (k : Nat) (hk : 0 < k) (h : Rnd N D r) : Rnd (N * (k : Int)) (D * k) r := by
  obtain ⟨hD, s, hs, hv⟩ := h
  have hn : (N * (k : Int)).natAbs = N.natAbs * k := by rw [Int.natAbs_mul, Int.natAbs_natCast]
  refine ⟨Nat.mul_pos hD hk, s, ?_, ?_⟩
  · rw [hn, signed_mul, hs]
  · rw [hv, hn]
    refine roundRatio_congr hD (Nat.mul_pos hD hk) ?_
    simp only [Int.sub_self, Int.toNat_zero, Nat.pow_zero, Nat.mul_one]
    ac_rfl
theorem Rnd.z_eq {N : Int} {D : Nat} {r : UInt64} {s : Bool} (h : val64 r = roundRatio b64 s N.natAbs D b64.qmin) : z r = signed s (zmag b64 (val64 r)) := by
  unfold z zval
  rw [show sgn (val64 r) = s by rw [h, sgn_roundRatio]]
theorem DFin.ne {a : UInt64} (h : DFin a) : val64 a ≠ .nan := h.ne_nan
theorem Rnd.le {N : Int} {D : Nat} {r V : UInt64} (h : Rnd N D r) (hV : DFin V) (hle : N ≤ z V * (D : Int)) : z r ≤ z V := by
  obtain ⟨hD, s, hs, hv⟩ := h
  have h1 := zmag_roundRatio_le good_b64 (s := s) (A := N.natAbs) (e := b64.qmin) (e0 := b64.qmin) hD (val64_fits V) hV.ne_nan (Int.le_refl _) (Int.le_refl _)
  have h2 := zmag_roundRatio_ge good_b64 (s := s) (A := N.natAbs) (e := b64.qmin) (e0 := b64.qmin) hD (val64_fits V) (Int.le_refl _) (Int.le_refl _)
  rw [← hv] at h1 h2
  have e1 : inUnits N.natAbs b64.qmin b64.qmin = N.natAbs := by simp [inUnits]
  rw [e1, Int.sub_self, Int.toNat_zero, Nat.pow_zero, Nat.mul_one] at h1 h2
  rw [Rnd.z_eq hv]
  have hzV : z V = signed (sgn (val64 V)) (zmag b64 (val64 V)) := rfl
  rw [hzV, ← signed_mul] at hle
  rw [hzV]
  have hz : zmag b64 (val64 V) * D = 0 → zmag b64 (val64 V) = 0 := by
    intro h
    rcases Nat.mul_eq_zero.mp h with h | h <;> omega
  generalize zmag b64 (val64 V) * D = vP at *
  generalize zmag b64 (val64 V) = v at *
  generalize zmag b64 (val64 r) = x at *
  generalize sgn (val64 V) = t at *
  cases s <;> cases t <;> simp only [signed, if_true, Bool.false_eq_true, if_false] at hle hs ⊢
  · have := h1 (by omega); omega
  · have := h1 (by omega); have := hz (by omega); omega
  · omega
  · have := h2 (by omega); omega
theorem Rnd.ge {N : Int} {D : Nat} {r V : UInt64} (h : Rnd N D r) (hV : DFin V) (hle : z V * (D : Int) ≤ N) : z V ≤ z r := by
  obtain ⟨hD, s, hs, hv⟩ := h
  have h1 := zmag_roundRatio_le good_b64 (s := s) (A := N.natAbs) (e := b64.qmin) (e0 := b64.qmin) hD (val64_fits V) hV.ne_nan (Int.le_refl _) (Int.le_refl _)
  have h2 := zmag_roundRatio_ge good_b64 (s := s) (A := N.natAbs) (e := b64.qmin) (e0 := b64.qmin) hD (val64_fits V) (Int.le_refl _) (Int.le_refl _)
  rw [← hv] at h1 h2
  have e1 : inUnits N.natAbs b64.qmin b64.qmin = N.natAbs := by simp [inUnits]
  rw [e1, Int.sub_self, Int.toNat_zero, Nat.pow_zero, Nat.mul_one] at h1 h2
  rw [Rnd.z_eq hv]
  have hzV : z V = signed (sgn (val64 V)) (zmag b64 (val64 V)) := rfl
  rw [hzV, ← signed_mul] at hle
  rw [hzV]
  have hz : zmag b64 (val64 V) * D = 0 → zmag b64 (val64 V) = 0 := by
    intro h
    rcases Nat.mul_eq_zero.mp h with h | h <;> omega
  generalize zmag b64 (val64 V) * D = vP at *
  generalize zmag b64 (val64 V) = v at *
  generalize zmag b64 (val64 r) = x at *
  generalize sgn (val64 V) = t at *
  cases s <;> cases t <;> simp only [signed, if_true, Bool.false_eq_true, if_false] at hle hs ⊢
  · have := h2 (by omega); omega
  · omega
  · have := h1 (by omega); have := hz (by omega); omega
  · have := h1 (by omega); omega
/-- a double between two finite ones is finite -/
theorem fin_between {r L H : UInt64} (hn : val64 r ≠ .nan) (hL : DFin L) (hH : DFin H) (h1 : z L ≤ z r) (h2 : z r ≤ z H) : DFin r := by
  obtain ⟨s, c, q, a1⟩ := hL
  obtain ⟨t, d, k, b1⟩ := hH
  have l1 := zmag_lt_top good_b64 (DFin.fits a1)
  have l2 := zmag_lt_top good_b64 (DFin.fits b1)
  rw [z_fin a1] at h1
  rw [z_fin b1] at h2
  cases hr : val64 r with
  | nan => exact absurd hr hn
  | fin s' c' q' => exact ⟨s', c', q', hr⟩
  | inf s' =>
    exfalso
    have hzr : z r = signed s' (b64.tails * 2 ^ (b64.exps - 2)) := by unfold z; rw [hr]; rfl
    rw [hzr] at h1 h2
    generalize b64.tails * 2 ^ (b64.exps - 2) = top at *
    generalize inUnits c q b64.qmin = u at *
    generalize inUnits d k b64.qmin = w at *
    cases s' <;> cases s <;> cases t <;> simp only [signed, if_true, Bool.false_eq_true, if_false] at h1 h2 <;> omega
/-- numbers of at most 53 digits are doubles -/
theorem rep (m : Int) (j : Nat) (hm : m.natAbs ≤ 2 ^ 53) (hj : j ≤ 2000) : ∃ V : UInt64, DFin V ∧ z V = m * (PN j : Int) := by
  have key : ∀ (m : Int) (j : Nat), m.natAbs < 2 ^ 53 → j ≤ 2001 → ∃ V : UInt64, DFin V ∧ z V = m * (PN j : Int) := by
    intro m j hm hj
    have hq : b64.qmin = -1074 := qm
    have hx : b64.qmax = 971 := by decide
    obtain ⟨c', q', h1, h2⟩ := round_exact good_b64 (decide (m < 0)) (c := m.natAbs) (q := (j : Int) - 1074) hm (by omega) (by omega)
    have hf := round_fits good_b64 (.fin (decide (m < 0)) m.natAbs ((j : Int) - 1074))
    refine ⟨of64 (round b64 (.fin (decide (m < 0)) m.natAbs ((j : Int) - 1074))), ⟨_, _, _, by rw [val64_of64 hf, h1]⟩, ?_⟩
    rw [z_fin (by rw [val64_of64 hf, h1]), h2]
    unfold inUnits
    rw [show ((j : Int) - 1074 - b64.qmin).toNat = j by omega, signed_mul]
    show signed (decide (m < 0)) m.natAbs * (PN j : Int) = m * (PN j : Int)
    congr 1
    by_cases h : m < 0
    · simp only [signed, h, decide_true, if_true]; omega
    · simp only [signed, h, decide_false, Bool.false_eq_true, if_false]; omega
  by_cases h : m.natAbs < 2 ^ 53
  · exact key m j h (by omega)
  · obtain ⟨V, hV, hz⟩ := key (m / 2) (j + 1) (by omega) (by omega)
    refine ⟨V, hV, ?_⟩
    have h2 : m = 2 * (m / 2) := by omega
    rw [hz, PN_addI, show (PN 1 : Int) = 2 from rfl]
    conv => rhs; rw [h2]
    generalize (PN j : Int) = P
    rw [Int.mul_comm P, ← Int.mul_assoc]
    congr 1
    exact Int.mul_comm _ _
theorem Rnd.fin_of {N : Int} {D : Nat} {r L H : UInt64} (h : Rnd N D r) (hL : DFin L) (hH : DFin H) (h1 : z L * (D : Int) ≤ N) (h2 : N ≤ z H * (D : Int)) : DFin r :=
  fin_between h.ne_nan hL hH (h.ge hL h1) (h.le hH h2)
/-- an exact quotient isn't rounded -/
theorem Rnd.exact {N : Int} {D : Nat} {r : UInt64} (h : Rnd N D r) (m : Int) (j : Nat) (hm : m.natAbs ≤ 2 ^ 53) (hj : j ≤ 2000) (hN : N = m * (PN j : Int) * (D : Int)) : DFin r ∧ z r = m * (PN j : Int) := by
  obtain ⟨V, hV, hz⟩ := rep m j hm hj
  have e : N = z V * (D : Int) := by rw [hz]; exact hN
  exact ⟨h.fin_of hV hV (by omega) (by omega), by have := h.le hV (by omega); have := h.ge hV (by omega); omega⟩
/-- off by less than g = 2^j, where the quotient is at most 2^53 g -/
theorem Rnd.near {N : Int} {D : Nat} {r : UInt64} (h : Rnd N D r) (j : Nat) (hj : j ≤ 2000) (h1 : -(2 ^ 53 * (PN j : Int) * (D : Int)) ≤ N) (h2 : N ≤ (2 ^ 53 - 1) * (PN j : Int) * (D : Int)) :
    DFin r ∧ N - (PN j : Int) * (D : Int) < z r * (D : Int) ∧ z r * (D : Int) < N + (PN j : Int) * (D : Int) := by
  have hD : 0 < D := h.1
  have hg : (0 : Int) < (PN j : Int) * (D : Int) := Int.mul_pos (PN_posI j) (by omega)
  have e1 := Int.mul_ediv_add_emod N ((PN j : Int) * (D : Int))
  have e2 := Int.emod_nonneg N (b := (PN j : Int) * (D : Int)) (by omega)
  have e3 := Int.emod_lt_of_pos N hg
  rw [Int.mul_assoc] at h1 h2
  have l1 : -(2 ^ 53) ≤ N / ((PN j : Int) * (D : Int)) := by
    refine (Int.le_ediv_iff_mul_le hg).mpr ?_
    rw [Int.neg_mul]; exact h1
  have l2 : N / ((PN j : Int) * (D : Int)) ≤ 2 ^ 53 - 1 := by
    refine Int.le_trans (Int.ediv_le_ediv hg h2) ?_
    rw [Int.mul_ediv_cancel _ (by omega)]; exact Int.le_refl _
  obtain ⟨L, hL, zL⟩ := rep (N / ((PN j : Int) * (D : Int))) j (by omega) hj
  obtain ⟨H, hH, zH⟩ := rep (N / ((PN j : Int) * (D : Int)) + 1) j (by omega) hj
  generalize N / ((PN j : Int) * (D : Int)) = m at *
  generalize N % ((PN j : Int) * (D : Int)) = t at *
  have c1 : z L * (D : Int) ≤ N := by
    rw [zL, Int.mul_assoc, Int.mul_comm m]; omega
  have c2 : N ≤ z H * (D : Int) := by
    rw [zH, Int.mul_assoc, Int.add_mul, Int.one_mul, Int.mul_comm m]; omega
  have c3 := Int.mul_le_mul_of_nonneg_right (h.ge hL c1) (c := (D : Int)) (by omega)
  have c4 := Int.mul_le_mul_of_nonneg_right (h.le hH c2) (c := (D : Int)) (by omega)
  refine ⟨h.fin_of hL hH c1 c2, ?_, ?_⟩
  · rw [zL, Int.mul_assoc, Int.mul_comm m] at c3; omega
  · rw [zH, Int.mul_assoc, Int.add_mul, Int.one_mul, Int.mul_comm m] at c4
    by_cases t0 : t = 0
    · have c5 := Int.mul_le_mul_of_nonneg_right (h.le hL (by rw [zL, Int.mul_assoc, Int.mul_comm m]; omega)) (c := (D : Int)) (by omega)
      rw [zL, Int.mul_assoc, Int.mul_comm m] at c5; omega
    · omega
theorem z_inj_zero {a : UInt64} (h : DFin a) : z a = 0 ↔ DZero a := by
  obtain ⟨s, c, q, h1⟩ := h
  rw [z_fin h1, signed_eq_zero]
  constructor
  · intro h
    have : c = 0 := by
      rcases Nat.mul_eq_zero.mp (show c * _ = 0 from h) with h | h
      · exact h
      · have := Nat.two_pow_pos (q - b64.qmin).toNat; omega
    exact ⟨s, q, this ▸ h1⟩
  · rintro ⟨s', q', h2⟩
    rw [h1] at h2
    cases h2
    exact Nat.zero_mul _
/-- nothing is nearer -/
theorem Rnd.nearest {N : Int} {D : Nat} {r V : UInt64} (h : Rnd N D r) (f : DFin r) (hV : DFin V) : (N - z r * (D : Int)).natAbs ≤ (N - z V * (D : Int)).natAbs := by
  obtain ⟨hD, s, hs, hv⟩ := h
  obtain ⟨s1, c, q, h1⟩ := f
  obtain ⟨t, c', q', h2⟩ := hV
  have f2 := DFin.fits h2
  rw [h1] at hv
  have hsg : s1 = s := by
    have := sgn_roundRatio b64 s N.natAbs D b64.qmin
    rw [← hv] at this; exact this
  subst hsg
  have d1 := roundRatio_nearest good_b64 hD hv.symm f2.1 f2.2.1 (Int.le_refl b64.qmin) (Int.le_refl b64.qmin)
  have d0 := roundRatio_nearest good_b64 (c' := 0) (q' := b64.qmin) hD hv.symm (Nat.two_pow_pos _) (Int.le_refl _) (Int.le_refl b64.qmin) (Int.le_refl b64.qmin)
  unfold distance at d1 d0
  have e1 : inUnits N.natAbs b64.qmin b64.qmin = N.natAbs := by simp [inUnits]
  have e0 : inUnits 0 b64.qmin b64.qmin = 0 := by simp [inUnits]
  rw [e1] at d1 d0
  rw [e0] at d0
  rw [z_fin h1, z_fin h2]
  generalize inUnits c q b64.qmin = u at *
  generalize inUnits c' q' b64.qmin = w at *
  generalize N.natAbs = A at *
  subst hs
  rw [← signed_mul, ← signed_mul]
  rw [← Int.natCast_mul] at d1 d0
  rw [← Int.natCast_mul] at d1 d0
  generalize u * D = X at *
  generalize w * D = Y at *
  cases s1 <;> cases t <;> simp only [signed, if_true, Bool.false_eq_true, if_false] <;> omega
theorem Rnd.same' {X : Int} {P : Nat} {r r' : UInt64} (h : Rnd X P r) (h' : Rnd X P r') : z r = z r' := by
  obtain ⟨hD, s, hs, hv⟩ := h
  obtain ⟨-, s', hs', hv'⟩ := h'
  by_cases e : s = s'
  · subst e
    unfold z; rw [hv, hv']
  · have h0 : X.natAbs = 0 := by
      clear hv hv'
      generalize X.natAbs = A at *
      cases s <;> cases s' <;> simp only [signed, if_true, Bool.false_eq_true, if_false] at hs hs' <;> first | omega | exact absurd rfl e
    have k : ∀ (s : Bool) (r : UInt64), val64 r = roundRatio b64 s X.natAbs P b64.qmin → z r = 0 := by
      intro s r hr
      rw [h0] at hr
      unfold roundRatio at hr
      rw [if_pos rfl] at hr
      rw [z_fin hr, signed_eq_zero]
      exact Nat.zero_mul _
    rw [k s r hv, k s' r' hv']
theorem Rnd.same {N N' : Int} {D D' : Nat} {r r' : UInt64} (h : Rnd N D r) (h' : Rnd N' D' r') (e : N * (D' : Int) = N' * (D : Int)) : z r = z r' := by
  have a := h.up D' h'.1
  have b := h'.up D h.1
  rw [← e, Nat.mul_comm] at b
  exact Rnd.same' a b
/-- rounding keeps the order -/
theorem Rnd.mono {N N' : Int} {D D' : Nat} {r r' : UInt64} (h : Rnd N D r) (h' : Rnd N' D' r') (f : DFin r) (f' : DFin r') (hle : N * (D' : Int) ≤ N' * (D : Int)) : z r ≤ z r' := by
  refine Int.le_of_not_gt fun hlt => ?_
  have hD := h.1
  have hD' := h'.1
  have n1 := h.nearest f f'
  have n2 := h'.nearest f' f
  have a1 : z r' * (D : Int) < N := Int.lt_of_not_ge fun q => by have := h.le f' q; omega
  have a2 : N' < z r * (D' : Int) := Int.lt_of_not_ge fun q => by have := h'.ge f q; omega
  have b1 : N < z r * (D : Int) := by
    have c1 := Int.mul_lt_mul_of_pos_right a2 (c := (D : Int)) (by omega)
    have c2 : N * (D' : Int) < z r * (D : Int) * (D' : Int) := by rw [Int.mul_right_comm]; omega
    exact Int.lt_of_mul_lt_mul_right c2 (by omega)
  have b2 : z r' * (D' : Int) < N' := by
    have c1 := Int.mul_lt_mul_of_pos_right a1 (c := (D' : Int)) (by omega)
    have c2 : z r' * (D' : Int) * (D : Int) < N' * (D : Int) := by rw [Int.mul_right_comm]; omega
    exact Int.lt_of_mul_lt_mul_right c2 (by omega)
  have m1 : z r * (D : Int) + z r' * (D : Int) ≤ 2 * N := by omega
  have m2 : 2 * N' ≤ z r * (D' : Int) + z r' * (D' : Int) := by omega
  have k1 := Int.mul_le_mul_of_nonneg_right m1 (c := (D' : Int)) (by omega)
  have k2 := Int.mul_le_mul_of_nonneg_right m2 (c := (D : Int)) (by omega)
  rw [Int.add_mul, Int.mul_assoc] at k1
  rw [Int.add_mul, Int.mul_assoc] at k2
  rw [Int.mul_right_comm (z r), Int.mul_right_comm (z r')] at k2
  rw [← Int.mul_assoc] at k1 k2
  have e : N * (D' : Int) = N' * (D : Int) := by
    rw [Int.mul_assoc 2] at k1
    have k2' : 2 * (N' * (D : Int)) ≤ z r * (D : Int) * (D' : Int) + z r' * (D : Int) * (D' : Int) := by
      rw [← Int.mul_assoc]; omega
    have k1' : z r * (D : Int) * (D' : Int) + z r' * (D : Int) * (D' : Int) ≤ 2 * (N * (D' : Int)) := by
      omega
    omega
  have := h.same h' e
  omega
/-! comparisons -/
theorem nn {a : UInt64} (h : DFin a) : NoNaN64 a := (fin64_core.mpr h).noNaN
theorem cmp_z {a b : UInt64} (ha : DFin a) (hb : DFin b) : Jvm.FP.dcmp a b = some (compare (z a) (z b)) := dcmp_zval ha.ne_nan hb.ne_nan
theorem cmp_lt {a b : UInt64} (ha : DFin a) (hb : DFin b) (h : z a < z b) (o : Jvm.ClassFile.CmpOp) : Jvm.Op.cmpValue (Jvm.FP.dcmp a b) o = -1 := by
  rw [cmp_z ha hb, (compare_lt_iff _ _).mpr h]; rfl
theorem cmp_eq {a b : UInt64} (ha : DFin a) (hb : DFin b) (h : z a = z b) (o : Jvm.ClassFile.CmpOp) : Jvm.Op.cmpValue (Jvm.FP.dcmp a b) o = 0 := by
  rw [cmp_z ha hb, (compare_eq_iff _ _).mpr h]; rfl
theorem cmp_gt {a b : UInt64} (ha : DFin a) (hb : DFin b) (h : z b < z a) (o : Jvm.ClassFile.CmpOp) : Jvm.Op.cmpValue (Jvm.FP.dcmp a b) o = 1 := by
  rw [cmp_z ha hb, (compare_gt_iff _ _).mpr h]; rfl
/-! whole numbers -/
theorem z_i2d (v : Int32) : DFin (i2d v) ∧ z (i2d v) = v.toInt * (PN 1074 : Int) := by
  have h1 := Int32.toInt_lt v
  have h2 := Int32.le_toInt v
  exact (rnd_i2d v).exact v.toInt 1074 (by omega) (by omega) (by simp)
theorem z_l2d {v : Int64} (h : v.toInt.natAbs ≤ 2 ^ 53) : DFin (l2d v) ∧ z (l2d v) = v.toInt * (PN 1074 : Int) :=
  (rnd_l2d v).exact v.toInt 1074 h (by omega) (by simp)
theorem fin_zero : DFin (0 : UInt64) := (fin_bits 0).mpr (by decide)
theorem z_zero : z (0 : UInt64) = 0 := by decide +kernel
theorem fin_one : DFin (4607182418800017408 : UInt64) := (fin_bits _).mpr (by decide)
theorem z_one : z (4607182418800017408 : UInt64) = (PN 1074 : Int) := by decide +kernel
end Jvm.Own

/-! OwnRel: what a branch asks, in whole numbers. -/
namespace Jvm.Own
open Jvm.ClassFile Jvm.Op
def rel : Jvm.ClassFile.Cond → Int → Int → Bool
  | .eq, a, b => decide (a = b)
  | .ne, a, b => decide (¬ a = b)
  | .lt, a, b => decide (a < b)
  | .ge, a, b => decide (b ≤ a)
  | .gt, a, b => decide (b < a)
  | .le, a, b => decide (a ≤ b)
theorem holdsII (cd : Jvm.ClassFile.Cond) (x y : Int32) : if_icmp.holds cd x y = rel cd x.toInt y.toInt := by
  have e : (x = y) ↔ (x.toInt = y.toInt) := Int32.toInt_inj.symm
  cases cd
  · show (x == y) = decide (x.toInt = y.toInt)
    rw [Bool.eq_iff_iff, beq_iff_eq, decide_eq_true_iff]; exact e
  · show (x != y) = decide (¬ x.toInt = y.toInt)
    rw [Bool.eq_iff_iff, bne_iff_ne, decide_eq_true_iff]; exact not_congr e
  all_goals
    simp only [if_icmp.holds, rel, GE.ge, GT.gt]
    rw [Bool.eq_iff_iff, decide_eq_true_iff, decide_eq_true_iff]
    first | exact Int32.lt_iff_toInt_lt | exact Int32.le_iff_toInt_le
theorem holdsI (cd : Jvm.ClassFile.Cond) (x : Int32) : ifCond.holds cd x = rel cd x.toInt 0 := by
  rw [Jvm.RoadKit.if0, holdsII]; rfl
theorem holdsL (cd : Jvm.ClassFile.Cond) (x y : Int64) : ifCond.holds cd (Jvm.RoadKit.lcmpW x y) = rel cd x.toInt y.toInt := by
  have h := Jvm.RoadKit.c_lcmp x y
  rw [holdsI]
  rcases Int.lt_trichotomy x.toInt y.toInt with q | q | q
  · rw [h.1 q]; cases cd <;> simp [rel] <;> omega
  · rw [h.2.1 q]; cases cd <;> simp [rel] <;> omega
  · rw [h.2.2 q]; cases cd <;> simp [rel] <;> omega
theorem holdsD {a b : UInt64} (ha : Jvm.FP.Core.DFin a) (hb : Jvm.FP.Core.DFin b) (cd : Jvm.ClassFile.Cond) (o : CmpOp) : ifCond.holds cd (Jvm.Op.cmpValue (Jvm.FP.dcmp a b) o) = rel cd (z a) (z b) := by
  rw [holdsI]
  rcases Int.lt_trichotomy (z a) (z b) with q | q | q
  · rw [cmp_lt ha hb q]; cases cd <;> simp [rel] <;> omega
  · rw [cmp_eq ha hb q]; cases cd <;> simp [rel] <;> omega
  · rw [cmp_gt ha hb q]; cases cd <;> simp [rel] <;> omega
theorem dT {p : Prop} [Decidable p] (h : p) : decide p = true := decide_eq_true h
theorem dF {p : Prop} [Decidable p] (h : ¬ p) : decide p = false := decide_eq_false h
theorem dup2X1 {tb : Tables} [Ours tb] {e : Env} {below : List Frame} {T target : State} {m : MethodId} {c : Code} {g : JFrame} (h : At T m c below) (hx : tb.exec = Jvm.exec) (hg : g.method = m) {x : Int64} {y : Value} {rest : List Value} (hd : decode c.code g.pc = .ok (.dup2_x1, 1)) (hs : g.stack = .long x :: y :: rest) (hc : y.category = 1)
    (hr : Steps tb e below (T.setTop { g with pc := g.pc + 1, stack := .long x :: y :: .long x :: rest }) target) : Steps tb e below (T.setTop g) target := by
  subst hg
  jvm_step h [h.top, hx, hd, hs, hc]
  exact hr
theorem irem_mod (x y : Int32) : x - (x / y) * y = x % y := by
  apply Int32.toInt_inj.mp
  have h1 := Int32.le_toInt (x % y)
  have h2 := Int32.toInt_lt (x % y)
  rw [Int32.toInt_sub, Int32.toInt_mul, Int32.toInt_div, Int.bmod_mul_bmod, Int.sub_bmod_bmod, Int.mul_comm (x.toInt.tdiv y.toInt), ← Int.tmod_def, ← Int32.toInt_mod]
  exact Int.bmod_eq_of_le_mul_two (by omega) (by omega)
end Jvm.Own

/-! OwnWhole: doubles that are whole numbers. -/
namespace Jvm.Own
open Jvm.FP.Core Jvm.Free.Fl
theorem DI.fin {i : Int} {a : UInt64} (h : DInt i a) : DFin a := by
  unfold DInt at h
  cases hv : val64 a with
  | nan => rw [hv] at h; exact h.elim
  | inf s => rw [hv] at h; exact h.elim
  | fin s c q => exact ⟨s, c, q, hv⟩
theorem DI.nn {i : Int} {a : UInt64} (h : DInt i a) : NoNaN64 a := Jvm.Own.nn (DI.fin h)
theorem DI.zero : DInt 0 (0 : UInt64) := by
  have h := l2d_int (a := 0) (by decide)
  have e : l2d 0 = 0 := by decide +kernel
  rw [e] at h; exact h
theorem holdsW {i j : Int} {a b : UInt64} (ha : DInt i a) (hb : DInt j b) (cd : Jvm.ClassFile.Cond) (o : Jvm.ClassFile.CmpOp) : Jvm.Op.ifCond.holds cd (Jvm.Op.cmpValue (Jvm.FP.dcmp a b) o) = rel cd i j := by
  have h : Jvm.FP.dcmp a b = some (compare i j) := dcmp_int ha hb
  rw [h, holdsI]
  rcases Int.lt_trichotomy i j with q | q | q
  · rw [(compare_lt_iff _ _).mpr q]; cases cd <;> simp [Jvm.Op.cmpValue, rel] <;> omega
  · rw [(compare_eq_iff _ _).mpr q]; cases cd <;> simp [Jvm.Op.cmpValue, rel] <;> omega
  · rw [(compare_gt_iff _ _).mpr q]; cases cd <;> simp [Jvm.Op.cmpValue, rel] <;> omega
end Jvm.Own
namespace Jvm.Own
open Jvm.FP.Core Jvm.Free.Fl
theorem DI.z {i : Int} {a : UInt64} (h : DInt i a) : z a = i * (PN 1074 : Int) := by
  have q := whole_zval good_b64 (val64_fits a) h
  have e : (-b64.qmin).toNat = 1074 := by rw [qm]; rfl
  rw [e] at q
  exact q
/-- the quotient of two whole doubles, the divisor above nought -/
theorem DI.div {i j : Int} {a b : UInt64} (ha : DInt i a) (hb : DInt j b) (hj : 0 < j) (hi : i.natAbs ≤ 2 ^ 53) : Rnd (i * (PN 1074 : Int)) j.natAbs (ddiv a b) ∧ DFin (ddiv a b) := by
  have hP := PN_posI 1074
  have zb := DI.z hb
  have hr := rnd_ddiv (DI.fin ha) (DI.fin hb) (by rw [zb]; exact Int.mul_pos hj hP)
  have hD : (Jvm.Own.z b).natAbs = j.natAbs * PN 1074 := by rw [zb, Int.natAbs_mul, Int.natAbs_natCast]
  rw [hD, DI.z ha] at hr
  have h := hr.scale (PN 1074) (PN_pos _)
  refine ⟨h, ?_⟩
  obtain ⟨L, fL, zL⟩ := rep (-(i.natAbs : Int)) 1074 (by omega) (by decide)
  obtain ⟨H, fH, zH⟩ := rep (i.natAbs : Int) 1074 (by omega) (by decide)
  have e : ((j.natAbs : Nat) : Int) = j := by omega
  refine h.fin_of fL fH ?_ ?_
  · rw [zL, e, Int.mul_right_comm]
    refine Int.mul_le_mul_of_nonneg_right ?_ (by omega)
    have : (i.natAbs : Int) * 1 ≤ (i.natAbs : Int) * j := Int.mul_le_mul_of_nonneg_left (by omega) (by omega)
    rw [Int.neg_mul]; omega
  · rw [zH, e, Int.mul_right_comm]
    refine Int.mul_le_mul_of_nonneg_right ?_ (by omega)
    have : (i.natAbs : Int) * 1 ≤ (i.natAbs : Int) * j := Int.mul_le_mul_of_nonneg_left (by omega) (by omega)
    omega
end Jvm.Own

/-! OwnArr: an array of doubles by what its places hold. -/
namespace Jvm.Own
open Jvm.RoadKit Jvm.ClassFile
section DArr
variable {Z : State} {h h' : Heap} {a b : Addr} {n : Nat} {f : Nat → UInt64}
def DA (Z : State) (h : Heap) (a : Addr) (n : Nat) (f : Nat → UInt64) : Prop := ∃ c : Cell, Arr Z h a c .double ∧ c.slots.size = n ∧ ∀ i, i < n → c.slots[i]? = some (.double (f i))
theorem DA.new {k : ClassId} {z : Int32} (A : Arr Z h a (newA k .double z) .double) (hz : z.toNatClampNeg = n) : DA Z h a n (fun _ => 0) := by
  subst hz
  refine ⟨_, A, by simp [newA], fun i hi => ?_⟩
  simp [newA, hi, defaultValue]
theorem DA.ext (F : DA Z h a n f) (E : Ext h h') : DA Z h' a n f := by
  obtain ⟨c, A, r⟩ := F
  exact ⟨c, A.ext E, r⟩
theorem DA.other {sl : Nat} {v : Value} (F : DA Z h b n f) (W : Wr h h' a sl v) (q : b ≠ a) : DA Z h' b n f := by
  obtain ⟨c, A, r⟩ := F
  exact ⟨c, Arr.other W A q, r⟩
theorem DA.set {j : Nat} {x : UInt64} (F : DA Z h a n f) (W : Wr h h' a j (.double x)) (hj : j < n) : DA Z h' a n (fun i => if i = j then x else f i) := by
  obtain ⟨c, A, S, H⟩ := F
  refine ⟨_, Arr.same W A, by simp [Cell.setSlot, S], fun i hi => ?_⟩
  by_cases e : i = j
  · subst e
    simp [Cell.setSlot, S, hj]
  · have e' : j ≠ i := fun q => e q.symm
    simp [Cell.setSlot, e, e', H i hi]
theorem DA.lt (F : DA Z h a n f) : a < h.size := by
  obtain ⟨c, A, -⟩ := F
  exact A.lt
theorem DA.of {g : Nat → UInt64} (F : DA Z h a n f) (q : ∀ i, i < n → f i = g i) : DA Z h a n g := by
  obtain ⟨c, A, S, H⟩ := F
  exact ⟨c, A, S, fun i hi => by rw [← q i hi]; exact H i hi⟩
end DArr
end Jvm.Own

namespace Jvm.Pilot.@@N@@
open Jvm Jvm.ClassFile Sem Op Lib Jvm.Free Jvm.Stand Jvm.LawKit Jvm.RoadKit Bundle Jvm.Pilot.@@N@@.Jvm.D

theorem d1_0 : decode prog_21_method_7_code 0 = .ok (.dconst 0, 1) := by decide +kernel
theorem d1_1 : decode prog_21_method_7_code 1 = .ok (.dstore_n 3, 1) := by decide +kernel
theorem d1_2 : decode prog_21_method_7_code 2 = .ok (.aload_n 2, 1) := by decide +kernel
theorem d1_3 : decode prog_21_method_7_code 3 = .ok (.arraylength, 1) := by decide +kernel
theorem d1_4 : decode prog_21_method_7_code 4 = .ok (.iconst 1, 1) := by decide +kernel
theorem d1_5 : decode prog_21_method_7_code 5 = .ok (.isub, 1) := by decide +kernel
theorem d1_6 : decode prog_21_method_7_code 6 = .ok (.istore 5, 2) := by decide +kernel
theorem d1_8 : decode prog_21_method_7_code 8 = .ok (.iload 5, 2) := by decide +kernel
theorem d1_10 : decode prog_21_method_7_code 10 = .ok (.ifCond .lt 18, 3) := by decide +kernel
theorem d1_13 : decode prog_21_method_7_code 13 = .ok (.dload_n 3, 1) := by decide +kernel
theorem d1_14 : decode prog_21_method_7_code 14 = .ok (.dload_n 0, 1) := by decide +kernel
theorem d1_15 : decode prog_21_method_7_code 15 = .ok (.dmul, 1) := by decide +kernel
theorem d1_16 : decode prog_21_method_7_code 16 = .ok (.aload_n 2, 1) := by decide +kernel
theorem d1_17 : decode prog_21_method_7_code 17 = .ok (.iload 5, 2) := by decide +kernel
theorem d1_19 : decode prog_21_method_7_code 19 = .ok (.daload, 1) := by decide +kernel
theorem d1_20 : decode prog_21_method_7_code 20 = .ok (.dadd, 1) := by decide +kernel
theorem d1_21 : decode prog_21_method_7_code 21 = .ok (.dstore_n 3, 1) := by decide +kernel
theorem d1_22 : decode prog_21_method_7_code 22 = .ok (.iinc 5 (-1), 3) := by decide +kernel
theorem d1_25 : decode prog_21_method_7_code 25 = .ok (.goto (-17), 3) := by decide +kernel
theorem d1_28 : decode prog_21_method_7_code 28 = .ok (.dload_n 3, 1) := by decide +kernel
theorem d1_29 : decode prog_21_method_7_code 29 = .ok (.dreturn, 1) := by decide +kernel
theorem pd_0 : parseMethodDescriptor "(D[D)D" = some ⟨[.double, (.array .double)], some .double⟩ := by decide +kernel
theorem pn_0 : plainName "com/example/helioarc/helioarc/Spa" = true := by first | (simp [plainName, overriddenIn]; done) | decide +kernel
theorem pn_1 : plainName "com/example/helioarc/helioarc/SpaPolynomialPinLaw" = true := by first | (simp [plainName, overriddenIn]; done) | decide +kernel

/-- Horner's value behind k turns of n -/
def own_hr (x : UInt64) (f : Nat → UInt64) (n : Nat) : Nat → UInt64
  | 0 => (0 : UInt64)
  | k + 1 => FP.dadd (FP.dmul (own_hr x f n k) x) (f (n - 1 - k))
def own_pf (x0 x1 x2 x3 : Int32) (i : Nat) : UInt64 := if i = 0 then FP.i2d x0 else if i = 1 then FP.i2d x1 else if i = 2 then FP.i2d x2 else FP.i2d x3
theorem own_n (x : Int32) : ((x &&& (7 : Int32)) - ((x &&& (7 : Int32)) / (5 : Int32)) * (5 : Int32)) = 0 ∨ ((x &&& (7 : Int32)) - ((x &&& (7 : Int32)) / (5 : Int32)) * (5 : Int32)) = 1 ∨ ((x &&& (7 : Int32)) - ((x &&& (7 : Int32)) / (5 : Int32)) * (5 : Int32)) = 2 ∨ ((x &&& (7 : Int32)) - ((x &&& (7 : Int32)) / (5 : Int32)) * (5 : Int32)) = 3 ∨ ((x &&& (7 : Int32)) - ((x &&& (7 : Int32)) / (5 : Int32)) * (5 : Int32)) = 4 := by
  rw [Jvm.Own.irem_mod]
  have h1 := c_mask x 7 3 (by decide) (by decide)
  have h3 : (0 : Int) ≤ (x &&& (7 : Int32)).toInt := by rw [h1]; omega
  have h4 := (c_irem (x &&& (7 : Int32)) 5 5 (by decide)).1 h3
  have e0 : (0 : Int32).toInt = 0 := by decide
  have e1 : (1 : Int32).toInt = 1 := by decide
  have e2 : (2 : Int32).toInt = 2 := by decide
  have e3 : (3 : Int32).toInt = 3 := by decide
  have e4 : (4 : Int32).toInt = 4 := by decide
  rw [← Int32.toInt_inj, ← Int32.toInt_inj, ← Int32.toInt_inj, ← Int32.toInt_inj, ← Int32.toInt_inj, h4, e0, e1, e2, e3, e4]
  omega
theorem own_x (v : Int32) : ∃ x : Int32, (v <<< ((24 : Int32) &&& 31)) >>> ((24 : Int32) &&& 31) = x ∧ x.toInt.natAbs ≤ 128 := by
  refine ⟨_, rfl, ?_⟩
  have h := c_ishr (v <<< ((24 : Int32) &&& 31)) 24 24 (by decide)
  have h2 := rng32 (v <<< ((24 : Int32) &&& 31))
  rw [h]; omega
theorem own_pb {a b : Int} {A B : Nat} (h1 : a.natAbs ≤ A) (h2 : b.natAbs ≤ B) : (a * b).natAbs ≤ A * B := by
  rw [Int.natAbs_mul]; exact Nat.mul_le_mul h1 h2
theorem own_ad {a b : Int} {A B : Nat} (h1 : a.natAbs ≤ A) (h2 : b.natAbs ≤ B) : (a + b).natAbs ≤ A + B := by omega
theorem own_i32 (c : Int32) : c.toInt.natAbs ≤ 2147483648 := by
  have h1 := Int32.toInt_lt c
  have h2 := Int32.le_toInt c
  omega
/-- a long product that doesn't wrap -/
theorem own_lm {a b : Int64} {A B : Nat} (h1 : a.toInt.natAbs ≤ A) (h2 : b.toInt.natAbs ≤ B) (h : A * B < 9223372036854775808) : (a * b).toInt = a.toInt * b.toInt := by
  have h3 := own_pb h1 h2
  have h4 := c_lmul a b
  have h5 := rng64 (a * b)
  generalize a.toInt * b.toInt = w at *
  omega
theorem own_la {a b : Int64} {A B : Nat} (h1 : a.toInt.natAbs ≤ A) (h2 : b.toInt.natAbs ≤ B) (h : A + B < 9223372036854775808) : (a + b).toInt = a.toInt + b.toInt := by
  have h4 := c_ladd a b
  have h5 := rng64 (a + b)
  omega

set_option maxRecDepth 65536 in
set_option maxHeartbeats 40000000 in
theorem po_turn {p : Program} {l : Launch} {e : Env} {R : Room} {s : State} {m : MethodId} {args : Array Value} {below : List Frame} {meth : Method} {c : Code} {T : State} {locs : List Loc} {cells slots : Nat} {Z : State} {a0 : Array Value} {h0 : Heap} (a : Addr) (x r r' y : UInt64) (i i' : Int32) (ca : Cell)
    (X : Stand p l e R s m args below meth c T locs cells slots) (hx : p.tables.exec = Jvm.exec) (hZ : Z.Warmed39 s.vm) (hw : ∀ d ∈ tables_1, d.before a0 Z = true) (hby : c.code = prog_21_method_7_code) (hown : s.vm.findClass "com/example/helioarc/helioarc/Spa" = some m.cls) (e0 : T.heap = h0) (A : Arr Z h0 a ca .double) (hlt : ¬ i.toInt < 0) (ina : ¬ (i < 0 ∨ ca.slots.size ≤ i.toNatClampNeg)) (ata : ca.slots[i.toNatClampNeg]? = some (.double y)) (n1 : Jvm.Free.Fl.NoNaN64 (FP.dmul r x)) (n2 : Jvm.Free.Fl.NoNaN64 (FP.dadd (FP.dmul r x) y)) (hr : FP.dadd (FP.dmul r x) y = r') (hi : i + Int32.ofInt (-1) = i') :
    ∀ target, Steps p.tables e below (T.setTop (mkF m 8 #[.val (.double x), .second, .val (.ref a), .val (.double (r')), .second, .val (.int (i'))] [])) target → Steps p.tables e below (T.setTop (mkF m 8 #[.val (.double x), .second, .val (.ref a), .val (.double r), .second, .val (.int i)] [])) target := by
  intro target kt
  show Steps p.tables e below (T.setTop (mkF m 8 #[.val (.double x), .second, .val (.ref a), .val (.double r), .second, .val (.int i)] [])) _
  refine XS.iload X.here hx rfl (hb hby d1_8) rfl ?_
  show Steps p.tables e below (T.setTop (mkF m 10 #[.val (.double x), .second, .val (.ref a), .val (.double r), .second, .val (.int i)] [(.int i)])) _
  refine XS.ifNo X.here hx rfl (hb hby d1_10) rfl ((Jvm.Own.holdsI _ _).trans (Jvm.Own.dF hlt)) ?_
  show Steps p.tables e below (T.setTop (mkF m 13 #[.val (.double x), .second, .val (.ref a), .val (.double r), .second, .val (.int i)] [])) _
  refine XS.dloadN X.here hx rfl (hb hby d1_13) rfl ?_
  show Steps p.tables e below (T.setTop (mkF m 14 #[.val (.double x), .second, .val (.ref a), .val (.double r), .second, .val (.int i)] [(.double r)])) _
  refine XS.dloadN X.here hx rfl (hb hby d1_14) rfl ?_
  show Steps p.tables e below (T.setTop (mkF m 15 #[.val (.double x), .second, .val (.ref a), .val (.double r), .second, .val (.int i)] [(.double x), (.double r)])) _
  refine XS.dmulS X.here hx rfl (hb hby d1_15) rfl n1 (v := FP.dmul r x) rfl ?_
  show Steps p.tables e below (T.setTop (mkF m 16 #[.val (.double x), .second, .val (.ref a), .val (.double r), .second, .val (.int i)] [(.double (FP.dmul r x))])) _
  refine XS.aloadN X.here hx rfl (hb hby d1_16) rfl rfl ?_
  show Steps p.tables e below (T.setTop (mkF m 17 #[.val (.double x), .second, .val (.ref a), .val (.double r), .second, .val (.int i)] [(.ref a), (.double (FP.dmul r x))])) _
  refine XS.iload X.here hx rfl (hb hby d1_17) rfl ?_
  show Steps p.tables e below (T.setTop (mkF m 19 #[.val (.double x), .second, .val (.ref a), .val (.double r), .second, .val (.int i)] [(.int i), (.ref a), (.double (FP.dmul r x))])) _
  refine X.daload hx (cell := ca) (j := i) (v := (.double y)) (by rw [e0]; exact A.1) (State.isArrayOf_alike hZ.alike A.2.1) A.2.2 ina ata (g := (mkF m 19 #[.val (.double x), .second, .val (.ref a), .val (.double r), .second, .val (.int i)] [(.int i), (.ref a), (.double (FP.dmul r x))])) rfl rfl (hb hby d1_19) _ ?_
  show Steps p.tables e below (T.setTop (mkF m 20 #[.val (.double x), .second, .val (.ref a), .val (.double r), .second, .val (.int i)] [(.double y), (.double (FP.dmul r x))])) _
  refine XS.daddS X.here hx rfl (hb hby d1_20) rfl n2 (v := r') hr ?_
  show Steps p.tables e below (T.setTop (mkF m 21 #[.val (.double x), .second, .val (.ref a), .val (.double r), .second, .val (.int i)] [(.double (r'))])) _
  refine XS.dstoreN X.here hx rfl (hb hby d1_21) rfl (l' := #[.val (.double x), .second, .val (.ref a), .val (.double (r')), .second, .val (.int i)]) rfl ?_
  show Steps p.tables e below (T.setTop (mkF m 22 #[.val (.double x), .second, .val (.ref a), .val (.double (r')), .second, .val (.int i)] [])) _
  refine XS.iinc X.here hx rfl (hb hby d1_22) rfl (l' := #[.val (.double x), .second, .val (.ref a), .val (.double (r')), .second, .val (.int (i'))]) (by rw [hi]; rfl) ?_
  show Steps p.tables e below (T.setTop (mkF m 25 #[.val (.double x), .second, .val (.ref a), .val (.double (r')), .second, .val (.int (i'))] [])) _
  refine XS.goto X.here hx rfl (pc0 := 25) (pc' := 8) rfl (hb hby d1_25) (by decide) (by decide) ?_
  exact kt
theorem ef_rmPo (m : MethodId) (x : UInt64) (a : Addr) : entryFrame m #[(.double x), (.ref a)] 6 = mkF m 0 #[.val (.double x), .second, .val (.ref a), .unset, .unset, .unset] [] := by first | (simp [entryFrame, mkF, argsToLocals, Value.category]; done) | rfl
set_option maxRecDepth 65536 in
set_option maxHeartbeats 40000000 in
theorem rmPo (l : Launch) (Z : State) (a0 : Array Value) (hw : ∀ d ∈ tables_1, d.before a0 Z = true) (ws : List Jvm.Cond) (x : UInt64) (a : Addr) (h0 : Heap) (n0 : Nat) (Z0 : n0 ≤ h0.size) (n : Nat) (f : Nat → UInt64) (hn : n = 0 ∨ n = 1 ∨ n = 2 ∨ n = 3 ∨ n = 4) (FA : Jvm.Own.DA Z h0 a n f) (ok : ∀ k, k < n → Jvm.Free.Fl.NoNaN64 (FP.dmul (own_hr x f n k) x) ∧ Jvm.Free.Fl.NoNaN64 (own_hr x f n (k + 1))) :
    MetFree l (⟨"com/example/helioarc/helioarc/Spa", "polynomial", "(D[D)D"⟩ : MethodName) (head1 (Jvm.Cond.code (⟨"com/example/helioarc/helioarc/Spa", "polynomial", "(D[D)D"⟩ : MethodName) prog_21_method_7_code 6 (some .double) :: ws) ({ frames := 0, cells := 0, slots := 0, locals := 0 } : Room)) (fun a_ U_ => a_ = #[(.double x), (.ref a)] ∧ Z.Warmed39 U_.vm ∧ U_.heap = h0) (fun _ _ _ _ _ => True) (fun _ U_ o_ V_ => ∃ v_ L_, o_ = .returned v_ ∧ QP (.double (own_hr x f n n)) h0 n0 v_ V_.heap L_ ∧ FrameEnd U_ o_ V_ L_ ({ frames := 0, cells := 0, slots := 0, locals := 0 } : Room).cells ({ frames := 0, cells := 0, slots := 0, locals := 0 } : Room).slots) := by
  refine MetFree.of_bodySF (plainFor_of_name pn_0) hisR ?_
  intro p e s m args below meth c s₁ Bd hml0 hP hK
  obtain ⟨rfl, hZ, hh⟩ := hP
  have hx := Bd.exec
  have hby := Bd.bytes
  have hml : c.maxLocals = 6 := hml0
  have hown : s.vm.findClass "com/example/helioarc/helioarc/Spa" = some m.cls := findClass_of_methodNamed Bd.named
  have hnm := (name_of_methodNamed Bd.named Bd.method).1
  have X0 : Stand p l e ({ frames := 0, cells := 0, slots := 0, locals := 0 } : Room) s m #[(.double x), (.ref a)] below meth c s₁ [] 0 0 := Stand.of_body Bd
  have e0 : s₁.heap = h0 := by rw [← hh, Bd.state]; rfl
  have N0 := Fr.nil n0
  have pre0 : ∀ t, Steps p.tables e below (s₁.setTop (mkF m 0 #[.val (.double x), .second, .val (.ref a), .unset, .unset, .unset] [])) t → Steps p.tables e below (s₁.setTop (entryFrame m #[(.double x), (.ref a)] 6)) t := fun t_ k_ => castTop (ef_rmPo m x a) k_
  obtain ⟨ca, A, SA, HA⟩ := FA
  rcases hn with rfl | rfl | rfl | rfl | rfl
  · obtain ⟨fs, hr, hrun, hended, hW, hsame⟩ := X0.leave (v := some (.double (own_hr x f 0 0))) (fun h => by rw [Bd.returns] at h; cases h)
    refine ⟨_, _, pre0 _ ?_, hrun, hended, _, _, rfl, ?_, ⟨_, rfl⟩, hW, hsame.mono (by decide) (by decide)⟩
    · show Steps p.tables e below (s₁.setTop (mkF m 0 #[.val (.double x), .second, .val (.ref a), .unset, .unset, .unset] [])) _
      refine XS.dconst0 X0.here hx rfl (hb hby d1_0) (v := (0 : UInt64)) rfl ?_
      show Steps p.tables e below (s₁.setTop (mkF m 1 #[.val (.double x), .second, .val (.ref a), .unset, .unset, .unset] [(.double (0 : UInt64))])) _
      refine XS.dstoreN X0.here hx rfl (hb hby d1_1) rfl (l' := #[.val (.double x), .second, .val (.ref a), .val (.double (0 : UInt64)), .second, .unset]) rfl ?_
      show Steps p.tables e below (s₁.setTop (mkF m 2 #[.val (.double x), .second, .val (.ref a), .val (.double (0 : UInt64)), .second, .unset] [])) _
      refine XS.aloadN X0.here hx rfl (hb hby d1_2) rfl rfl ?_
      show Steps p.tables e below (s₁.setTop (mkF m 3 #[.val (.double x), .second, .val (.ref a), .val (.double (0 : UInt64)), .second, .unset] [(.ref a)])) _
      refine X0.arraylength hx (cell := ca) (by rw [e0]; exact A.1) (State.isArrayOf_alike hZ.alike A.2.1) (g := (mkF m 3 #[.val (.double x), .second, .val (.ref a), .val (.double (0 : UInt64)), .second, .unset] [(.ref a)])) rfl (rest := []) rfl (hb hby d1_3) _ ?_
      rw [(show ca.slots.size.toInt32 = (0 : Int32) by rw [SA]; rfl)]
      show Steps p.tables e below (s₁.setTop (mkF m 4 #[.val (.double x), .second, .val (.ref a), .val (.double (0 : UInt64)), .second, .unset] [(.int (0 : Int32))])) _
      refine XS.iconst X0.here hx rfl (hb hby d1_4) ?_
      show Steps p.tables e below (s₁.setTop (mkF m 5 #[.val (.double x), .second, .val (.ref a), .val (.double (0 : UInt64)), .second, .unset] [(.int (1 : Int32)), (.int (0 : Int32))])) _
      refine XS.isub X0.here hx rfl (hb hby d1_5) rfl ?_
      rw [(show (0 : Int32) - (1 : Int32) = (-1 : Int32) by decide)]
      show Steps p.tables e below (s₁.setTop (mkF m 6 #[.val (.double x), .second, .val (.ref a), .val (.double (0 : UInt64)), .second, .unset] [(.int (-1 : Int32))])) _
      refine XS.istore X0.here hx rfl (hb hby d1_6) rfl (l' := #[.val (.double x), .second, .val (.ref a), .val (.double (0 : UInt64)), .second, .val (.int (-1 : Int32))]) rfl ?_
      show Steps p.tables e below (s₁.setTop (mkF m 8 #[.val (.double x), .second, .val (.ref a), .val (.double (0 : UInt64)), .second, .val (.int (-1 : Int32))] [])) _
      refine XS.iload X0.here hx rfl (hb hby d1_8) rfl ?_
      show Steps p.tables e below (s₁.setTop (mkF m 10 #[.val (.double x), .second, .val (.ref a), .val (.double (0 : UInt64)), .second, .val (.int (-1 : Int32))] [(.int (-1 : Int32))])) _
      refine XS.ifYes X0.here hx rfl (pc0 := 10) (pc' := 28) rfl (hb hby d1_10) rfl rfl (by decide) (by decide) ?_
      show Steps p.tables e below (s₁.setTop (mkF m 28 #[.val (.double x), .second, .val (.ref a), .val (.double (0 : UInt64)), .second, .val (.int (-1 : Int32))] [])) _
      refine XS.dloadN X0.here hx rfl (hb hby d1_28) rfl ?_
      show Steps p.tables e below (s₁.setTop (mkF m 29 #[.val (.double x), .second, .val (.ref a), .val (.double (0 : UInt64)), .second, .val (.int (-1 : Int32))] [(.double (0 : UInt64))])) _
      exact Jvm.RoadKit.retD X0 hx Bd.returns (hb hby d1_29) hr
    · show QP (.double (own_hr x f 0 0)) h0 n0 _ s₁.heap _
      rw [e0]
      exact ⟨rfl, N0, rfl⟩
  · obtain ⟨fs, hr, hrun, hended, hW, hsame⟩ := X0.leave (v := some (.double (own_hr x f 1 1))) (fun h => by rw [Bd.returns] at h; cases h)
    refine ⟨_, _, pre0 _ ?_, hrun, hended, _, _, rfl, ?_, ⟨_, rfl⟩, hW, hsame.mono (by decide) (by decide)⟩
    · show Steps p.tables e below (s₁.setTop (mkF m 0 #[.val (.double x), .second, .val (.ref a), .unset, .unset, .unset] [])) _
      refine XS.dconst0 X0.here hx rfl (hb hby d1_0) (v := (0 : UInt64)) rfl ?_
      show Steps p.tables e below (s₁.setTop (mkF m 1 #[.val (.double x), .second, .val (.ref a), .unset, .unset, .unset] [(.double (0 : UInt64))])) _
      refine XS.dstoreN X0.here hx rfl (hb hby d1_1) rfl (l' := #[.val (.double x), .second, .val (.ref a), .val (.double (0 : UInt64)), .second, .unset]) rfl ?_
      show Steps p.tables e below (s₁.setTop (mkF m 2 #[.val (.double x), .second, .val (.ref a), .val (.double (0 : UInt64)), .second, .unset] [])) _
      refine XS.aloadN X0.here hx rfl (hb hby d1_2) rfl rfl ?_
      show Steps p.tables e below (s₁.setTop (mkF m 3 #[.val (.double x), .second, .val (.ref a), .val (.double (0 : UInt64)), .second, .unset] [(.ref a)])) _
      refine X0.arraylength hx (cell := ca) (by rw [e0]; exact A.1) (State.isArrayOf_alike hZ.alike A.2.1) (g := (mkF m 3 #[.val (.double x), .second, .val (.ref a), .val (.double (0 : UInt64)), .second, .unset] [(.ref a)])) rfl (rest := []) rfl (hb hby d1_3) _ ?_
      rw [(show ca.slots.size.toInt32 = (1 : Int32) by rw [SA]; rfl)]
      show Steps p.tables e below (s₁.setTop (mkF m 4 #[.val (.double x), .second, .val (.ref a), .val (.double (0 : UInt64)), .second, .unset] [(.int (1 : Int32))])) _
      refine XS.iconst X0.here hx rfl (hb hby d1_4) ?_
      show Steps p.tables e below (s₁.setTop (mkF m 5 #[.val (.double x), .second, .val (.ref a), .val (.double (0 : UInt64)), .second, .unset] [(.int (1 : Int32)), (.int (1 : Int32))])) _
      refine XS.isub X0.here hx rfl (hb hby d1_5) rfl ?_
      rw [(show (1 : Int32) - (1 : Int32) = (0 : Int32) by decide)]
      show Steps p.tables e below (s₁.setTop (mkF m 6 #[.val (.double x), .second, .val (.ref a), .val (.double (0 : UInt64)), .second, .unset] [(.int (0 : Int32))])) _
      refine XS.istore X0.here hx rfl (hb hby d1_6) rfl (l' := #[.val (.double x), .second, .val (.ref a), .val (.double (0 : UInt64)), .second, .val (.int (0 : Int32))]) rfl ?_
      show Steps p.tables e below (s₁.setTop (mkF m 8 #[.val (.double x), .second, .val (.ref a), .val (.double (0 : UInt64)), .second, .val (.int (0 : Int32))] [])) _
      refine po_turn a x (0 : UInt64) (own_hr x f 1 1) (f 0) (0 : Int32) (-1 : Int32) ca X0 hx hZ hw hby hown e0 A (by decide) (by rw [SA]; decide) (by rw [(show (0 : Int32).toNatClampNeg = 0 by decide)]; exact HA 0 (by decide)) (ok 0 (by decide)).1 (ok 0 (by decide)).2 rfl (by decide) _ ?_
      show Steps p.tables e below (s₁.setTop (mkF m 8 #[.val (.double x), .second, .val (.ref a), .val (.double (own_hr x f 1 1)), .second, .val (.int (-1 : Int32))] [])) _
      refine XS.iload X0.here hx rfl (hb hby d1_8) rfl ?_
      show Steps p.tables e below (s₁.setTop (mkF m 10 #[.val (.double x), .second, .val (.ref a), .val (.double (own_hr x f 1 1)), .second, .val (.int (-1 : Int32))] [(.int (-1 : Int32))])) _
      refine XS.ifYes X0.here hx rfl (pc0 := 10) (pc' := 28) rfl (hb hby d1_10) rfl rfl (by decide) (by decide) ?_
      show Steps p.tables e below (s₁.setTop (mkF m 28 #[.val (.double x), .second, .val (.ref a), .val (.double (own_hr x f 1 1)), .second, .val (.int (-1 : Int32))] [])) _
      refine XS.dloadN X0.here hx rfl (hb hby d1_28) rfl ?_
      show Steps p.tables e below (s₁.setTop (mkF m 29 #[.val (.double x), .second, .val (.ref a), .val (.double (own_hr x f 1 1)), .second, .val (.int (-1 : Int32))] [(.double (own_hr x f 1 1))])) _
      exact Jvm.RoadKit.retD X0 hx Bd.returns (hb hby d1_29) hr
    · show QP (.double (own_hr x f 1 1)) h0 n0 _ s₁.heap _
      rw [e0]
      exact ⟨rfl, N0, rfl⟩
  · obtain ⟨fs, hr, hrun, hended, hW, hsame⟩ := X0.leave (v := some (.double (own_hr x f 2 2))) (fun h => by rw [Bd.returns] at h; cases h)
    refine ⟨_, _, pre0 _ ?_, hrun, hended, _, _, rfl, ?_, ⟨_, rfl⟩, hW, hsame.mono (by decide) (by decide)⟩
    · show Steps p.tables e below (s₁.setTop (mkF m 0 #[.val (.double x), .second, .val (.ref a), .unset, .unset, .unset] [])) _
      refine XS.dconst0 X0.here hx rfl (hb hby d1_0) (v := (0 : UInt64)) rfl ?_
      show Steps p.tables e below (s₁.setTop (mkF m 1 #[.val (.double x), .second, .val (.ref a), .unset, .unset, .unset] [(.double (0 : UInt64))])) _
      refine XS.dstoreN X0.here hx rfl (hb hby d1_1) rfl (l' := #[.val (.double x), .second, .val (.ref a), .val (.double (0 : UInt64)), .second, .unset]) rfl ?_
      show Steps p.tables e below (s₁.setTop (mkF m 2 #[.val (.double x), .second, .val (.ref a), .val (.double (0 : UInt64)), .second, .unset] [])) _
      refine XS.aloadN X0.here hx rfl (hb hby d1_2) rfl rfl ?_
      show Steps p.tables e below (s₁.setTop (mkF m 3 #[.val (.double x), .second, .val (.ref a), .val (.double (0 : UInt64)), .second, .unset] [(.ref a)])) _
      refine X0.arraylength hx (cell := ca) (by rw [e0]; exact A.1) (State.isArrayOf_alike hZ.alike A.2.1) (g := (mkF m 3 #[.val (.double x), .second, .val (.ref a), .val (.double (0 : UInt64)), .second, .unset] [(.ref a)])) rfl (rest := []) rfl (hb hby d1_3) _ ?_
      rw [(show ca.slots.size.toInt32 = (2 : Int32) by rw [SA]; rfl)]
      show Steps p.tables e below (s₁.setTop (mkF m 4 #[.val (.double x), .second, .val (.ref a), .val (.double (0 : UInt64)), .second, .unset] [(.int (2 : Int32))])) _
      refine XS.iconst X0.here hx rfl (hb hby d1_4) ?_
      show Steps p.tables e below (s₁.setTop (mkF m 5 #[.val (.double x), .second, .val (.ref a), .val (.double (0 : UInt64)), .second, .unset] [(.int (1 : Int32)), (.int (2 : Int32))])) _
      refine XS.isub X0.here hx rfl (hb hby d1_5) rfl ?_
      rw [(show (2 : Int32) - (1 : Int32) = (1 : Int32) by decide)]
      show Steps p.tables e below (s₁.setTop (mkF m 6 #[.val (.double x), .second, .val (.ref a), .val (.double (0 : UInt64)), .second, .unset] [(.int (1 : Int32))])) _
      refine XS.istore X0.here hx rfl (hb hby d1_6) rfl (l' := #[.val (.double x), .second, .val (.ref a), .val (.double (0 : UInt64)), .second, .val (.int (1 : Int32))]) rfl ?_
      show Steps p.tables e below (s₁.setTop (mkF m 8 #[.val (.double x), .second, .val (.ref a), .val (.double (0 : UInt64)), .second, .val (.int (1 : Int32))] [])) _
      refine po_turn a x (0 : UInt64) (own_hr x f 2 1) (f 1) (1 : Int32) (0 : Int32) ca X0 hx hZ hw hby hown e0 A (by decide) (by rw [SA]; decide) (by rw [(show (1 : Int32).toNatClampNeg = 1 by decide)]; exact HA 1 (by decide)) (ok 0 (by decide)).1 (ok 0 (by decide)).2 rfl (by decide) _ ?_
      show Steps p.tables e below (s₁.setTop (mkF m 8 #[.val (.double x), .second, .val (.ref a), .val (.double (own_hr x f 2 1)), .second, .val (.int (0 : Int32))] [])) _
      refine po_turn a x (own_hr x f 2 1) (own_hr x f 2 2) (f 0) (0 : Int32) (-1 : Int32) ca X0 hx hZ hw hby hown e0 A (by decide) (by rw [SA]; decide) (by rw [(show (0 : Int32).toNatClampNeg = 0 by decide)]; exact HA 0 (by decide)) (ok 1 (by decide)).1 (ok 1 (by decide)).2 rfl (by decide) _ ?_
      show Steps p.tables e below (s₁.setTop (mkF m 8 #[.val (.double x), .second, .val (.ref a), .val (.double (own_hr x f 2 2)), .second, .val (.int (-1 : Int32))] [])) _
      refine XS.iload X0.here hx rfl (hb hby d1_8) rfl ?_
      show Steps p.tables e below (s₁.setTop (mkF m 10 #[.val (.double x), .second, .val (.ref a), .val (.double (own_hr x f 2 2)), .second, .val (.int (-1 : Int32))] [(.int (-1 : Int32))])) _
      refine XS.ifYes X0.here hx rfl (pc0 := 10) (pc' := 28) rfl (hb hby d1_10) rfl rfl (by decide) (by decide) ?_
      show Steps p.tables e below (s₁.setTop (mkF m 28 #[.val (.double x), .second, .val (.ref a), .val (.double (own_hr x f 2 2)), .second, .val (.int (-1 : Int32))] [])) _
      refine XS.dloadN X0.here hx rfl (hb hby d1_28) rfl ?_
      show Steps p.tables e below (s₁.setTop (mkF m 29 #[.val (.double x), .second, .val (.ref a), .val (.double (own_hr x f 2 2)), .second, .val (.int (-1 : Int32))] [(.double (own_hr x f 2 2))])) _
      exact Jvm.RoadKit.retD X0 hx Bd.returns (hb hby d1_29) hr
    · show QP (.double (own_hr x f 2 2)) h0 n0 _ s₁.heap _
      rw [e0]
      exact ⟨rfl, N0, rfl⟩
  · obtain ⟨fs, hr, hrun, hended, hW, hsame⟩ := X0.leave (v := some (.double (own_hr x f 3 3))) (fun h => by rw [Bd.returns] at h; cases h)
    refine ⟨_, _, pre0 _ ?_, hrun, hended, _, _, rfl, ?_, ⟨_, rfl⟩, hW, hsame.mono (by decide) (by decide)⟩
    · show Steps p.tables e below (s₁.setTop (mkF m 0 #[.val (.double x), .second, .val (.ref a), .unset, .unset, .unset] [])) _
      refine XS.dconst0 X0.here hx rfl (hb hby d1_0) (v := (0 : UInt64)) rfl ?_
      show Steps p.tables e below (s₁.setTop (mkF m 1 #[.val (.double x), .second, .val (.ref a), .unset, .unset, .unset] [(.double (0 : UInt64))])) _
      refine XS.dstoreN X0.here hx rfl (hb hby d1_1) rfl (l' := #[.val (.double x), .second, .val (.ref a), .val (.double (0 : UInt64)), .second, .unset]) rfl ?_
      show Steps p.tables e below (s₁.setTop (mkF m 2 #[.val (.double x), .second, .val (.ref a), .val (.double (0 : UInt64)), .second, .unset] [])) _
      refine XS.aloadN X0.here hx rfl (hb hby d1_2) rfl rfl ?_
      show Steps p.tables e below (s₁.setTop (mkF m 3 #[.val (.double x), .second, .val (.ref a), .val (.double (0 : UInt64)), .second, .unset] [(.ref a)])) _
      refine X0.arraylength hx (cell := ca) (by rw [e0]; exact A.1) (State.isArrayOf_alike hZ.alike A.2.1) (g := (mkF m 3 #[.val (.double x), .second, .val (.ref a), .val (.double (0 : UInt64)), .second, .unset] [(.ref a)])) rfl (rest := []) rfl (hb hby d1_3) _ ?_
      rw [(show ca.slots.size.toInt32 = (3 : Int32) by rw [SA]; rfl)]
      show Steps p.tables e below (s₁.setTop (mkF m 4 #[.val (.double x), .second, .val (.ref a), .val (.double (0 : UInt64)), .second, .unset] [(.int (3 : Int32))])) _
      refine XS.iconst X0.here hx rfl (hb hby d1_4) ?_
      show Steps p.tables e below (s₁.setTop (mkF m 5 #[.val (.double x), .second, .val (.ref a), .val (.double (0 : UInt64)), .second, .unset] [(.int (1 : Int32)), (.int (3 : Int32))])) _
      refine XS.isub X0.here hx rfl (hb hby d1_5) rfl ?_
      rw [(show (3 : Int32) - (1 : Int32) = (2 : Int32) by decide)]
      show Steps p.tables e below (s₁.setTop (mkF m 6 #[.val (.double x), .second, .val (.ref a), .val (.double (0 : UInt64)), .second, .unset] [(.int (2 : Int32))])) _
      refine XS.istore X0.here hx rfl (hb hby d1_6) rfl (l' := #[.val (.double x), .second, .val (.ref a), .val (.double (0 : UInt64)), .second, .val (.int (2 : Int32))]) rfl ?_
      show Steps p.tables e below (s₁.setTop (mkF m 8 #[.val (.double x), .second, .val (.ref a), .val (.double (0 : UInt64)), .second, .val (.int (2 : Int32))] [])) _
      refine po_turn a x (0 : UInt64) (own_hr x f 3 1) (f 2) (2 : Int32) (1 : Int32) ca X0 hx hZ hw hby hown e0 A (by decide) (by rw [SA]; decide) (by rw [(show (2 : Int32).toNatClampNeg = 2 by decide)]; exact HA 2 (by decide)) (ok 0 (by decide)).1 (ok 0 (by decide)).2 rfl (by decide) _ ?_
      show Steps p.tables e below (s₁.setTop (mkF m 8 #[.val (.double x), .second, .val (.ref a), .val (.double (own_hr x f 3 1)), .second, .val (.int (1 : Int32))] [])) _
      refine po_turn a x (own_hr x f 3 1) (own_hr x f 3 2) (f 1) (1 : Int32) (0 : Int32) ca X0 hx hZ hw hby hown e0 A (by decide) (by rw [SA]; decide) (by rw [(show (1 : Int32).toNatClampNeg = 1 by decide)]; exact HA 1 (by decide)) (ok 1 (by decide)).1 (ok 1 (by decide)).2 rfl (by decide) _ ?_
      show Steps p.tables e below (s₁.setTop (mkF m 8 #[.val (.double x), .second, .val (.ref a), .val (.double (own_hr x f 3 2)), .second, .val (.int (0 : Int32))] [])) _
      refine po_turn a x (own_hr x f 3 2) (own_hr x f 3 3) (f 0) (0 : Int32) (-1 : Int32) ca X0 hx hZ hw hby hown e0 A (by decide) (by rw [SA]; decide) (by rw [(show (0 : Int32).toNatClampNeg = 0 by decide)]; exact HA 0 (by decide)) (ok 2 (by decide)).1 (ok 2 (by decide)).2 rfl (by decide) _ ?_
      show Steps p.tables e below (s₁.setTop (mkF m 8 #[.val (.double x), .second, .val (.ref a), .val (.double (own_hr x f 3 3)), .second, .val (.int (-1 : Int32))] [])) _
      refine XS.iload X0.here hx rfl (hb hby d1_8) rfl ?_
      show Steps p.tables e below (s₁.setTop (mkF m 10 #[.val (.double x), .second, .val (.ref a), .val (.double (own_hr x f 3 3)), .second, .val (.int (-1 : Int32))] [(.int (-1 : Int32))])) _
      refine XS.ifYes X0.here hx rfl (pc0 := 10) (pc' := 28) rfl (hb hby d1_10) rfl rfl (by decide) (by decide) ?_
      show Steps p.tables e below (s₁.setTop (mkF m 28 #[.val (.double x), .second, .val (.ref a), .val (.double (own_hr x f 3 3)), .second, .val (.int (-1 : Int32))] [])) _
      refine XS.dloadN X0.here hx rfl (hb hby d1_28) rfl ?_
      show Steps p.tables e below (s₁.setTop (mkF m 29 #[.val (.double x), .second, .val (.ref a), .val (.double (own_hr x f 3 3)), .second, .val (.int (-1 : Int32))] [(.double (own_hr x f 3 3))])) _
      exact Jvm.RoadKit.retD X0 hx Bd.returns (hb hby d1_29) hr
    · show QP (.double (own_hr x f 3 3)) h0 n0 _ s₁.heap _
      rw [e0]
      exact ⟨rfl, N0, rfl⟩
  · obtain ⟨fs, hr, hrun, hended, hW, hsame⟩ := X0.leave (v := some (.double (own_hr x f 4 4))) (fun h => by rw [Bd.returns] at h; cases h)
    refine ⟨_, _, pre0 _ ?_, hrun, hended, _, _, rfl, ?_, ⟨_, rfl⟩, hW, hsame.mono (by decide) (by decide)⟩
    · show Steps p.tables e below (s₁.setTop (mkF m 0 #[.val (.double x), .second, .val (.ref a), .unset, .unset, .unset] [])) _
      refine XS.dconst0 X0.here hx rfl (hb hby d1_0) (v := (0 : UInt64)) rfl ?_
      show Steps p.tables e below (s₁.setTop (mkF m 1 #[.val (.double x), .second, .val (.ref a), .unset, .unset, .unset] [(.double (0 : UInt64))])) _
      refine XS.dstoreN X0.here hx rfl (hb hby d1_1) rfl (l' := #[.val (.double x), .second, .val (.ref a), .val (.double (0 : UInt64)), .second, .unset]) rfl ?_
      show Steps p.tables e below (s₁.setTop (mkF m 2 #[.val (.double x), .second, .val (.ref a), .val (.double (0 : UInt64)), .second, .unset] [])) _
      refine XS.aloadN X0.here hx rfl (hb hby d1_2) rfl rfl ?_
      show Steps p.tables e below (s₁.setTop (mkF m 3 #[.val (.double x), .second, .val (.ref a), .val (.double (0 : UInt64)), .second, .unset] [(.ref a)])) _
      refine X0.arraylength hx (cell := ca) (by rw [e0]; exact A.1) (State.isArrayOf_alike hZ.alike A.2.1) (g := (mkF m 3 #[.val (.double x), .second, .val (.ref a), .val (.double (0 : UInt64)), .second, .unset] [(.ref a)])) rfl (rest := []) rfl (hb hby d1_3) _ ?_
      rw [(show ca.slots.size.toInt32 = (4 : Int32) by rw [SA]; rfl)]
      show Steps p.tables e below (s₁.setTop (mkF m 4 #[.val (.double x), .second, .val (.ref a), .val (.double (0 : UInt64)), .second, .unset] [(.int (4 : Int32))])) _
      refine XS.iconst X0.here hx rfl (hb hby d1_4) ?_
      show Steps p.tables e below (s₁.setTop (mkF m 5 #[.val (.double x), .second, .val (.ref a), .val (.double (0 : UInt64)), .second, .unset] [(.int (1 : Int32)), (.int (4 : Int32))])) _
      refine XS.isub X0.here hx rfl (hb hby d1_5) rfl ?_
      rw [(show (4 : Int32) - (1 : Int32) = (3 : Int32) by decide)]
      show Steps p.tables e below (s₁.setTop (mkF m 6 #[.val (.double x), .second, .val (.ref a), .val (.double (0 : UInt64)), .second, .unset] [(.int (3 : Int32))])) _
      refine XS.istore X0.here hx rfl (hb hby d1_6) rfl (l' := #[.val (.double x), .second, .val (.ref a), .val (.double (0 : UInt64)), .second, .val (.int (3 : Int32))]) rfl ?_
      show Steps p.tables e below (s₁.setTop (mkF m 8 #[.val (.double x), .second, .val (.ref a), .val (.double (0 : UInt64)), .second, .val (.int (3 : Int32))] [])) _
      refine po_turn a x (0 : UInt64) (own_hr x f 4 1) (f 3) (3 : Int32) (2 : Int32) ca X0 hx hZ hw hby hown e0 A (by decide) (by rw [SA]; decide) (by rw [(show (3 : Int32).toNatClampNeg = 3 by decide)]; exact HA 3 (by decide)) (ok 0 (by decide)).1 (ok 0 (by decide)).2 rfl (by decide) _ ?_
      show Steps p.tables e below (s₁.setTop (mkF m 8 #[.val (.double x), .second, .val (.ref a), .val (.double (own_hr x f 4 1)), .second, .val (.int (2 : Int32))] [])) _
      refine po_turn a x (own_hr x f 4 1) (own_hr x f 4 2) (f 2) (2 : Int32) (1 : Int32) ca X0 hx hZ hw hby hown e0 A (by decide) (by rw [SA]; decide) (by rw [(show (2 : Int32).toNatClampNeg = 2 by decide)]; exact HA 2 (by decide)) (ok 1 (by decide)).1 (ok 1 (by decide)).2 rfl (by decide) _ ?_
      show Steps p.tables e below (s₁.setTop (mkF m 8 #[.val (.double x), .second, .val (.ref a), .val (.double (own_hr x f 4 2)), .second, .val (.int (1 : Int32))] [])) _
      refine po_turn a x (own_hr x f 4 2) (own_hr x f 4 3) (f 1) (1 : Int32) (0 : Int32) ca X0 hx hZ hw hby hown e0 A (by decide) (by rw [SA]; decide) (by rw [(show (1 : Int32).toNatClampNeg = 1 by decide)]; exact HA 1 (by decide)) (ok 2 (by decide)).1 (ok 2 (by decide)).2 rfl (by decide) _ ?_
      show Steps p.tables e below (s₁.setTop (mkF m 8 #[.val (.double x), .second, .val (.ref a), .val (.double (own_hr x f 4 3)), .second, .val (.int (0 : Int32))] [])) _
      refine po_turn a x (own_hr x f 4 3) (own_hr x f 4 4) (f 0) (0 : Int32) (-1 : Int32) ca X0 hx hZ hw hby hown e0 A (by decide) (by rw [SA]; decide) (by rw [(show (0 : Int32).toNatClampNeg = 0 by decide)]; exact HA 0 (by decide)) (ok 3 (by decide)).1 (ok 3 (by decide)).2 rfl (by decide) _ ?_
      show Steps p.tables e below (s₁.setTop (mkF m 8 #[.val (.double x), .second, .val (.ref a), .val (.double (own_hr x f 4 4)), .second, .val (.int (-1 : Int32))] [])) _
      refine XS.iload X0.here hx rfl (hb hby d1_8) rfl ?_
      show Steps p.tables e below (s₁.setTop (mkF m 10 #[.val (.double x), .second, .val (.ref a), .val (.double (own_hr x f 4 4)), .second, .val (.int (-1 : Int32))] [(.int (-1 : Int32))])) _
      refine XS.ifYes X0.here hx rfl (pc0 := 10) (pc' := 28) rfl (hb hby d1_10) rfl rfl (by decide) (by decide) ?_
      show Steps p.tables e below (s₁.setTop (mkF m 28 #[.val (.double x), .second, .val (.ref a), .val (.double (own_hr x f 4 4)), .second, .val (.int (-1 : Int32))] [])) _
      refine XS.dloadN X0.here hx rfl (hb hby d1_28) rfl ?_
      show Steps p.tables e below (s₁.setTop (mkF m 29 #[.val (.double x), .second, .val (.ref a), .val (.double (own_hr x f 4 4)), .second, .val (.int (-1 : Int32))] [(.double (own_hr x f 4 4))])) _
      exact Jvm.RoadKit.retD X0 hx Bd.returns (hb hby d1_29) hr
    · show QP (.double (own_hr x f 4 4)) h0 n0 _ s₁.heap _
      rw [e0]
      exact ⟨rfl, N0, rfl⟩
theorem ef_rm0 (m : MethodId) (xs : Int32) (nn : Int32) (cf0 : Int32) (cf1 : Int32) (cf2 : Int32) (cf3 : Int32) : entryFrame m #[(.int xs), (.int nn), (.int cf0), (.int cf1), (.int cf2), (.int cf3)] maxLocals = mkF m 0 #[.val (.int xs), .val (.int nn), .val (.int cf0), .val (.int cf1), .val (.int cf2), .val (.int cf3), .unset, .unset, .unset, .unset, .unset, .unset, .unset, .unset] [] := by first | (simp [entryFrame, mkF, argsToLocals, Value.category, maxLocals]; done) | rfl
set_option maxRecDepth 65536 in
set_option maxHeartbeats 40000000 in
theorem rm0 (l : Launch) (Z : State) (a0 : Array Value) (hw : ∀ d ∈ tables_1, d.before a0 Z = true) (ws : List Jvm.Cond) (xs : Int32) (nn : Int32) (cf0 : Int32) (cf1 : Int32) (cf2 : Int32) (cf3 : Int32) (h0 : Heap) (n0 : Nat) (Z0 : n0 ≤ h0.size)  :
    MetFree l x (head1 (Jvm.Cond.code x code maxLocals ret :: ws) room_1) (fun a_ U_ => a_ = #[(.int xs), (.int nn), (.int cf0), (.int cf1), (.int cf2), (.int cf3)] ∧ Z.Warmed39 U_.vm ∧ U_.heap = h0) (fun _ _ _ _ _ => True) (fun _ U_ o_ V_ => ∃ v_ L_, o_ = .returned v_ ∧ QL n0 v_ V_.heap L_ ∧ FrameEnd U_ o_ V_ L_ room_1.cells room_1.slots) := by
  refine MetFree.of_bodySF (plainFor_of_name pn_1) hisR ?_
  intro p e s m args below meth c s₁ Bd hml0 hP hK
  obtain ⟨rfl, hZ, hh⟩ := hP
  have hx := Bd.exec
  have hby := Bd.bytes
  have hml : c.maxLocals = 14 := hml0
  have hown : s.vm.findClass "com/example/helioarc/helioarc/SpaPolynomialPinLaw" = some m.cls := findClass_of_methodNamed Bd.named
  have hnm := (name_of_methodNamed Bd.named Bd.method).1
  have X0 : Stand p l e room_1 s m #[(.int xs), (.int nn), (.int cf0), (.int cf1), (.int cf2), (.int cf3)] below meth c s₁ [] 0 0 := Stand.of_body Bd
  have e0 : s₁.heap = h0 := by rw [← hh, Bd.state]; rfl
  have N0 := Fr.nil n0
  have pre0 : ∀ t, Steps p.tables e below (s₁.setTop (mkF m 0 #[.val (.int xs), .val (.int nn), .val (.int cf0), .val (.int cf1), .val (.int cf2), .val (.int cf3), .unset, .unset, .unset, .unset, .unset, .unset, .unset, .unset] [])) t → Steps p.tables e below (s₁.setTop (entryFrame m #[(.int xs), (.int nn), (.int cf0), (.int cf1), (.int cf2), (.int cf3)] maxLocals)) t := fun t_ k_ => castTop (ef_rm0 m xs nn cf0 cf1 cf2 cf3) k_
  obtain ⟨x, hx0, x1⟩ := own_x xs
  have hX : x.toInt64.toInt = x.toInt := c_i2l x
  have x1' : x.toInt64.toInt.natAbs ≤ 128 := by rw [hX]; exact x1
  have dx := Jvm.FP.Core.l2d_int (a := x.toInt64) (by omega)
  rw [hX] at dx
  have k0 := own_i32 cf0
  have k1 := own_i32 cf1
  have k2 := own_i32 cf2
  have k3 := own_i32 cf3
  have d0 := Jvm.FP.Core.i2d_int cf0
  have d1 := Jvm.FP.Core.i2d_int cf1
  have d2 := Jvm.FP.Core.i2d_int cf2
  have d3 := Jvm.FP.Core.i2d_int cf3
  have e0' : cf0.toInt64.toInt = cf0.toInt := c_i2l cf0
  have e1' : cf1.toInt64.toInt = cf1.toInt := c_i2l cf1
  have e2' : cf2.toInt64.toInt = cf2.toInt := c_i2l cf2
  have e3' : cf3.toInt64.toInt = cf3.toInt := c_i2l cf3
  have b1 := own_pb k1 x1
  have b2 := own_pb k2 x1
  have b3 := own_pb k3 x1
  have b22 := own_pb b2 x1
  have b32 := own_pb b3 x1
  have b33 := own_pb b32 x1
  have p1 : (cf1.toInt64 * x.toInt64).toInt = cf1.toInt * x.toInt := by rw [own_lm (A := 2147483648) (B := 128) (by rw [e1']; exact k1) x1' (by decide), e1', hX]
  have p2 : (cf2.toInt64 * x.toInt64).toInt = cf2.toInt * x.toInt := by rw [own_lm (A := 2147483648) (B := 128) (by rw [e2']; exact k2) x1' (by decide), e2', hX]
  have p22 : (cf2.toInt64 * x.toInt64 * x.toInt64).toInt = cf2.toInt * x.toInt * x.toInt := by rw [own_lm (A := 2147483648 * 128) (B := 128) (by rw [p2]; exact b2) x1' (by decide), p2, hX]
  have p3 : (cf3.toInt64 * x.toInt64).toInt = cf3.toInt * x.toInt := by rw [own_lm (A := 2147483648) (B := 128) (by rw [e3']; exact k3) x1' (by decide), e3', hX]
  have p32 : (cf3.toInt64 * x.toInt64 * x.toInt64).toInt = cf3.toInt * x.toInt * x.toInt := by rw [own_lm (A := 2147483648 * 128) (B := 128) (by rw [p3]; exact b3) x1' (by decide), p3, hX]
  have p33 : (cf3.toInt64 * x.toInt64 * x.toInt64 * x.toInt64).toInt = cf3.toInt * x.toInt * x.toInt * x.toInt := by rw [own_lm (A := 2147483648 * 128 * 128) (B := 128) (by rw [p32]; exact b32) x1' (by decide), p32, hX]
  have zz : (0 : Int64).toInt = 0 := by decide
  obtain ⟨u1, hu1⟩ : ∃ v, (0 : Int64) + cf0.toInt64 = v := ⟨_, rfl⟩
  have j1 : u1.toInt = cf0.toInt := by rw [← hu1, own_la (A := 0) (B := 2147483648) (by rw [zz]; decide) (by rw [e0']; exact k0) (by decide), zz, e0']; omega
  obtain ⟨u2, hu2⟩ : ∃ v, u1 + cf1.toInt64 * x.toInt64 = v := ⟨_, rfl⟩
  have j2 : u2.toInt = cf0.toInt + cf1.toInt * x.toInt := by rw [← hu2, own_la (A := 2147483648) (B := 2147483648 * 128) (by rw [j1]; exact k0) (by rw [p1]; exact b1) (by decide), j1, p1]
  obtain ⟨u3, hu3⟩ : ∃ v, u2 + cf2.toInt64 * x.toInt64 * x.toInt64 = v := ⟨_, rfl⟩
  have j3 : u3.toInt = cf0.toInt + cf1.toInt * x.toInt + cf2.toInt * x.toInt * x.toInt := by rw [← hu3, own_la (A := 2147483648 + 2147483648 * 128) (B := 2147483648 * 128 * 128) (by rw [j2]; exact own_ad k0 b1) (by rw [p22]; exact b22) (by decide), j2, p22]
  obtain ⟨u4, hu4⟩ : ∃ v, u3 + cf3.toInt64 * x.toInt64 * x.toInt64 * x.toInt64 = v := ⟨_, rfl⟩
  have j4 : u4.toInt = cf0.toInt + cf1.toInt * x.toInt + cf2.toInt * x.toInt * x.toInt + cf3.toInt * x.toInt * x.toInt * x.toInt := by rw [← hu4, own_la (A := 2147483648 + 2147483648 * 128 + 2147483648 * 128 * 128) (B := 2147483648 * 128 * 128 * 128) (by rw [j3]; exact own_ad (own_ad k0 b1) b22) (by rw [p33]; exact b33) (by decide), j3, p33]
  obtain ⟨X, hXd⟩ : ∃ v, FP.l2d x.toInt64 = v := ⟨_, rfl⟩
  rw [show Jvm.FP.Core.l2d x.toInt64 = FP.l2d x.toInt64 from rfl, hXd] at dx
  rcases own_n nn with hn | hn | hn | hn | hn
  · have w0 : Jvm.FP.Core.DInt 0 (own_hr X (own_pf cf0 cf1 cf2 cf3) 0 0) := Jvm.Own.DI.zero
    have y0 : (0 : Int).natAbs ≤ 0 := by decide
    have ok : ∀ k, k < 0 → Jvm.Free.Fl.NoNaN64 (FP.dmul (own_hr X (own_pf cf0 cf1 cf2 cf3) 0 k) X) ∧ Jvm.Free.Fl.NoNaN64 (own_hr X (own_pf cf0 cf1 cf2 cf3) 0 (k + 1)) := by
      intro k hk
      omega
    obtain ⟨T1, h1, k1, X1, e1, E1, A1, st1⟩ := newP X0 hx hZ (aty := .double) (hw _ (List.mem_of_getElem? (i := 0) rfl)) e0 (g := (mkF m 20 #[.val (.int xs), .val (.int nn), .val (.int cf0), .val (.int cf1), .val (.int cf2), .val (.int cf3), .val (.int (0 : Int32)), .val (.long x.toInt64), .second, .unset, .unset, .unset, .unset, .unset] [(.int (0 : Int32))])) rfl (hb hby at_20) rfl (by decide) (cap := 0) (by decide) (by decide) (by decide) (by decide)
    obtain ⟨a1, g1⟩ : ∃ z, z = h0.size := ⟨_, rfl⟩
    rw [← g1] at A1 st1
    have F1 : Jvm.Own.DA Z h1 a1 0 (fun _ => 0) := Jvm.Own.DA.new A1 (by decide)
    have gA : n0 ≤ a1 := Nat.le_trans Z0 (Nat.le_of_eq g1.symm)
    have Z1 : n0 ≤ h1.size := Nat.le_trans Z0 E1.1
    have GA : Jvm.Own.DA Z h1 a1 0 (own_pf cf0 cf1 cf2 cf3) := F1.of (by intro i hi; omega)
    obtain ⟨_, _, ⟨T7, L7, k7, n7⟩, -, X7, ⟨Lc7, hQ7, l7, y7, z7⟩, st7⟩ := Jvm.LawKit.callS X1 hx (y := (⟨"com/example/helioarc/helioarc/Spa", "polynomial", "(D[D)D"⟩ : MethodName)) hown (mvT hZ (hw _ (List.mem_of_getElem? (i := 1) rfl))) (mvT hZ (hw _ (List.mem_of_getElem? (i := 2) rfl))) (mvT hZ (hw _ (List.mem_of_getElem? (i := 3) rfl))) (mvT hZ (hw _ (List.mem_of_getElem? (i := 4) rfl))) (by decide) (backOf (W := 0) (rmPo l Z a0 hw [] X a1 h1 n0 Z1 0 (own_pf cf0 cf1 cf2 cf3) (by simp) GA ok) hZ (hw _ (List.mem_of_getElem? (i := 4) rfl)) (hw _ (List.mem_of_getElem? (i := 3) rfl)) (by decide) (by decide)) (g := (mkF m 152 #[.val (.int xs), .val (.int nn), .val (.int cf0), .val (.int cf1), .val (.int cf2), .val (.int cf3), .val (.int (0 : Int32)), .val (.long x.toInt64), .second, .val (.ref a1), .val (.long (0 : Int64)), .second, .unset, .unset] [(.ref a1), (.double X)])) rfl (by rw [hml]; rfl) (argsL := [(.double X), (.ref a1)]) (rest := []) (lenOf pd_0 rfl) rfl (by show 2 * 0 + _ ≤ _; exact Nat.le_of_eq rfl) (hb hby at_152) (fun _ _ => ⟨rfl, e1, (by decide : 1 + 0 ≤ _), (by decide : 0 + 0 ≤ _)⟩)
    dsimp only [Pt.U, Pt.locs, Pt.cells, Pt.slots] at X7 l7 y7 z7 st7 hQ7
    subst l7 y7 z7
    obtain ⟨rfl, N7, e7⟩ := hQ7
    have fin : ifCond.holds .ne (Jvm.Op.cmpValue (FP.dcmp (own_hr X (own_pf cf0 cf1 cf2 cf3) 0 0) (FP.l2d (0 : Int64))) .l) = false := (Jvm.Own.holdsW w0 (Jvm.FP.Core.l2d_int (a := (0 : Int64)) (by decide)) _ _).trans (by decide)
    obtain ⟨fs, hr, hrun, hended, hW, hsame⟩ := X7.leave (v := some (.int (1 : Int32))) (fun h => by rw [Bd.returns] at h; cases h)
    refine ⟨_, _, pre0 _ ?_, hrun, hended, _, _, rfl, ?_, ⟨_, rfl⟩, hW, hsame.mono (by decide) (by decide)⟩
    · show Steps p.tables e below (s₁.setTop (mkF m 0 #[.val (.int xs), .val (.int nn), .val (.int cf0), .val (.int cf1), .val (.int cf2), .val (.int cf3), .unset, .unset, .unset, .unset, .unset, .unset, .unset, .unset] [])) _
      refine XS.iloadN X0.here hx rfl (hb hby at_0) rfl ?_
      show Steps p.tables e below (s₁.setTop (mkF m 1 #[.val (.int xs), .val (.int nn), .val (.int cf0), .val (.int cf1), .val (.int cf2), .val (.int cf3), .unset, .unset, .unset, .unset, .unset, .unset, .unset, .unset] [(.int nn)])) _
      refine XS.bipush X0.here hx rfl (hb hby at_1) ?_
      show Steps p.tables e below (s₁.setTop (mkF m 3 #[.val (.int xs), .val (.int nn), .val (.int cf0), .val (.int cf1), .val (.int cf2), .val (.int cf3), .unset, .unset, .unset, .unset, .unset, .unset, .unset, .unset] [(.int (7 : Int32)), (.int nn)])) _
      refine XS.iand X0.here hx rfl (hb hby at_3) rfl ?_
      show Steps p.tables e below (s₁.setTop (mkF m 4 #[.val (.int xs), .val (.int nn), .val (.int cf0), .val (.int cf1), .val (.int cf2), .val (.int cf3), .unset, .unset, .unset, .unset, .unset, .unset, .unset, .unset] [(.int (nn &&& (7 : Int32)))])) _
      refine XS.iconst X0.here hx rfl (hb hby at_4) ?_
      show Steps p.tables e below (s₁.setTop (mkF m 5 #[.val (.int xs), .val (.int nn), .val (.int cf0), .val (.int cf1), .val (.int cf2), .val (.int cf3), .unset, .unset, .unset, .unset, .unset, .unset, .unset, .unset] [(.int (5 : Int32)), (.int (nn &&& (7 : Int32)))])) _
      refine XS.irem X0.here hx rfl (hb hby at_5) rfl (by decide) ?_
      rw [hn]
      show Steps p.tables e below (s₁.setTop (mkF m 6 #[.val (.int xs), .val (.int nn), .val (.int cf0), .val (.int cf1), .val (.int cf2), .val (.int cf3), .unset, .unset, .unset, .unset, .unset, .unset, .unset, .unset] [(.int (0 : Int32))])) _
      refine XS.istore X0.here hx rfl (hb hby at_6) rfl (l' := #[.val (.int xs), .val (.int nn), .val (.int cf0), .val (.int cf1), .val (.int cf2), .val (.int cf3), .val (.int (0 : Int32)), .unset, .unset, .unset, .unset, .unset, .unset, .unset]) rfl ?_
      show Steps p.tables e below (s₁.setTop (mkF m 8 #[.val (.int xs), .val (.int nn), .val (.int cf0), .val (.int cf1), .val (.int cf2), .val (.int cf3), .val (.int (0 : Int32)), .unset, .unset, .unset, .unset, .unset, .unset, .unset] [])) _
      refine XS.iloadN X0.here hx rfl (hb hby at_8) rfl ?_
      show Steps p.tables e below (s₁.setTop (mkF m 9 #[.val (.int xs), .val (.int nn), .val (.int cf0), .val (.int cf1), .val (.int cf2), .val (.int cf3), .val (.int (0 : Int32)), .unset, .unset, .unset, .unset, .unset, .unset, .unset] [(.int xs)])) _
      refine XS.bipush X0.here hx rfl (hb hby at_9) ?_
      show Steps p.tables e below (s₁.setTop (mkF m 11 #[.val (.int xs), .val (.int nn), .val (.int cf0), .val (.int cf1), .val (.int cf2), .val (.int cf3), .val (.int (0 : Int32)), .unset, .unset, .unset, .unset, .unset, .unset, .unset] [(.int (24 : Int32)), (.int xs)])) _
      refine XS.ishl X0.here hx rfl (hb hby at_11) rfl ?_
      show Steps p.tables e below (s₁.setTop (mkF m 12 #[.val (.int xs), .val (.int nn), .val (.int cf0), .val (.int cf1), .val (.int cf2), .val (.int cf3), .val (.int (0 : Int32)), .unset, .unset, .unset, .unset, .unset, .unset, .unset] [(.int (xs <<< ((24 : Int32) &&& 31)))])) _
      refine XS.bipush X0.here hx rfl (hb hby at_12) ?_
      show Steps p.tables e below (s₁.setTop (mkF m 14 #[.val (.int xs), .val (.int nn), .val (.int cf0), .val (.int cf1), .val (.int cf2), .val (.int cf3), .val (.int (0 : Int32)), .unset, .unset, .unset, .unset, .unset, .unset, .unset] [(.int (24 : Int32)), (.int (xs <<< ((24 : Int32) &&& 31)))])) _
      refine XS.ishr X0.here hx rfl (hb hby at_14) rfl ?_
      rw [hx0]
      show Steps p.tables e below (s₁.setTop (mkF m 15 #[.val (.int xs), .val (.int nn), .val (.int cf0), .val (.int cf1), .val (.int cf2), .val (.int cf3), .val (.int (0 : Int32)), .unset, .unset, .unset, .unset, .unset, .unset, .unset] [(.int x)])) _
      refine XS.i2l X0.here hx rfl (hb hby at_15) rfl ?_
      show Steps p.tables e below (s₁.setTop (mkF m 16 #[.val (.int xs), .val (.int nn), .val (.int cf0), .val (.int cf1), .val (.int cf2), .val (.int cf3), .val (.int (0 : Int32)), .unset, .unset, .unset, .unset, .unset, .unset, .unset] [(.long x.toInt64)])) _
      refine XS.lstore X0.here hx rfl (hb hby at_16) rfl (l' := #[.val (.int xs), .val (.int nn), .val (.int cf0), .val (.int cf1), .val (.int cf2), .val (.int cf3), .val (.int (0 : Int32)), .val (.long x.toInt64), .second, .unset, .unset, .unset, .unset, .unset]) rfl ?_
      show Steps p.tables e below (s₁.setTop (mkF m 18 #[.val (.int xs), .val (.int nn), .val (.int cf0), .val (.int cf1), .val (.int cf2), .val (.int cf3), .val (.int (0 : Int32)), .val (.long x.toInt64), .second, .unset, .unset, .unset, .unset, .unset] [])) _
      refine XS.iload X0.here hx rfl (hb hby at_18) rfl ?_
      show Steps p.tables e below (s₁.setTop (mkF m 20 #[.val (.int xs), .val (.int nn), .val (.int cf0), .val (.int cf1), .val (.int cf2), .val (.int cf3), .val (.int (0 : Int32)), .val (.long x.toInt64), .second, .unset, .unset, .unset, .unset, .unset] [(.int (0 : Int32))])) _
      refine st1 _ ?_
      show Steps p.tables e below (T1.setTop (mkF m 22 #[.val (.int xs), .val (.int nn), .val (.int cf0), .val (.int cf1), .val (.int cf2), .val (.int cf3), .val (.int (0 : Int32)), .val (.long x.toInt64), .second, .unset, .unset, .unset, .unset, .unset] [(.ref a1)])) _
      refine XS.astore X1.here hx rfl (hb hby at_22) rfl rfl (l' := #[.val (.int xs), .val (.int nn), .val (.int cf0), .val (.int cf1), .val (.int cf2), .val (.int cf3), .val (.int (0 : Int32)), .val (.long x.toInt64), .second, .val (.ref a1), .unset, .unset, .unset, .unset]) rfl ?_
      show Steps p.tables e below (T1.setTop (mkF m 24 #[.val (.int xs), .val (.int nn), .val (.int cf0), .val (.int cf1), .val (.int cf2), .val (.int cf3), .val (.int (0 : Int32)), .val (.long x.toInt64), .second, .val (.ref a1), .unset, .unset, .unset, .unset] [])) _
      refine XS.iload X1.here hx rfl (hb hby at_24) rfl ?_
      show Steps p.tables e below (T1.setTop (mkF m 26 #[.val (.int xs), .val (.int nn), .val (.int cf0), .val (.int cf1), .val (.int cf2), .val (.int cf3), .val (.int (0 : Int32)), .val (.long x.toInt64), .second, .val (.ref a1), .unset, .unset, .unset, .unset] [(.int (0 : Int32))])) _
      refine XS.ifYes X1.here hx rfl (pc0 := 26) (pc' := 35) rfl (hb hby at_26) rfl rfl (by decide) (by decide) ?_
      show Steps p.tables e below (T1.setTop (mkF m 35 #[.val (.int xs), .val (.int nn), .val (.int cf0), .val (.int cf1), .val (.int cf2), .val (.int cf3), .val (.int (0 : Int32)), .val (.long x.toInt64), .second, .val (.ref a1), .unset, .unset, .unset, .unset] [])) _
      refine XS.iload X1.here hx rfl (hb hby at_35) rfl ?_
      show Steps p.tables e below (T1.setTop (mkF m 37 #[.val (.int xs), .val (.int nn), .val (.int cf0), .val (.int cf1), .val (.int cf2), .val (.int cf3), .val (.int (0 : Int32)), .val (.long x.toInt64), .second, .val (.ref a1), .unset, .unset, .unset, .unset] [(.int (0 : Int32))])) _
      refine XS.iconst X1.here hx rfl (hb hby at_37) ?_
      show Steps p.tables e below (T1.setTop (mkF m 38 #[.val (.int xs), .val (.int nn), .val (.int cf0), .val (.int cf1), .val (.int cf2), .val (.int cf3), .val (.int (0 : Int32)), .val (.long x.toInt64), .second, .val (.ref a1), .unset, .unset, .unset, .unset] [(.int (1 : Int32)), (.int (0 : Int32))])) _
      refine XS.icmpYes X1.here hx rfl (pc0 := 38) (pc' := 47) rfl (hb hby at_38) rfl rfl (by decide) (by decide) ?_
      show Steps p.tables e below (T1.setTop (mkF m 47 #[.val (.int xs), .val (.int nn), .val (.int cf0), .val (.int cf1), .val (.int cf2), .val (.int cf3), .val (.int (0 : Int32)), .val (.long x.toInt64), .second, .val (.ref a1), .unset, .unset, .unset, .unset] [])) _
      refine XS.iload X1.here hx rfl (hb hby at_47) rfl ?_
      show Steps p.tables e below (T1.setTop (mkF m 49 #[.val (.int xs), .val (.int nn), .val (.int cf0), .val (.int cf1), .val (.int cf2), .val (.int cf3), .val (.int (0 : Int32)), .val (.long x.toInt64), .second, .val (.ref a1), .unset, .unset, .unset, .unset] [(.int (0 : Int32))])) _
      refine XS.iconst X1.here hx rfl (hb hby at_49) ?_
      show Steps p.tables e below (T1.setTop (mkF m 50 #[.val (.int xs), .val (.int nn), .val (.int cf0), .val (.int cf1), .val (.int cf2), .val (.int cf3), .val (.int (0 : Int32)), .val (.long x.toInt64), .second, .val (.ref a1), .unset, .unset, .unset, .unset] [(.int (2 : Int32)), (.int (0 : Int32))])) _
      refine XS.icmpYes X1.here hx rfl (pc0 := 50) (pc' := 60) rfl (hb hby at_50) rfl rfl (by decide) (by decide) ?_
      show Steps p.tables e below (T1.setTop (mkF m 60 #[.val (.int xs), .val (.int nn), .val (.int cf0), .val (.int cf1), .val (.int cf2), .val (.int cf3), .val (.int (0 : Int32)), .val (.long x.toInt64), .second, .val (.ref a1), .unset, .unset, .unset, .unset] [])) _
      refine XS.iload X1.here hx rfl (hb hby at_60) rfl ?_
      show Steps p.tables e below (T1.setTop (mkF m 62 #[.val (.int xs), .val (.int nn), .val (.int cf0), .val (.int cf1), .val (.int cf2), .val (.int cf3), .val (.int (0 : Int32)), .val (.long x.toInt64), .second, .val (.ref a1), .unset, .unset, .unset, .unset] [(.int (0 : Int32))])) _
      refine XS.iconst X1.here hx rfl (hb hby at_62) ?_
      show Steps p.tables e below (T1.setTop (mkF m 63 #[.val (.int xs), .val (.int nn), .val (.int cf0), .val (.int cf1), .val (.int cf2), .val (.int cf3), .val (.int (0 : Int32)), .val (.long x.toInt64), .second, .val (.ref a1), .unset, .unset, .unset, .unset] [(.int (3 : Int32)), (.int (0 : Int32))])) _
      refine XS.icmpYes X1.here hx rfl (pc0 := 63) (pc' := 73) rfl (hb hby at_63) rfl rfl (by decide) (by decide) ?_
      show Steps p.tables e below (T1.setTop (mkF m 73 #[.val (.int xs), .val (.int nn), .val (.int cf0), .val (.int cf1), .val (.int cf2), .val (.int cf3), .val (.int (0 : Int32)), .val (.long x.toInt64), .second, .val (.ref a1), .unset, .unset, .unset, .unset] [])) _
      refine XS.lconst X1.here hx rfl (hb hby at_73) ?_
      show Steps p.tables e below (T1.setTop (mkF m 74 #[.val (.int xs), .val (.int nn), .val (.int cf0), .val (.int cf1), .val (.int cf2), .val (.int cf3), .val (.int (0 : Int32)), .val (.long x.toInt64), .second, .val (.ref a1), .unset, .unset, .unset, .unset] [(.long (0 : Int64))])) _
      refine XS.lstore X1.here hx rfl (hb hby at_74) rfl (l' := #[.val (.int xs), .val (.int nn), .val (.int cf0), .val (.int cf1), .val (.int cf2), .val (.int cf3), .val (.int (0 : Int32)), .val (.long x.toInt64), .second, .val (.ref a1), .val (.long (0 : Int64)), .second, .unset, .unset]) rfl ?_
      show Steps p.tables e below (T1.setTop (mkF m 76 #[.val (.int xs), .val (.int nn), .val (.int cf0), .val (.int cf1), .val (.int cf2), .val (.int cf3), .val (.int (0 : Int32)), .val (.long x.toInt64), .second, .val (.ref a1), .val (.long (0 : Int64)), .second, .unset, .unset] [])) _
      refine XS.iload X1.here hx rfl (hb hby at_76) rfl ?_
      show Steps p.tables e below (T1.setTop (mkF m 78 #[.val (.int xs), .val (.int nn), .val (.int cf0), .val (.int cf1), .val (.int cf2), .val (.int cf3), .val (.int (0 : Int32)), .val (.long x.toInt64), .second, .val (.ref a1), .val (.long (0 : Int64)), .second, .unset, .unset] [(.int (0 : Int32))])) _
      refine XS.ifYes X1.here hx rfl (pc0 := 78) (pc' := 88) rfl (hb hby at_78) rfl rfl (by decide) (by decide) ?_
      show Steps p.tables e below (T1.setTop (mkF m 88 #[.val (.int xs), .val (.int nn), .val (.int cf0), .val (.int cf1), .val (.int cf2), .val (.int cf3), .val (.int (0 : Int32)), .val (.long x.toInt64), .second, .val (.ref a1), .val (.long (0 : Int64)), .second, .unset, .unset] [])) _
      refine XS.iload X1.here hx rfl (hb hby at_88) rfl ?_
      show Steps p.tables e below (T1.setTop (mkF m 90 #[.val (.int xs), .val (.int nn), .val (.int cf0), .val (.int cf1), .val (.int cf2), .val (.int cf3), .val (.int (0 : Int32)), .val (.long x.toInt64), .second, .val (.ref a1), .val (.long (0 : Int64)), .second, .unset, .unset] [(.int (0 : Int32))])) _
      refine XS.iconst X1.here hx rfl (hb hby at_90) ?_
      show Steps p.tables e below (T1.setTop (mkF m 91 #[.val (.int xs), .val (.int nn), .val (.int cf0), .val (.int cf1), .val (.int cf2), .val (.int cf3), .val (.int (0 : Int32)), .val (.long x.toInt64), .second, .val (.ref a1), .val (.long (0 : Int64)), .second, .unset, .unset] [(.int (1 : Int32)), (.int (0 : Int32))])) _
      refine XS.icmpYes X1.here hx rfl (pc0 := 91) (pc' := 104) rfl (hb hby at_91) rfl rfl (by decide) (by decide) ?_
      show Steps p.tables e below (T1.setTop (mkF m 104 #[.val (.int xs), .val (.int nn), .val (.int cf0), .val (.int cf1), .val (.int cf2), .val (.int cf3), .val (.int (0 : Int32)), .val (.long x.toInt64), .second, .val (.ref a1), .val (.long (0 : Int64)), .second, .unset, .unset] [])) _
      refine XS.iload X1.here hx rfl (hb hby at_104) rfl ?_
      show Steps p.tables e below (T1.setTop (mkF m 106 #[.val (.int xs), .val (.int nn), .val (.int cf0), .val (.int cf1), .val (.int cf2), .val (.int cf3), .val (.int (0 : Int32)), .val (.long x.toInt64), .second, .val (.ref a1), .val (.long (0 : Int64)), .second, .unset, .unset] [(.int (0 : Int32))])) _
      refine XS.iconst X1.here hx rfl (hb hby at_106) ?_
      show Steps p.tables e below (T1.setTop (mkF m 107 #[.val (.int xs), .val (.int nn), .val (.int cf0), .val (.int cf1), .val (.int cf2), .val (.int cf3), .val (.int (0 : Int32)), .val (.long x.toInt64), .second, .val (.ref a1), .val (.long (0 : Int64)), .second, .unset, .unset] [(.int (2 : Int32)), (.int (0 : Int32))])) _
      refine XS.icmpYes X1.here hx rfl (pc0 := 107) (pc' := 124) rfl (hb hby at_107) rfl rfl (by decide) (by decide) ?_
      show Steps p.tables e below (T1.setTop (mkF m 124 #[.val (.int xs), .val (.int nn), .val (.int cf0), .val (.int cf1), .val (.int cf2), .val (.int cf3), .val (.int (0 : Int32)), .val (.long x.toInt64), .second, .val (.ref a1), .val (.long (0 : Int64)), .second, .unset, .unset] [])) _
      refine XS.iload X1.here hx rfl (hb hby at_124) rfl ?_
      show Steps p.tables e below (T1.setTop (mkF m 126 #[.val (.int xs), .val (.int nn), .val (.int cf0), .val (.int cf1), .val (.int cf2), .val (.int cf3), .val (.int (0 : Int32)), .val (.long x.toInt64), .second, .val (.ref a1), .val (.long (0 : Int64)), .second, .unset, .unset] [(.int (0 : Int32))])) _
      refine XS.iconst X1.here hx rfl (hb hby at_126) ?_
      show Steps p.tables e below (T1.setTop (mkF m 127 #[.val (.int xs), .val (.int nn), .val (.int cf0), .val (.int cf1), .val (.int cf2), .val (.int cf3), .val (.int (0 : Int32)), .val (.long x.toInt64), .second, .val (.ref a1), .val (.long (0 : Int64)), .second, .unset, .unset] [(.int (3 : Int32)), (.int (0 : Int32))])) _
      refine XS.icmpYes X1.here hx rfl (pc0 := 127) (pc' := 147) rfl (hb hby at_127) rfl rfl (by decide) (by decide) ?_
      show Steps p.tables e below (T1.setTop (mkF m 147 #[.val (.int xs), .val (.int nn), .val (.int cf0), .val (.int cf1), .val (.int cf2), .val (.int cf3), .val (.int (0 : Int32)), .val (.long x.toInt64), .second, .val (.ref a1), .val (.long (0 : Int64)), .second, .unset, .unset] [])) _
      refine XS.lload X1.here hx rfl (hb hby at_147) rfl ?_
      show Steps p.tables e below (T1.setTop (mkF m 149 #[.val (.int xs), .val (.int nn), .val (.int cf0), .val (.int cf1), .val (.int cf2), .val (.int cf3), .val (.int (0 : Int32)), .val (.long x.toInt64), .second, .val (.ref a1), .val (.long (0 : Int64)), .second, .unset, .unset] [(.long x.toInt64)])) _
      refine XS.l2dS X1.here hx rfl (hb hby at_149) rfl (v := X) hXd ?_
      show Steps p.tables e below (T1.setTop (mkF m 150 #[.val (.int xs), .val (.int nn), .val (.int cf0), .val (.int cf1), .val (.int cf2), .val (.int cf3), .val (.int (0 : Int32)), .val (.long x.toInt64), .second, .val (.ref a1), .val (.long (0 : Int64)), .second, .unset, .unset] [(.double X)])) _
      refine XS.aload X1.here hx rfl (hb hby at_150) rfl rfl ?_
      show Steps p.tables e below (T1.setTop (mkF m 152 #[.val (.int xs), .val (.int nn), .val (.int cf0), .val (.int cf1), .val (.int cf2), .val (.int cf3), .val (.int (0 : Int32)), .val (.long x.toInt64), .second, .val (.ref a1), .val (.long (0 : Int64)), .second, .unset, .unset] [(.ref a1), (.double X)])) _
      refine st7 _ ?_
      show Steps p.tables e below (T7.setTop (mkF m 155 #[.val (.int xs), .val (.int nn), .val (.int cf0), .val (.int cf1), .val (.int cf2), .val (.int cf3), .val (.int (0 : Int32)), .val (.long x.toInt64), .second, .val (.ref a1), .val (.long (0 : Int64)), .second, .unset, .unset] [(.double (own_hr X (own_pf cf0 cf1 cf2 cf3) 0 0))])) _
      refine XS.dstore X7.here hx rfl (hb hby at_155) rfl (l' := #[.val (.int xs), .val (.int nn), .val (.int cf0), .val (.int cf1), .val (.int cf2), .val (.int cf3), .val (.int (0 : Int32)), .val (.long x.toInt64), .second, .val (.ref a1), .val (.long (0 : Int64)), .second, .val (.double (own_hr X (own_pf cf0 cf1 cf2 cf3) 0 0)), .second]) rfl ?_
      show Steps p.tables e below (T7.setTop (mkF m 157 #[.val (.int xs), .val (.int nn), .val (.int cf0), .val (.int cf1), .val (.int cf2), .val (.int cf3), .val (.int (0 : Int32)), .val (.long x.toInt64), .second, .val (.ref a1), .val (.long (0 : Int64)), .second, .val (.double (own_hr X (own_pf cf0 cf1 cf2 cf3) 0 0)), .second] [])) _
      refine XS.dload X7.here hx rfl (hb hby at_157) rfl ?_
      show Steps p.tables e below (T7.setTop (mkF m 159 #[.val (.int xs), .val (.int nn), .val (.int cf0), .val (.int cf1), .val (.int cf2), .val (.int cf3), .val (.int (0 : Int32)), .val (.long x.toInt64), .second, .val (.ref a1), .val (.long (0 : Int64)), .second, .val (.double (own_hr X (own_pf cf0 cf1 cf2 cf3) 0 0)), .second] [(.double (own_hr X (own_pf cf0 cf1 cf2 cf3) 0 0))])) _
      refine XS.lload X7.here hx rfl (hb hby at_159) rfl ?_
      show Steps p.tables e below (T7.setTop (mkF m 161 #[.val (.int xs), .val (.int nn), .val (.int cf0), .val (.int cf1), .val (.int cf2), .val (.int cf3), .val (.int (0 : Int32)), .val (.long x.toInt64), .second, .val (.ref a1), .val (.long (0 : Int64)), .second, .val (.double (own_hr X (own_pf cf0 cf1 cf2 cf3) 0 0)), .second] [(.long (0 : Int64)), (.double (own_hr X (own_pf cf0 cf1 cf2 cf3) 0 0))])) _
      refine XS.l2dS X7.here hx rfl (hb hby at_161) rfl (v := FP.l2d (0 : Int64)) rfl ?_
      show Steps p.tables e below (T7.setTop (mkF m 162 #[.val (.int xs), .val (.int nn), .val (.int cf0), .val (.int cf1), .val (.int cf2), .val (.int cf3), .val (.int (0 : Int32)), .val (.long x.toInt64), .second, .val (.ref a1), .val (.long (0 : Int64)), .second, .val (.double (own_hr X (own_pf cf0 cf1 cf2 cf3) 0 0)), .second] [(.double (FP.l2d (0 : Int64))), (.double (own_hr X (own_pf cf0 cf1 cf2 cf3) 0 0))])) _
      refine XS.dcmpS X7.here hx rfl (hb hby at_162) rfl (v := Jvm.Op.cmpValue (FP.dcmp (own_hr X (own_pf cf0 cf1 cf2 cf3) 0 0) (FP.l2d (0 : Int64))) .l) rfl ?_
      show Steps p.tables e below (T7.setTop (mkF m 163 #[.val (.int xs), .val (.int nn), .val (.int cf0), .val (.int cf1), .val (.int cf2), .val (.int cf3), .val (.int (0 : Int32)), .val (.long x.toInt64), .second, .val (.ref a1), .val (.long (0 : Int64)), .second, .val (.double (own_hr X (own_pf cf0 cf1 cf2 cf3) 0 0)), .second] [(.int (Jvm.Op.cmpValue (FP.dcmp (own_hr X (own_pf cf0 cf1 cf2 cf3) 0 0) (FP.l2d (0 : Int64))) .l))])) _
      refine XS.ifNo X7.here hx rfl (hb hby at_163) rfl fin ?_
      show Steps p.tables e below (T7.setTop (mkF m 166 #[.val (.int xs), .val (.int nn), .val (.int cf0), .val (.int cf1), .val (.int cf2), .val (.int cf3), .val (.int (0 : Int32)), .val (.long x.toInt64), .second, .val (.ref a1), .val (.long (0 : Int64)), .second, .val (.double (own_hr X (own_pf cf0 cf1 cf2 cf3) 0 0)), .second] [])) _
      refine XS.iconst X7.here hx rfl (hb hby at_166) ?_
      show Steps p.tables e below (T7.setTop (mkF m 167 #[.val (.int xs), .val (.int nn), .val (.int cf0), .val (.int cf1), .val (.int cf2), .val (.int cf3), .val (.int (0 : Int32)), .val (.long x.toInt64), .second, .val (.ref a1), .val (.long (0 : Int64)), .second, .val (.double (own_hr X (own_pf cf0 cf1 cf2 cf3) 0 0)), .second] [(.int (1 : Int32))])) _
      refine XS.goto X7.here hx rfl (pc0 := 167) (pc' := 171) rfl (hb hby at_167) (by decide) (by decide) ?_
      show Steps p.tables e below (T7.setTop (mkF m 171 #[.val (.int xs), .val (.int nn), .val (.int cf0), .val (.int cf1), .val (.int cf2), .val (.int cf3), .val (.int (0 : Int32)), .val (.long x.toInt64), .second, .val (.ref a1), .val (.long (0 : Int64)), .second, .val (.double (own_hr X (own_pf cf0 cf1 cf2 cf3) 0 0)), .second] [(.int (1 : Int32))])) _
      exact retN X7 hx (t := .boolean) Bd.returns (by simp) (hb hby at_171) hr
    · show QL n0 _ T7.heap _
      exact ⟨rfl, Fr.app N0 N7⟩
  · have w0 : Jvm.FP.Core.DInt 0 (own_hr X (own_pf cf0 cf1 cf2 cf3) 1 0) := Jvm.Own.DI.zero
    have y0 : (0 : Int).natAbs ≤ 0 := by decide
    have z0 := own_pb y0 x1
    have v0 := Jvm.FP.Core.dmul_int w0 dx (Nat.le_trans z0 (by decide))
    obtain ⟨R1, hR1⟩ : ∃ v, (0 : Int) * x.toInt + cf0.toInt = v := ⟨_, rfl⟩
    have y1 : R1.natAbs ≤ 2147483648 := by rw [← hR1]; exact own_ad z0 k0
    have w1 : Jvm.FP.Core.DInt R1 (own_hr X (own_pf cf0 cf1 cf2 cf3) 1 1) := by rw [← hR1]; exact Jvm.FP.Core.dadd_int v0 d0 (by rw [hR1]; exact Nat.le_trans y1 (by decide))
    have ok : ∀ k, k < 1 → Jvm.Free.Fl.NoNaN64 (FP.dmul (own_hr X (own_pf cf0 cf1 cf2 cf3) 1 k) X) ∧ Jvm.Free.Fl.NoNaN64 (own_hr X (own_pf cf0 cf1 cf2 cf3) 1 (k + 1)) := by
      intro k hk
      match k, hk with
      | 0, _ => exact ⟨Jvm.Own.DI.nn v0, Jvm.Own.DI.nn w1⟩
    have same : R1 = u1.toInt := by
      rw [j1, ← hR1]
      simp only [Int.zero_mul, Int.zero_add, Int.add_mul]
      try rfl
    obtain ⟨T1, h1, k1, X1, e1, E1, A1, st1⟩ := newP X0 hx hZ (aty := .double) (hw _ (List.mem_of_getElem? (i := 0) rfl)) e0 (g := (mkF m 20 #[.val (.int xs), .val (.int nn), .val (.int cf0), .val (.int cf1), .val (.int cf2), .val (.int cf3), .val (.int (1 : Int32)), .val (.long x.toInt64), .second, .unset, .unset, .unset, .unset, .unset] [(.int (1 : Int32))])) rfl (hb hby at_20) rfl (by decide) (cap := 1) (by decide) (by decide) (by decide) (by decide)
    obtain ⟨a1, g1⟩ : ∃ z, z = h0.size := ⟨_, rfl⟩
    rw [← g1] at A1 st1
    have F1 : Jvm.Own.DA Z h1 a1 1 (fun _ => 0) := Jvm.Own.DA.new A1 (by decide)
    have gA : n0 ≤ a1 := Nat.le_trans Z0 (Nat.le_of_eq g1.symm)
    have Z1 : n0 ≤ h1.size := Nat.le_trans Z0 E1.1
    obtain ⟨c2, B2, S2, H2⟩ := id F1
    obtain ⟨T2, h2, X2, e2, W2, st2⟩ := stD X1 hx hZ e1 B2 (j := (0 : Int32)) (x := (FP.i2d cf0)) (by rw [S2]; decide) (g := (mkF m 34 #[.val (.int xs), .val (.int nn), .val (.int cf0), .val (.int cf1), .val (.int cf2), .val (.int cf3), .val (.int (1 : Int32)), .val (.long x.toInt64), .second, .val (.ref a1), .unset, .unset, .unset, .unset] [(.double (FP.i2d cf0)), (.int (0 : Int32)), (.ref a1)])) rfl rfl (hb hby at_34)
    rw [(show (0 : Int32).toNatClampNeg = 0 by decide)] at W2
    have F2 := Jvm.Own.DA.set F1 W2 (by decide)
    have M2 := Fr.snoc X2 N0 gA
    have Z2 : n0 ≤ h2.size := Nat.le_trans Z1 (Nat.le_of_eq W2.size.symm)
    have GA : Jvm.Own.DA Z h2 a1 1 (own_pf cf0 cf1 cf2 cf3) := F2.of (by intro i hi; simp only [own_pf]; (repeat' split) <;> first | rfl | omega)
    obtain ⟨_, _, ⟨T7, L7, k7, n7⟩, -, X7, ⟨Lc7, hQ7, l7, y7, z7⟩, st7⟩ := Jvm.LawKit.callS X2 hx (y := (⟨"com/example/helioarc/helioarc/Spa", "polynomial", "(D[D)D"⟩ : MethodName)) hown (mvT hZ (hw _ (List.mem_of_getElem? (i := 1) rfl))) (mvT hZ (hw _ (List.mem_of_getElem? (i := 2) rfl))) (mvT hZ (hw _ (List.mem_of_getElem? (i := 3) rfl))) (mvT hZ (hw _ (List.mem_of_getElem? (i := 4) rfl))) (by decide) (backOf (W := 0) (rmPo l Z a0 hw [] X a1 h2 n0 Z2 1 (own_pf cf0 cf1 cf2 cf3) (by simp) GA ok) hZ (hw _ (List.mem_of_getElem? (i := 4) rfl)) (hw _ (List.mem_of_getElem? (i := 3) rfl)) (by decide) (by decide)) (g := (mkF m 152 #[.val (.int xs), .val (.int nn), .val (.int cf0), .val (.int cf1), .val (.int cf2), .val (.int cf3), .val (.int (1 : Int32)), .val (.long x.toInt64), .second, .val (.ref a1), .val (.long u1), .second, .unset, .unset] [(.ref a1), (.double X)])) rfl (by rw [hml]; rfl) (argsL := [(.double X), (.ref a1)]) (rest := []) (lenOf pd_0 rfl) rfl (by show 2 * 0 + _ ≤ _; exact Nat.le_of_eq rfl) (hb hby at_152) (fun _ _ => ⟨rfl, e2, (by decide : 1 + 0 ≤ _), (by decide : 1 + 0 ≤ _)⟩)
    dsimp only [Pt.U, Pt.locs, Pt.cells, Pt.slots] at X7 l7 y7 z7 st7 hQ7
    subst l7 y7 z7
    obtain ⟨rfl, N7, e7⟩ := hQ7
    have fin : ifCond.holds .ne (Jvm.Op.cmpValue (FP.dcmp (own_hr X (own_pf cf0 cf1 cf2 cf3) 1 1) (FP.l2d u1)) .l) = false := (Jvm.Own.holdsW w1 (Jvm.FP.Core.l2d_int (a := u1) (by rw [← same]; exact Nat.le_trans y1 (by decide))) _ _).trans (Jvm.Own.dF (by rw [same]; exact fun q => q rfl))
    obtain ⟨fs, hr, hrun, hended, hW, hsame⟩ := X7.leave (v := some (.int (1 : Int32))) (fun h => by rw [Bd.returns] at h; cases h)
    refine ⟨_, _, pre0 _ ?_, hrun, hended, _, _, rfl, ?_, ⟨_, rfl⟩, hW, hsame.mono (by decide) (by decide)⟩
    · show Steps p.tables e below (s₁.setTop (mkF m 0 #[.val (.int xs), .val (.int nn), .val (.int cf0), .val (.int cf1), .val (.int cf2), .val (.int cf3), .unset, .unset, .unset, .unset, .unset, .unset, .unset, .unset] [])) _
      refine XS.iloadN X0.here hx rfl (hb hby at_0) rfl ?_
      show Steps p.tables e below (s₁.setTop (mkF m 1 #[.val (.int xs), .val (.int nn), .val (.int cf0), .val (.int cf1), .val (.int cf2), .val (.int cf3), .unset, .unset, .unset, .unset, .unset, .unset, .unset, .unset] [(.int nn)])) _
      refine XS.bipush X0.here hx rfl (hb hby at_1) ?_
      show Steps p.tables e below (s₁.setTop (mkF m 3 #[.val (.int xs), .val (.int nn), .val (.int cf0), .val (.int cf1), .val (.int cf2), .val (.int cf3), .unset, .unset, .unset, .unset, .unset, .unset, .unset, .unset] [(.int (7 : Int32)), (.int nn)])) _
      refine XS.iand X0.here hx rfl (hb hby at_3) rfl ?_
      show Steps p.tables e below (s₁.setTop (mkF m 4 #[.val (.int xs), .val (.int nn), .val (.int cf0), .val (.int cf1), .val (.int cf2), .val (.int cf3), .unset, .unset, .unset, .unset, .unset, .unset, .unset, .unset] [(.int (nn &&& (7 : Int32)))])) _
      refine XS.iconst X0.here hx rfl (hb hby at_4) ?_
      show Steps p.tables e below (s₁.setTop (mkF m 5 #[.val (.int xs), .val (.int nn), .val (.int cf0), .val (.int cf1), .val (.int cf2), .val (.int cf3), .unset, .unset, .unset, .unset, .unset, .unset, .unset, .unset] [(.int (5 : Int32)), (.int (nn &&& (7 : Int32)))])) _
      refine XS.irem X0.here hx rfl (hb hby at_5) rfl (by decide) ?_
      rw [hn]
      show Steps p.tables e below (s₁.setTop (mkF m 6 #[.val (.int xs), .val (.int nn), .val (.int cf0), .val (.int cf1), .val (.int cf2), .val (.int cf3), .unset, .unset, .unset, .unset, .unset, .unset, .unset, .unset] [(.int (1 : Int32))])) _
      refine XS.istore X0.here hx rfl (hb hby at_6) rfl (l' := #[.val (.int xs), .val (.int nn), .val (.int cf0), .val (.int cf1), .val (.int cf2), .val (.int cf3), .val (.int (1 : Int32)), .unset, .unset, .unset, .unset, .unset, .unset, .unset]) rfl ?_
      show Steps p.tables e below (s₁.setTop (mkF m 8 #[.val (.int xs), .val (.int nn), .val (.int cf0), .val (.int cf1), .val (.int cf2), .val (.int cf3), .val (.int (1 : Int32)), .unset, .unset, .unset, .unset, .unset, .unset, .unset] [])) _
      refine XS.iloadN X0.here hx rfl (hb hby at_8) rfl ?_
      show Steps p.tables e below (s₁.setTop (mkF m 9 #[.val (.int xs), .val (.int nn), .val (.int cf0), .val (.int cf1), .val (.int cf2), .val (.int cf3), .val (.int (1 : Int32)), .unset, .unset, .unset, .unset, .unset, .unset, .unset] [(.int xs)])) _
      refine XS.bipush X0.here hx rfl (hb hby at_9) ?_
      show Steps p.tables e below (s₁.setTop (mkF m 11 #[.val (.int xs), .val (.int nn), .val (.int cf0), .val (.int cf1), .val (.int cf2), .val (.int cf3), .val (.int (1 : Int32)), .unset, .unset, .unset, .unset, .unset, .unset, .unset] [(.int (24 : Int32)), (.int xs)])) _
      refine XS.ishl X0.here hx rfl (hb hby at_11) rfl ?_
      show Steps p.tables e below (s₁.setTop (mkF m 12 #[.val (.int xs), .val (.int nn), .val (.int cf0), .val (.int cf1), .val (.int cf2), .val (.int cf3), .val (.int (1 : Int32)), .unset, .unset, .unset, .unset, .unset, .unset, .unset] [(.int (xs <<< ((24 : Int32) &&& 31)))])) _
      refine XS.bipush X0.here hx rfl (hb hby at_12) ?_
      show Steps p.tables e below (s₁.setTop (mkF m 14 #[.val (.int xs), .val (.int nn), .val (.int cf0), .val (.int cf1), .val (.int cf2), .val (.int cf3), .val (.int (1 : Int32)), .unset, .unset, .unset, .unset, .unset, .unset, .unset] [(.int (24 : Int32)), (.int (xs <<< ((24 : Int32) &&& 31)))])) _
      refine XS.ishr X0.here hx rfl (hb hby at_14) rfl ?_
      rw [hx0]
      show Steps p.tables e below (s₁.setTop (mkF m 15 #[.val (.int xs), .val (.int nn), .val (.int cf0), .val (.int cf1), .val (.int cf2), .val (.int cf3), .val (.int (1 : Int32)), .unset, .unset, .unset, .unset, .unset, .unset, .unset] [(.int x)])) _
      refine XS.i2l X0.here hx rfl (hb hby at_15) rfl ?_
      show Steps p.tables e below (s₁.setTop (mkF m 16 #[.val (.int xs), .val (.int nn), .val (.int cf0), .val (.int cf1), .val (.int cf2), .val (.int cf3), .val (.int (1 : Int32)), .unset, .unset, .unset, .unset, .unset, .unset, .unset] [(.long x.toInt64)])) _
      refine XS.lstore X0.here hx rfl (hb hby at_16) rfl (l' := #[.val (.int xs), .val (.int nn), .val (.int cf0), .val (.int cf1), .val (.int cf2), .val (.int cf3), .val (.int (1 : Int32)), .val (.long x.toInt64), .second, .unset, .unset, .unset, .unset, .unset]) rfl ?_
      show Steps p.tables e below (s₁.setTop (mkF m 18 #[.val (.int xs), .val (.int nn), .val (.int cf0), .val (.int cf1), .val (.int cf2), .val (.int cf3), .val (.int (1 : Int32)), .val (.long x.toInt64), .second, .unset, .unset, .unset, .unset, .unset] [])) _
      refine XS.iload X0.here hx rfl (hb hby at_18) rfl ?_
      show Steps p.tables e below (s₁.setTop (mkF m 20 #[.val (.int xs), .val (.int nn), .val (.int cf0), .val (.int cf1), .val (.int cf2), .val (.int cf3), .val (.int (1 : Int32)), .val (.long x.toInt64), .second, .unset, .unset, .unset, .unset, .unset] [(.int (1 : Int32))])) _
      refine st1 _ ?_
      show Steps p.tables e below (T1.setTop (mkF m 22 #[.val (.int xs), .val (.int nn), .val (.int cf0), .val (.int cf1), .val (.int cf2), .val (.int cf3), .val (.int (1 : Int32)), .val (.long x.toInt64), .second, .unset, .unset, .unset, .unset, .unset] [(.ref a1)])) _
      refine XS.astore X1.here hx rfl (hb hby at_22) rfl rfl (l' := #[.val (.int xs), .val (.int nn), .val (.int cf0), .val (.int cf1), .val (.int cf2), .val (.int cf3), .val (.int (1 : Int32)), .val (.long x.toInt64), .second, .val (.ref a1), .unset, .unset, .unset, .unset]) rfl ?_
      show Steps p.tables e below (T1.setTop (mkF m 24 #[.val (.int xs), .val (.int nn), .val (.int cf0), .val (.int cf1), .val (.int cf2), .val (.int cf3), .val (.int (1 : Int32)), .val (.long x.toInt64), .second, .val (.ref a1), .unset, .unset, .unset, .unset] [])) _
      refine XS.iload X1.here hx rfl (hb hby at_24) rfl ?_
      show Steps p.tables e below (T1.setTop (mkF m 26 #[.val (.int xs), .val (.int nn), .val (.int cf0), .val (.int cf1), .val (.int cf2), .val (.int cf3), .val (.int (1 : Int32)), .val (.long x.toInt64), .second, .val (.ref a1), .unset, .unset, .unset, .unset] [(.int (1 : Int32))])) _
      refine XS.ifNo X1.here hx rfl (hb hby at_26) rfl rfl ?_
      show Steps p.tables e below (T1.setTop (mkF m 29 #[.val (.int xs), .val (.int nn), .val (.int cf0), .val (.int cf1), .val (.int cf2), .val (.int cf3), .val (.int (1 : Int32)), .val (.long x.toInt64), .second, .val (.ref a1), .unset, .unset, .unset, .unset] [])) _
      refine XS.aload X1.here hx rfl (hb hby at_29) rfl rfl ?_
      show Steps p.tables e below (T1.setTop (mkF m 31 #[.val (.int xs), .val (.int nn), .val (.int cf0), .val (.int cf1), .val (.int cf2), .val (.int cf3), .val (.int (1 : Int32)), .val (.long x.toInt64), .second, .val (.ref a1), .unset, .unset, .unset, .unset] [(.ref a1)])) _
      refine XS.iconst X1.here hx rfl (hb hby at_31) ?_
      show Steps p.tables e below (T1.setTop (mkF m 32 #[.val (.int xs), .val (.int nn), .val (.int cf0), .val (.int cf1), .val (.int cf2), .val (.int cf3), .val (.int (1 : Int32)), .val (.long x.toInt64), .second, .val (.ref a1), .unset, .unset, .unset, .unset] [(.int (0 : Int32)), (.ref a1)])) _
      refine XS.iloadN X1.here hx rfl (hb hby at_32) rfl ?_
      show Steps p.tables e below (T1.setTop (mkF m 33 #[.val (.int xs), .val (.int nn), .val (.int cf0), .val (.int cf1), .val (.int cf2), .val (.int cf3), .val (.int (1 : Int32)), .val (.long x.toInt64), .second, .val (.ref a1), .unset, .unset, .unset, .unset] [(.int cf0), (.int (0 : Int32)), (.ref a1)])) _
      refine XS.i2dS X1.here hx rfl (hb hby at_33) rfl (v := FP.i2d cf0) rfl ?_
      show Steps p.tables e below (T1.setTop (mkF m 34 #[.val (.int xs), .val (.int nn), .val (.int cf0), .val (.int cf1), .val (.int cf2), .val (.int cf3), .val (.int (1 : Int32)), .val (.long x.toInt64), .second, .val (.ref a1), .unset, .unset, .unset, .unset] [(.double (FP.i2d cf0)), (.int (0 : Int32)), (.ref a1)])) _
      refine st2 _ ?_
      show Steps p.tables e below (T2.setTop (mkF m 35 #[.val (.int xs), .val (.int nn), .val (.int cf0), .val (.int cf1), .val (.int cf2), .val (.int cf3), .val (.int (1 : Int32)), .val (.long x.toInt64), .second, .val (.ref a1), .unset, .unset, .unset, .unset] [])) _
      refine XS.iload X2.here hx rfl (hb hby at_35) rfl ?_
      show Steps p.tables e below (T2.setTop (mkF m 37 #[.val (.int xs), .val (.int nn), .val (.int cf0), .val (.int cf1), .val (.int cf2), .val (.int cf3), .val (.int (1 : Int32)), .val (.long x.toInt64), .second, .val (.ref a1), .unset, .unset, .unset, .unset] [(.int (1 : Int32))])) _
      refine XS.iconst X2.here hx rfl (hb hby at_37) ?_
      show Steps p.tables e below (T2.setTop (mkF m 38 #[.val (.int xs), .val (.int nn), .val (.int cf0), .val (.int cf1), .val (.int cf2), .val (.int cf3), .val (.int (1 : Int32)), .val (.long x.toInt64), .second, .val (.ref a1), .unset, .unset, .unset, .unset] [(.int (1 : Int32)), (.int (1 : Int32))])) _
      refine XS.icmpYes X2.here hx rfl (pc0 := 38) (pc' := 47) rfl (hb hby at_38) rfl rfl (by decide) (by decide) ?_
      show Steps p.tables e below (T2.setTop (mkF m 47 #[.val (.int xs), .val (.int nn), .val (.int cf0), .val (.int cf1), .val (.int cf2), .val (.int cf3), .val (.int (1 : Int32)), .val (.long x.toInt64), .second, .val (.ref a1), .unset, .unset, .unset, .unset] [])) _
      refine XS.iload X2.here hx rfl (hb hby at_47) rfl ?_
      show Steps p.tables e below (T2.setTop (mkF m 49 #[.val (.int xs), .val (.int nn), .val (.int cf0), .val (.int cf1), .val (.int cf2), .val (.int cf3), .val (.int (1 : Int32)), .val (.long x.toInt64), .second, .val (.ref a1), .unset, .unset, .unset, .unset] [(.int (1 : Int32))])) _
      refine XS.iconst X2.here hx rfl (hb hby at_49) ?_
      show Steps p.tables e below (T2.setTop (mkF m 50 #[.val (.int xs), .val (.int nn), .val (.int cf0), .val (.int cf1), .val (.int cf2), .val (.int cf3), .val (.int (1 : Int32)), .val (.long x.toInt64), .second, .val (.ref a1), .unset, .unset, .unset, .unset] [(.int (2 : Int32)), (.int (1 : Int32))])) _
      refine XS.icmpYes X2.here hx rfl (pc0 := 50) (pc' := 60) rfl (hb hby at_50) rfl rfl (by decide) (by decide) ?_
      show Steps p.tables e below (T2.setTop (mkF m 60 #[.val (.int xs), .val (.int nn), .val (.int cf0), .val (.int cf1), .val (.int cf2), .val (.int cf3), .val (.int (1 : Int32)), .val (.long x.toInt64), .second, .val (.ref a1), .unset, .unset, .unset, .unset] [])) _
      refine XS.iload X2.here hx rfl (hb hby at_60) rfl ?_
      show Steps p.tables e below (T2.setTop (mkF m 62 #[.val (.int xs), .val (.int nn), .val (.int cf0), .val (.int cf1), .val (.int cf2), .val (.int cf3), .val (.int (1 : Int32)), .val (.long x.toInt64), .second, .val (.ref a1), .unset, .unset, .unset, .unset] [(.int (1 : Int32))])) _
      refine XS.iconst X2.here hx rfl (hb hby at_62) ?_
      show Steps p.tables e below (T2.setTop (mkF m 63 #[.val (.int xs), .val (.int nn), .val (.int cf0), .val (.int cf1), .val (.int cf2), .val (.int cf3), .val (.int (1 : Int32)), .val (.long x.toInt64), .second, .val (.ref a1), .unset, .unset, .unset, .unset] [(.int (3 : Int32)), (.int (1 : Int32))])) _
      refine XS.icmpYes X2.here hx rfl (pc0 := 63) (pc' := 73) rfl (hb hby at_63) rfl rfl (by decide) (by decide) ?_
      show Steps p.tables e below (T2.setTop (mkF m 73 #[.val (.int xs), .val (.int nn), .val (.int cf0), .val (.int cf1), .val (.int cf2), .val (.int cf3), .val (.int (1 : Int32)), .val (.long x.toInt64), .second, .val (.ref a1), .unset, .unset, .unset, .unset] [])) _
      refine XS.lconst X2.here hx rfl (hb hby at_73) ?_
      show Steps p.tables e below (T2.setTop (mkF m 74 #[.val (.int xs), .val (.int nn), .val (.int cf0), .val (.int cf1), .val (.int cf2), .val (.int cf3), .val (.int (1 : Int32)), .val (.long x.toInt64), .second, .val (.ref a1), .unset, .unset, .unset, .unset] [(.long (0 : Int64))])) _
      refine XS.lstore X2.here hx rfl (hb hby at_74) rfl (l' := #[.val (.int xs), .val (.int nn), .val (.int cf0), .val (.int cf1), .val (.int cf2), .val (.int cf3), .val (.int (1 : Int32)), .val (.long x.toInt64), .second, .val (.ref a1), .val (.long (0 : Int64)), .second, .unset, .unset]) rfl ?_
      show Steps p.tables e below (T2.setTop (mkF m 76 #[.val (.int xs), .val (.int nn), .val (.int cf0), .val (.int cf1), .val (.int cf2), .val (.int cf3), .val (.int (1 : Int32)), .val (.long x.toInt64), .second, .val (.ref a1), .val (.long (0 : Int64)), .second, .unset, .unset] [])) _
      refine XS.iload X2.here hx rfl (hb hby at_76) rfl ?_
      show Steps p.tables e below (T2.setTop (mkF m 78 #[.val (.int xs), .val (.int nn), .val (.int cf0), .val (.int cf1), .val (.int cf2), .val (.int cf3), .val (.int (1 : Int32)), .val (.long x.toInt64), .second, .val (.ref a1), .val (.long (0 : Int64)), .second, .unset, .unset] [(.int (1 : Int32))])) _
      refine XS.ifNo X2.here hx rfl (hb hby at_78) rfl rfl ?_
      show Steps p.tables e below (T2.setTop (mkF m 81 #[.val (.int xs), .val (.int nn), .val (.int cf0), .val (.int cf1), .val (.int cf2), .val (.int cf3), .val (.int (1 : Int32)), .val (.long x.toInt64), .second, .val (.ref a1), .val (.long (0 : Int64)), .second, .unset, .unset] [])) _
      refine XS.lload X2.here hx rfl (hb hby at_81) rfl ?_
      show Steps p.tables e below (T2.setTop (mkF m 83 #[.val (.int xs), .val (.int nn), .val (.int cf0), .val (.int cf1), .val (.int cf2), .val (.int cf3), .val (.int (1 : Int32)), .val (.long x.toInt64), .second, .val (.ref a1), .val (.long (0 : Int64)), .second, .unset, .unset] [(.long (0 : Int64))])) _
      refine XS.iloadN X2.here hx rfl (hb hby at_83) rfl ?_
      show Steps p.tables e below (T2.setTop (mkF m 84 #[.val (.int xs), .val (.int nn), .val (.int cf0), .val (.int cf1), .val (.int cf2), .val (.int cf3), .val (.int (1 : Int32)), .val (.long x.toInt64), .second, .val (.ref a1), .val (.long (0 : Int64)), .second, .unset, .unset] [(.int cf0), (.long (0 : Int64))])) _
      refine XS.i2l X2.here hx rfl (hb hby at_84) rfl ?_
      show Steps p.tables e below (T2.setTop (mkF m 85 #[.val (.int xs), .val (.int nn), .val (.int cf0), .val (.int cf1), .val (.int cf2), .val (.int cf3), .val (.int (1 : Int32)), .val (.long x.toInt64), .second, .val (.ref a1), .val (.long (0 : Int64)), .second, .unset, .unset] [(.long cf0.toInt64), (.long (0 : Int64))])) _
      refine XS.ladd X2.here hx rfl (hb hby at_85) rfl ?_
      rw [hu1]
      show Steps p.tables e below (T2.setTop (mkF m 86 #[.val (.int xs), .val (.int nn), .val (.int cf0), .val (.int cf1), .val (.int cf2), .val (.int cf3), .val (.int (1 : Int32)), .val (.long x.toInt64), .second, .val (.ref a1), .val (.long (0 : Int64)), .second, .unset, .unset] [(.long u1)])) _
      refine XS.lstore X2.here hx rfl (hb hby at_86) rfl (l' := #[.val (.int xs), .val (.int nn), .val (.int cf0), .val (.int cf1), .val (.int cf2), .val (.int cf3), .val (.int (1 : Int32)), .val (.long x.toInt64), .second, .val (.ref a1), .val (.long u1), .second, .unset, .unset]) rfl ?_
      show Steps p.tables e below (T2.setTop (mkF m 88 #[.val (.int xs), .val (.int nn), .val (.int cf0), .val (.int cf1), .val (.int cf2), .val (.int cf3), .val (.int (1 : Int32)), .val (.long x.toInt64), .second, .val (.ref a1), .val (.long u1), .second, .unset, .unset] [])) _
      refine XS.iload X2.here hx rfl (hb hby at_88) rfl ?_
      show Steps p.tables e below (T2.setTop (mkF m 90 #[.val (.int xs), .val (.int nn), .val (.int cf0), .val (.int cf1), .val (.int cf2), .val (.int cf3), .val (.int (1 : Int32)), .val (.long x.toInt64), .second, .val (.ref a1), .val (.long u1), .second, .unset, .unset] [(.int (1 : Int32))])) _
      refine XS.iconst X2.here hx rfl (hb hby at_90) ?_
      show Steps p.tables e below (T2.setTop (mkF m 91 #[.val (.int xs), .val (.int nn), .val (.int cf0), .val (.int cf1), .val (.int cf2), .val (.int cf3), .val (.int (1 : Int32)), .val (.long x.toInt64), .second, .val (.ref a1), .val (.long u1), .second, .unset, .unset] [(.int (1 : Int32)), (.int (1 : Int32))])) _
      refine XS.icmpYes X2.here hx rfl (pc0 := 91) (pc' := 104) rfl (hb hby at_91) rfl rfl (by decide) (by decide) ?_
      show Steps p.tables e below (T2.setTop (mkF m 104 #[.val (.int xs), .val (.int nn), .val (.int cf0), .val (.int cf1), .val (.int cf2), .val (.int cf3), .val (.int (1 : Int32)), .val (.long x.toInt64), .second, .val (.ref a1), .val (.long u1), .second, .unset, .unset] [])) _
      refine XS.iload X2.here hx rfl (hb hby at_104) rfl ?_
      show Steps p.tables e below (T2.setTop (mkF m 106 #[.val (.int xs), .val (.int nn), .val (.int cf0), .val (.int cf1), .val (.int cf2), .val (.int cf3), .val (.int (1 : Int32)), .val (.long x.toInt64), .second, .val (.ref a1), .val (.long u1), .second, .unset, .unset] [(.int (1 : Int32))])) _
      refine XS.iconst X2.here hx rfl (hb hby at_106) ?_
      show Steps p.tables e below (T2.setTop (mkF m 107 #[.val (.int xs), .val (.int nn), .val (.int cf0), .val (.int cf1), .val (.int cf2), .val (.int cf3), .val (.int (1 : Int32)), .val (.long x.toInt64), .second, .val (.ref a1), .val (.long u1), .second, .unset, .unset] [(.int (2 : Int32)), (.int (1 : Int32))])) _
      refine XS.icmpYes X2.here hx rfl (pc0 := 107) (pc' := 124) rfl (hb hby at_107) rfl rfl (by decide) (by decide) ?_
      show Steps p.tables e below (T2.setTop (mkF m 124 #[.val (.int xs), .val (.int nn), .val (.int cf0), .val (.int cf1), .val (.int cf2), .val (.int cf3), .val (.int (1 : Int32)), .val (.long x.toInt64), .second, .val (.ref a1), .val (.long u1), .second, .unset, .unset] [])) _
      refine XS.iload X2.here hx rfl (hb hby at_124) rfl ?_
      show Steps p.tables e below (T2.setTop (mkF m 126 #[.val (.int xs), .val (.int nn), .val (.int cf0), .val (.int cf1), .val (.int cf2), .val (.int cf3), .val (.int (1 : Int32)), .val (.long x.toInt64), .second, .val (.ref a1), .val (.long u1), .second, .unset, .unset] [(.int (1 : Int32))])) _
      refine XS.iconst X2.here hx rfl (hb hby at_126) ?_
      show Steps p.tables e below (T2.setTop (mkF m 127 #[.val (.int xs), .val (.int nn), .val (.int cf0), .val (.int cf1), .val (.int cf2), .val (.int cf3), .val (.int (1 : Int32)), .val (.long x.toInt64), .second, .val (.ref a1), .val (.long u1), .second, .unset, .unset] [(.int (3 : Int32)), (.int (1 : Int32))])) _
      refine XS.icmpYes X2.here hx rfl (pc0 := 127) (pc' := 147) rfl (hb hby at_127) rfl rfl (by decide) (by decide) ?_
      show Steps p.tables e below (T2.setTop (mkF m 147 #[.val (.int xs), .val (.int nn), .val (.int cf0), .val (.int cf1), .val (.int cf2), .val (.int cf3), .val (.int (1 : Int32)), .val (.long x.toInt64), .second, .val (.ref a1), .val (.long u1), .second, .unset, .unset] [])) _
      refine XS.lload X2.here hx rfl (hb hby at_147) rfl ?_
      show Steps p.tables e below (T2.setTop (mkF m 149 #[.val (.int xs), .val (.int nn), .val (.int cf0), .val (.int cf1), .val (.int cf2), .val (.int cf3), .val (.int (1 : Int32)), .val (.long x.toInt64), .second, .val (.ref a1), .val (.long u1), .second, .unset, .unset] [(.long x.toInt64)])) _
      refine XS.l2dS X2.here hx rfl (hb hby at_149) rfl (v := X) hXd ?_
      show Steps p.tables e below (T2.setTop (mkF m 150 #[.val (.int xs), .val (.int nn), .val (.int cf0), .val (.int cf1), .val (.int cf2), .val (.int cf3), .val (.int (1 : Int32)), .val (.long x.toInt64), .second, .val (.ref a1), .val (.long u1), .second, .unset, .unset] [(.double X)])) _
      refine XS.aload X2.here hx rfl (hb hby at_150) rfl rfl ?_
      show Steps p.tables e below (T2.setTop (mkF m 152 #[.val (.int xs), .val (.int nn), .val (.int cf0), .val (.int cf1), .val (.int cf2), .val (.int cf3), .val (.int (1 : Int32)), .val (.long x.toInt64), .second, .val (.ref a1), .val (.long u1), .second, .unset, .unset] [(.ref a1), (.double X)])) _
      refine st7 _ ?_
      show Steps p.tables e below (T7.setTop (mkF m 155 #[.val (.int xs), .val (.int nn), .val (.int cf0), .val (.int cf1), .val (.int cf2), .val (.int cf3), .val (.int (1 : Int32)), .val (.long x.toInt64), .second, .val (.ref a1), .val (.long u1), .second, .unset, .unset] [(.double (own_hr X (own_pf cf0 cf1 cf2 cf3) 1 1))])) _
      refine XS.dstore X7.here hx rfl (hb hby at_155) rfl (l' := #[.val (.int xs), .val (.int nn), .val (.int cf0), .val (.int cf1), .val (.int cf2), .val (.int cf3), .val (.int (1 : Int32)), .val (.long x.toInt64), .second, .val (.ref a1), .val (.long u1), .second, .val (.double (own_hr X (own_pf cf0 cf1 cf2 cf3) 1 1)), .second]) rfl ?_
      show Steps p.tables e below (T7.setTop (mkF m 157 #[.val (.int xs), .val (.int nn), .val (.int cf0), .val (.int cf1), .val (.int cf2), .val (.int cf3), .val (.int (1 : Int32)), .val (.long x.toInt64), .second, .val (.ref a1), .val (.long u1), .second, .val (.double (own_hr X (own_pf cf0 cf1 cf2 cf3) 1 1)), .second] [])) _
      refine XS.dload X7.here hx rfl (hb hby at_157) rfl ?_
      show Steps p.tables e below (T7.setTop (mkF m 159 #[.val (.int xs), .val (.int nn), .val (.int cf0), .val (.int cf1), .val (.int cf2), .val (.int cf3), .val (.int (1 : Int32)), .val (.long x.toInt64), .second, .val (.ref a1), .val (.long u1), .second, .val (.double (own_hr X (own_pf cf0 cf1 cf2 cf3) 1 1)), .second] [(.double (own_hr X (own_pf cf0 cf1 cf2 cf3) 1 1))])) _
      refine XS.lload X7.here hx rfl (hb hby at_159) rfl ?_
      show Steps p.tables e below (T7.setTop (mkF m 161 #[.val (.int xs), .val (.int nn), .val (.int cf0), .val (.int cf1), .val (.int cf2), .val (.int cf3), .val (.int (1 : Int32)), .val (.long x.toInt64), .second, .val (.ref a1), .val (.long u1), .second, .val (.double (own_hr X (own_pf cf0 cf1 cf2 cf3) 1 1)), .second] [(.long u1), (.double (own_hr X (own_pf cf0 cf1 cf2 cf3) 1 1))])) _
      refine XS.l2dS X7.here hx rfl (hb hby at_161) rfl (v := FP.l2d u1) rfl ?_
      show Steps p.tables e below (T7.setTop (mkF m 162 #[.val (.int xs), .val (.int nn), .val (.int cf0), .val (.int cf1), .val (.int cf2), .val (.int cf3), .val (.int (1 : Int32)), .val (.long x.toInt64), .second, .val (.ref a1), .val (.long u1), .second, .val (.double (own_hr X (own_pf cf0 cf1 cf2 cf3) 1 1)), .second] [(.double (FP.l2d u1)), (.double (own_hr X (own_pf cf0 cf1 cf2 cf3) 1 1))])) _
      refine XS.dcmpS X7.here hx rfl (hb hby at_162) rfl (v := Jvm.Op.cmpValue (FP.dcmp (own_hr X (own_pf cf0 cf1 cf2 cf3) 1 1) (FP.l2d u1)) .l) rfl ?_
      show Steps p.tables e below (T7.setTop (mkF m 163 #[.val (.int xs), .val (.int nn), .val (.int cf0), .val (.int cf1), .val (.int cf2), .val (.int cf3), .val (.int (1 : Int32)), .val (.long x.toInt64), .second, .val (.ref a1), .val (.long u1), .second, .val (.double (own_hr X (own_pf cf0 cf1 cf2 cf3) 1 1)), .second] [(.int (Jvm.Op.cmpValue (FP.dcmp (own_hr X (own_pf cf0 cf1 cf2 cf3) 1 1) (FP.l2d u1)) .l))])) _
      refine XS.ifNo X7.here hx rfl (hb hby at_163) rfl fin ?_
      show Steps p.tables e below (T7.setTop (mkF m 166 #[.val (.int xs), .val (.int nn), .val (.int cf0), .val (.int cf1), .val (.int cf2), .val (.int cf3), .val (.int (1 : Int32)), .val (.long x.toInt64), .second, .val (.ref a1), .val (.long u1), .second, .val (.double (own_hr X (own_pf cf0 cf1 cf2 cf3) 1 1)), .second] [])) _
      refine XS.iconst X7.here hx rfl (hb hby at_166) ?_
      show Steps p.tables e below (T7.setTop (mkF m 167 #[.val (.int xs), .val (.int nn), .val (.int cf0), .val (.int cf1), .val (.int cf2), .val (.int cf3), .val (.int (1 : Int32)), .val (.long x.toInt64), .second, .val (.ref a1), .val (.long u1), .second, .val (.double (own_hr X (own_pf cf0 cf1 cf2 cf3) 1 1)), .second] [(.int (1 : Int32))])) _
      refine XS.goto X7.here hx rfl (pc0 := 167) (pc' := 171) rfl (hb hby at_167) (by decide) (by decide) ?_
      show Steps p.tables e below (T7.setTop (mkF m 171 #[.val (.int xs), .val (.int nn), .val (.int cf0), .val (.int cf1), .val (.int cf2), .val (.int cf3), .val (.int (1 : Int32)), .val (.long x.toInt64), .second, .val (.ref a1), .val (.long u1), .second, .val (.double (own_hr X (own_pf cf0 cf1 cf2 cf3) 1 1)), .second] [(.int (1 : Int32))])) _
      exact retN X7 hx (t := .boolean) Bd.returns (by simp) (hb hby at_171) hr
    · show QL n0 _ T7.heap _
      exact ⟨rfl, Fr.app M2 N7⟩
  · have w0 : Jvm.FP.Core.DInt 0 (own_hr X (own_pf cf0 cf1 cf2 cf3) 2 0) := Jvm.Own.DI.zero
    have y0 : (0 : Int).natAbs ≤ 0 := by decide
    have z0 := own_pb y0 x1
    have v0 := Jvm.FP.Core.dmul_int w0 dx (Nat.le_trans z0 (by decide))
    obtain ⟨R1, hR1⟩ : ∃ v, (0 : Int) * x.toInt + cf1.toInt = v := ⟨_, rfl⟩
    have y1 : R1.natAbs ≤ 2147483648 := by rw [← hR1]; exact own_ad z0 k1
    have w1 : Jvm.FP.Core.DInt R1 (own_hr X (own_pf cf0 cf1 cf2 cf3) 2 1) := by rw [← hR1]; exact Jvm.FP.Core.dadd_int v0 d1 (by rw [hR1]; exact Nat.le_trans y1 (by decide))
    have z1 := own_pb y1 x1
    have v1 := Jvm.FP.Core.dmul_int w1 dx (Nat.le_trans z1 (by decide))
    obtain ⟨R2, hR2⟩ : ∃ v, R1 * x.toInt + cf0.toInt = v := ⟨_, rfl⟩
    have y2 : R2.natAbs ≤ 277025390592 := by rw [← hR2]; exact own_ad z1 k0
    have w2 : Jvm.FP.Core.DInt R2 (own_hr X (own_pf cf0 cf1 cf2 cf3) 2 2) := by rw [← hR2]; exact Jvm.FP.Core.dadd_int v1 d0 (by rw [hR2]; exact Nat.le_trans y2 (by decide))
    have ok : ∀ k, k < 2 → Jvm.Free.Fl.NoNaN64 (FP.dmul (own_hr X (own_pf cf0 cf1 cf2 cf3) 2 k) X) ∧ Jvm.Free.Fl.NoNaN64 (own_hr X (own_pf cf0 cf1 cf2 cf3) 2 (k + 1)) := by
      intro k hk
      match k, hk with
      | 0, _ => exact ⟨Jvm.Own.DI.nn v0, Jvm.Own.DI.nn w1⟩
      | 1, _ => exact ⟨Jvm.Own.DI.nn v1, Jvm.Own.DI.nn w2⟩
    have same : R2 = u2.toInt := by
      rw [j2, ← hR2, ← hR1]
      simp only [Int.zero_mul, Int.zero_add, Int.add_mul]
      omega
    obtain ⟨T1, h1, k1, X1, e1, E1, A1, st1⟩ := newP X0 hx hZ (aty := .double) (hw _ (List.mem_of_getElem? (i := 0) rfl)) e0 (g := (mkF m 20 #[.val (.int xs), .val (.int nn), .val (.int cf0), .val (.int cf1), .val (.int cf2), .val (.int cf3), .val (.int (2 : Int32)), .val (.long x.toInt64), .second, .unset, .unset, .unset, .unset, .unset] [(.int (2 : Int32))])) rfl (hb hby at_20) rfl (by decide) (cap := 2) (by decide) (by decide) (by decide) (by decide)
    obtain ⟨a1, g1⟩ : ∃ z, z = h0.size := ⟨_, rfl⟩
    rw [← g1] at A1 st1
    have F1 : Jvm.Own.DA Z h1 a1 2 (fun _ => 0) := Jvm.Own.DA.new A1 (by decide)
    have gA : n0 ≤ a1 := Nat.le_trans Z0 (Nat.le_of_eq g1.symm)
    have Z1 : n0 ≤ h1.size := Nat.le_trans Z0 E1.1
    obtain ⟨c2, B2, S2, H2⟩ := id F1
    obtain ⟨T2, h2, X2, e2, W2, st2⟩ := stD X1 hx hZ e1 B2 (j := (0 : Int32)) (x := (FP.i2d cf0)) (by rw [S2]; decide) (g := (mkF m 34 #[.val (.int xs), .val (.int nn), .val (.int cf0), .val (.int cf1), .val (.int cf2), .val (.int cf3), .val (.int (2 : Int32)), .val (.long x.toInt64), .second, .val (.ref a1), .unset, .unset, .unset, .unset] [(.double (FP.i2d cf0)), (.int (0 : Int32)), (.ref a1)])) rfl rfl (hb hby at_34)
    rw [(show (0 : Int32).toNatClampNeg = 0 by decide)] at W2
    have F2 := Jvm.Own.DA.set F1 W2 (by decide)
    have M2 := Fr.snoc X2 N0 gA
    have Z2 : n0 ≤ h2.size := Nat.le_trans Z1 (Nat.le_of_eq W2.size.symm)
    obtain ⟨c3, B3, S3, H3⟩ := id F2
    obtain ⟨T3, h3, X3, e3, W3, st3⟩ := stD X2 hx hZ e2 B3 (j := (1 : Int32)) (x := (FP.i2d cf1)) (by rw [S3]; decide) (g := (mkF m 46 #[.val (.int xs), .val (.int nn), .val (.int cf0), .val (.int cf1), .val (.int cf2), .val (.int cf3), .val (.int (2 : Int32)), .val (.long x.toInt64), .second, .val (.ref a1), .unset, .unset, .unset, .unset] [(.double (FP.i2d cf1)), (.int (1 : Int32)), (.ref a1)])) rfl rfl (hb hby at_46)
    rw [(show (1 : Int32).toNatClampNeg = 1 by decide)] at W3
    have F3 := Jvm.Own.DA.set F2 W3 (by decide)
    have M3 := Fr.snoc X3 M2 gA
    have Z3 : n0 ≤ h3.size := Nat.le_trans Z2 (Nat.le_of_eq W3.size.symm)
    have GA : Jvm.Own.DA Z h3 a1 2 (own_pf cf0 cf1 cf2 cf3) := F3.of (by intro i hi; simp only [own_pf]; (repeat' split) <;> first | rfl | omega)
    obtain ⟨_, _, ⟨T7, L7, k7, n7⟩, -, X7, ⟨Lc7, hQ7, l7, y7, z7⟩, st7⟩ := Jvm.LawKit.callS X3 hx (y := (⟨"com/example/helioarc/helioarc/Spa", "polynomial", "(D[D)D"⟩ : MethodName)) hown (mvT hZ (hw _ (List.mem_of_getElem? (i := 1) rfl))) (mvT hZ (hw _ (List.mem_of_getElem? (i := 2) rfl))) (mvT hZ (hw _ (List.mem_of_getElem? (i := 3) rfl))) (mvT hZ (hw _ (List.mem_of_getElem? (i := 4) rfl))) (by decide) (backOf (W := 0) (rmPo l Z a0 hw [] X a1 h3 n0 Z3 2 (own_pf cf0 cf1 cf2 cf3) (by simp) GA ok) hZ (hw _ (List.mem_of_getElem? (i := 4) rfl)) (hw _ (List.mem_of_getElem? (i := 3) rfl)) (by decide) (by decide)) (g := (mkF m 152 #[.val (.int xs), .val (.int nn), .val (.int cf0), .val (.int cf1), .val (.int cf2), .val (.int cf3), .val (.int (2 : Int32)), .val (.long x.toInt64), .second, .val (.ref a1), .val (.long u2), .second, .unset, .unset] [(.ref a1), (.double X)])) rfl (by rw [hml]; rfl) (argsL := [(.double X), (.ref a1)]) (rest := []) (lenOf pd_0 rfl) rfl (by show 2 * 0 + _ ≤ _; exact Nat.le_of_eq rfl) (hb hby at_152) (fun _ _ => ⟨rfl, e3, (by decide : 1 + 0 ≤ _), (by decide : 2 + 0 ≤ _)⟩)
    dsimp only [Pt.U, Pt.locs, Pt.cells, Pt.slots] at X7 l7 y7 z7 st7 hQ7
    subst l7 y7 z7
    obtain ⟨rfl, N7, e7⟩ := hQ7
    have fin : ifCond.holds .ne (Jvm.Op.cmpValue (FP.dcmp (own_hr X (own_pf cf0 cf1 cf2 cf3) 2 2) (FP.l2d u2)) .l) = false := (Jvm.Own.holdsW w2 (Jvm.FP.Core.l2d_int (a := u2) (by rw [← same]; exact Nat.le_trans y2 (by decide))) _ _).trans (Jvm.Own.dF (by rw [same]; exact fun q => q rfl))
    obtain ⟨fs, hr, hrun, hended, hW, hsame⟩ := X7.leave (v := some (.int (1 : Int32))) (fun h => by rw [Bd.returns] at h; cases h)
    refine ⟨_, _, pre0 _ ?_, hrun, hended, _, _, rfl, ?_, ⟨_, rfl⟩, hW, hsame.mono (by decide) (by decide)⟩
    · show Steps p.tables e below (s₁.setTop (mkF m 0 #[.val (.int xs), .val (.int nn), .val (.int cf0), .val (.int cf1), .val (.int cf2), .val (.int cf3), .unset, .unset, .unset, .unset, .unset, .unset, .unset, .unset] [])) _
      refine XS.iloadN X0.here hx rfl (hb hby at_0) rfl ?_
      show Steps p.tables e below (s₁.setTop (mkF m 1 #[.val (.int xs), .val (.int nn), .val (.int cf0), .val (.int cf1), .val (.int cf2), .val (.int cf3), .unset, .unset, .unset, .unset, .unset, .unset, .unset, .unset] [(.int nn)])) _
      refine XS.bipush X0.here hx rfl (hb hby at_1) ?_
      show Steps p.tables e below (s₁.setTop (mkF m 3 #[.val (.int xs), .val (.int nn), .val (.int cf0), .val (.int cf1), .val (.int cf2), .val (.int cf3), .unset, .unset, .unset, .unset, .unset, .unset, .unset, .unset] [(.int (7 : Int32)), (.int nn)])) _
      refine XS.iand X0.here hx rfl (hb hby at_3) rfl ?_
      show Steps p.tables e below (s₁.setTop (mkF m 4 #[.val (.int xs), .val (.int nn), .val (.int cf0), .val (.int cf1), .val (.int cf2), .val (.int cf3), .unset, .unset, .unset, .unset, .unset, .unset, .unset, .unset] [(.int (nn &&& (7 : Int32)))])) _
      refine XS.iconst X0.here hx rfl (hb hby at_4) ?_
      show Steps p.tables e below (s₁.setTop (mkF m 5 #[.val (.int xs), .val (.int nn), .val (.int cf0), .val (.int cf1), .val (.int cf2), .val (.int cf3), .unset, .unset, .unset, .unset, .unset, .unset, .unset, .unset] [(.int (5 : Int32)), (.int (nn &&& (7 : Int32)))])) _
      refine XS.irem X0.here hx rfl (hb hby at_5) rfl (by decide) ?_
      rw [hn]
      show Steps p.tables e below (s₁.setTop (mkF m 6 #[.val (.int xs), .val (.int nn), .val (.int cf0), .val (.int cf1), .val (.int cf2), .val (.int cf3), .unset, .unset, .unset, .unset, .unset, .unset, .unset, .unset] [(.int (2 : Int32))])) _
      refine XS.istore X0.here hx rfl (hb hby at_6) rfl (l' := #[.val (.int xs), .val (.int nn), .val (.int cf0), .val (.int cf1), .val (.int cf2), .val (.int cf3), .val (.int (2 : Int32)), .unset, .unset, .unset, .unset, .unset, .unset, .unset]) rfl ?_
      show Steps p.tables e below (s₁.setTop (mkF m 8 #[.val (.int xs), .val (.int nn), .val (.int cf0), .val (.int cf1), .val (.int cf2), .val (.int cf3), .val (.int (2 : Int32)), .unset, .unset, .unset, .unset, .unset, .unset, .unset] [])) _
      refine XS.iloadN X0.here hx rfl (hb hby at_8) rfl ?_
      show Steps p.tables e below (s₁.setTop (mkF m 9 #[.val (.int xs), .val (.int nn), .val (.int cf0), .val (.int cf1), .val (.int cf2), .val (.int cf3), .val (.int (2 : Int32)), .unset, .unset, .unset, .unset, .unset, .unset, .unset] [(.int xs)])) _
      refine XS.bipush X0.here hx rfl (hb hby at_9) ?_
      show Steps p.tables e below (s₁.setTop (mkF m 11 #[.val (.int xs), .val (.int nn), .val (.int cf0), .val (.int cf1), .val (.int cf2), .val (.int cf3), .val (.int (2 : Int32)), .unset, .unset, .unset, .unset, .unset, .unset, .unset] [(.int (24 : Int32)), (.int xs)])) _
      refine XS.ishl X0.here hx rfl (hb hby at_11) rfl ?_
      show Steps p.tables e below (s₁.setTop (mkF m 12 #[.val (.int xs), .val (.int nn), .val (.int cf0), .val (.int cf1), .val (.int cf2), .val (.int cf3), .val (.int (2 : Int32)), .unset, .unset, .unset, .unset, .unset, .unset, .unset] [(.int (xs <<< ((24 : Int32) &&& 31)))])) _
      refine XS.bipush X0.here hx rfl (hb hby at_12) ?_
      show Steps p.tables e below (s₁.setTop (mkF m 14 #[.val (.int xs), .val (.int nn), .val (.int cf0), .val (.int cf1), .val (.int cf2), .val (.int cf3), .val (.int (2 : Int32)), .unset, .unset, .unset, .unset, .unset, .unset, .unset] [(.int (24 : Int32)), (.int (xs <<< ((24 : Int32) &&& 31)))])) _
      refine XS.ishr X0.here hx rfl (hb hby at_14) rfl ?_
      rw [hx0]
      show Steps p.tables e below (s₁.setTop (mkF m 15 #[.val (.int xs), .val (.int nn), .val (.int cf0), .val (.int cf1), .val (.int cf2), .val (.int cf3), .val (.int (2 : Int32)), .unset, .unset, .unset, .unset, .unset, .unset, .unset] [(.int x)])) _
      refine XS.i2l X0.here hx rfl (hb hby at_15) rfl ?_
      show Steps p.tables e below (s₁.setTop (mkF m 16 #[.val (.int xs), .val (.int nn), .val (.int cf0), .val (.int cf1), .val (.int cf2), .val (.int cf3), .val (.int (2 : Int32)), .unset, .unset, .unset, .unset, .unset, .unset, .unset] [(.long x.toInt64)])) _
      refine XS.lstore X0.here hx rfl (hb hby at_16) rfl (l' := #[.val (.int xs), .val (.int nn), .val (.int cf0), .val (.int cf1), .val (.int cf2), .val (.int cf3), .val (.int (2 : Int32)), .val (.long x.toInt64), .second, .unset, .unset, .unset, .unset, .unset]) rfl ?_
      show Steps p.tables e below (s₁.setTop (mkF m 18 #[.val (.int xs), .val (.int nn), .val (.int cf0), .val (.int cf1), .val (.int cf2), .val (.int cf3), .val (.int (2 : Int32)), .val (.long x.toInt64), .second, .unset, .unset, .unset, .unset, .unset] [])) _
      refine XS.iload X0.here hx rfl (hb hby at_18) rfl ?_
      show Steps p.tables e below (s₁.setTop (mkF m 20 #[.val (.int xs), .val (.int nn), .val (.int cf0), .val (.int cf1), .val (.int cf2), .val (.int cf3), .val (.int (2 : Int32)), .val (.long x.toInt64), .second, .unset, .unset, .unset, .unset, .unset] [(.int (2 : Int32))])) _
      refine st1 _ ?_
      show Steps p.tables e below (T1.setTop (mkF m 22 #[.val (.int xs), .val (.int nn), .val (.int cf0), .val (.int cf1), .val (.int cf2), .val (.int cf3), .val (.int (2 : Int32)), .val (.long x.toInt64), .second, .unset, .unset, .unset, .unset, .unset] [(.ref a1)])) _
      refine XS.astore X1.here hx rfl (hb hby at_22) rfl rfl (l' := #[.val (.int xs), .val (.int nn), .val (.int cf0), .val (.int cf1), .val (.int cf2), .val (.int cf3), .val (.int (2 : Int32)), .val (.long x.toInt64), .second, .val (.ref a1), .unset, .unset, .unset, .unset]) rfl ?_
      show Steps p.tables e below (T1.setTop (mkF m 24 #[.val (.int xs), .val (.int nn), .val (.int cf0), .val (.int cf1), .val (.int cf2), .val (.int cf3), .val (.int (2 : Int32)), .val (.long x.toInt64), .second, .val (.ref a1), .unset, .unset, .unset, .unset] [])) _
      refine XS.iload X1.here hx rfl (hb hby at_24) rfl ?_
      show Steps p.tables e below (T1.setTop (mkF m 26 #[.val (.int xs), .val (.int nn), .val (.int cf0), .val (.int cf1), .val (.int cf2), .val (.int cf3), .val (.int (2 : Int32)), .val (.long x.toInt64), .second, .val (.ref a1), .unset, .unset, .unset, .unset] [(.int (2 : Int32))])) _
      refine XS.ifNo X1.here hx rfl (hb hby at_26) rfl rfl ?_
      show Steps p.tables e below (T1.setTop (mkF m 29 #[.val (.int xs), .val (.int nn), .val (.int cf0), .val (.int cf1), .val (.int cf2), .val (.int cf3), .val (.int (2 : Int32)), .val (.long x.toInt64), .second, .val (.ref a1), .unset, .unset, .unset, .unset] [])) _
      refine XS.aload X1.here hx rfl (hb hby at_29) rfl rfl ?_
      show Steps p.tables e below (T1.setTop (mkF m 31 #[.val (.int xs), .val (.int nn), .val (.int cf0), .val (.int cf1), .val (.int cf2), .val (.int cf3), .val (.int (2 : Int32)), .val (.long x.toInt64), .second, .val (.ref a1), .unset, .unset, .unset, .unset] [(.ref a1)])) _
      refine XS.iconst X1.here hx rfl (hb hby at_31) ?_
      show Steps p.tables e below (T1.setTop (mkF m 32 #[.val (.int xs), .val (.int nn), .val (.int cf0), .val (.int cf1), .val (.int cf2), .val (.int cf3), .val (.int (2 : Int32)), .val (.long x.toInt64), .second, .val (.ref a1), .unset, .unset, .unset, .unset] [(.int (0 : Int32)), (.ref a1)])) _
      refine XS.iloadN X1.here hx rfl (hb hby at_32) rfl ?_
      show Steps p.tables e below (T1.setTop (mkF m 33 #[.val (.int xs), .val (.int nn), .val (.int cf0), .val (.int cf1), .val (.int cf2), .val (.int cf3), .val (.int (2 : Int32)), .val (.long x.toInt64), .second, .val (.ref a1), .unset, .unset, .unset, .unset] [(.int cf0), (.int (0 : Int32)), (.ref a1)])) _
      refine XS.i2dS X1.here hx rfl (hb hby at_33) rfl (v := FP.i2d cf0) rfl ?_
      show Steps p.tables e below (T1.setTop (mkF m 34 #[.val (.int xs), .val (.int nn), .val (.int cf0), .val (.int cf1), .val (.int cf2), .val (.int cf3), .val (.int (2 : Int32)), .val (.long x.toInt64), .second, .val (.ref a1), .unset, .unset, .unset, .unset] [(.double (FP.i2d cf0)), (.int (0 : Int32)), (.ref a1)])) _
      refine st2 _ ?_
      show Steps p.tables e below (T2.setTop (mkF m 35 #[.val (.int xs), .val (.int nn), .val (.int cf0), .val (.int cf1), .val (.int cf2), .val (.int cf3), .val (.int (2 : Int32)), .val (.long x.toInt64), .second, .val (.ref a1), .unset, .unset, .unset, .unset] [])) _
      refine XS.iload X2.here hx rfl (hb hby at_35) rfl ?_
      show Steps p.tables e below (T2.setTop (mkF m 37 #[.val (.int xs), .val (.int nn), .val (.int cf0), .val (.int cf1), .val (.int cf2), .val (.int cf3), .val (.int (2 : Int32)), .val (.long x.toInt64), .second, .val (.ref a1), .unset, .unset, .unset, .unset] [(.int (2 : Int32))])) _
      refine XS.iconst X2.here hx rfl (hb hby at_37) ?_
      show Steps p.tables e below (T2.setTop (mkF m 38 #[.val (.int xs), .val (.int nn), .val (.int cf0), .val (.int cf1), .val (.int cf2), .val (.int cf3), .val (.int (2 : Int32)), .val (.long x.toInt64), .second, .val (.ref a1), .unset, .unset, .unset, .unset] [(.int (1 : Int32)), (.int (2 : Int32))])) _
      refine XS.icmpNo X2.here hx rfl (hb hby at_38) rfl rfl ?_
      show Steps p.tables e below (T2.setTop (mkF m 41 #[.val (.int xs), .val (.int nn), .val (.int cf0), .val (.int cf1), .val (.int cf2), .val (.int cf3), .val (.int (2 : Int32)), .val (.long x.toInt64), .second, .val (.ref a1), .unset, .unset, .unset, .unset] [])) _
      refine XS.aload X2.here hx rfl (hb hby at_41) rfl rfl ?_
      show Steps p.tables e below (T2.setTop (mkF m 43 #[.val (.int xs), .val (.int nn), .val (.int cf0), .val (.int cf1), .val (.int cf2), .val (.int cf3), .val (.int (2 : Int32)), .val (.long x.toInt64), .second, .val (.ref a1), .unset, .unset, .unset, .unset] [(.ref a1)])) _
      refine XS.iconst X2.here hx rfl (hb hby at_43) ?_
      show Steps p.tables e below (T2.setTop (mkF m 44 #[.val (.int xs), .val (.int nn), .val (.int cf0), .val (.int cf1), .val (.int cf2), .val (.int cf3), .val (.int (2 : Int32)), .val (.long x.toInt64), .second, .val (.ref a1), .unset, .unset, .unset, .unset] [(.int (1 : Int32)), (.ref a1)])) _
      refine XS.iloadN X2.here hx rfl (hb hby at_44) rfl ?_
      show Steps p.tables e below (T2.setTop (mkF m 45 #[.val (.int xs), .val (.int nn), .val (.int cf0), .val (.int cf1), .val (.int cf2), .val (.int cf3), .val (.int (2 : Int32)), .val (.long x.toInt64), .second, .val (.ref a1), .unset, .unset, .unset, .unset] [(.int cf1), (.int (1 : Int32)), (.ref a1)])) _
      refine XS.i2dS X2.here hx rfl (hb hby at_45) rfl (v := FP.i2d cf1) rfl ?_
      show Steps p.tables e below (T2.setTop (mkF m 46 #[.val (.int xs), .val (.int nn), .val (.int cf0), .val (.int cf1), .val (.int cf2), .val (.int cf3), .val (.int (2 : Int32)), .val (.long x.toInt64), .second, .val (.ref a1), .unset, .unset, .unset, .unset] [(.double (FP.i2d cf1)), (.int (1 : Int32)), (.ref a1)])) _
      refine st3 _ ?_
      show Steps p.tables e below (T3.setTop (mkF m 47 #[.val (.int xs), .val (.int nn), .val (.int cf0), .val (.int cf1), .val (.int cf2), .val (.int cf3), .val (.int (2 : Int32)), .val (.long x.toInt64), .second, .val (.ref a1), .unset, .unset, .unset, .unset] [])) _
      refine XS.iload X3.here hx rfl (hb hby at_47) rfl ?_
      show Steps p.tables e below (T3.setTop (mkF m 49 #[.val (.int xs), .val (.int nn), .val (.int cf0), .val (.int cf1), .val (.int cf2), .val (.int cf3), .val (.int (2 : Int32)), .val (.long x.toInt64), .second, .val (.ref a1), .unset, .unset, .unset, .unset] [(.int (2 : Int32))])) _
      refine XS.iconst X3.here hx rfl (hb hby at_49) ?_
      show Steps p.tables e below (T3.setTop (mkF m 50 #[.val (.int xs), .val (.int nn), .val (.int cf0), .val (.int cf1), .val (.int cf2), .val (.int cf3), .val (.int (2 : Int32)), .val (.long x.toInt64), .second, .val (.ref a1), .unset, .unset, .unset, .unset] [(.int (2 : Int32)), (.int (2 : Int32))])) _
      refine XS.icmpYes X3.here hx rfl (pc0 := 50) (pc' := 60) rfl (hb hby at_50) rfl rfl (by decide) (by decide) ?_
      show Steps p.tables e below (T3.setTop (mkF m 60 #[.val (.int xs), .val (.int nn), .val (.int cf0), .val (.int cf1), .val (.int cf2), .val (.int cf3), .val (.int (2 : Int32)), .val (.long x.toInt64), .second, .val (.ref a1), .unset, .unset, .unset, .unset] [])) _
      refine XS.iload X3.here hx rfl (hb hby at_60) rfl ?_
      show Steps p.tables e below (T3.setTop (mkF m 62 #[.val (.int xs), .val (.int nn), .val (.int cf0), .val (.int cf1), .val (.int cf2), .val (.int cf3), .val (.int (2 : Int32)), .val (.long x.toInt64), .second, .val (.ref a1), .unset, .unset, .unset, .unset] [(.int (2 : Int32))])) _
      refine XS.iconst X3.here hx rfl (hb hby at_62) ?_
      show Steps p.tables e below (T3.setTop (mkF m 63 #[.val (.int xs), .val (.int nn), .val (.int cf0), .val (.int cf1), .val (.int cf2), .val (.int cf3), .val (.int (2 : Int32)), .val (.long x.toInt64), .second, .val (.ref a1), .unset, .unset, .unset, .unset] [(.int (3 : Int32)), (.int (2 : Int32))])) _
      refine XS.icmpYes X3.here hx rfl (pc0 := 63) (pc' := 73) rfl (hb hby at_63) rfl rfl (by decide) (by decide) ?_
      show Steps p.tables e below (T3.setTop (mkF m 73 #[.val (.int xs), .val (.int nn), .val (.int cf0), .val (.int cf1), .val (.int cf2), .val (.int cf3), .val (.int (2 : Int32)), .val (.long x.toInt64), .second, .val (.ref a1), .unset, .unset, .unset, .unset] [])) _
      refine XS.lconst X3.here hx rfl (hb hby at_73) ?_
      show Steps p.tables e below (T3.setTop (mkF m 74 #[.val (.int xs), .val (.int nn), .val (.int cf0), .val (.int cf1), .val (.int cf2), .val (.int cf3), .val (.int (2 : Int32)), .val (.long x.toInt64), .second, .val (.ref a1), .unset, .unset, .unset, .unset] [(.long (0 : Int64))])) _
      refine XS.lstore X3.here hx rfl (hb hby at_74) rfl (l' := #[.val (.int xs), .val (.int nn), .val (.int cf0), .val (.int cf1), .val (.int cf2), .val (.int cf3), .val (.int (2 : Int32)), .val (.long x.toInt64), .second, .val (.ref a1), .val (.long (0 : Int64)), .second, .unset, .unset]) rfl ?_
      show Steps p.tables e below (T3.setTop (mkF m 76 #[.val (.int xs), .val (.int nn), .val (.int cf0), .val (.int cf1), .val (.int cf2), .val (.int cf3), .val (.int (2 : Int32)), .val (.long x.toInt64), .second, .val (.ref a1), .val (.long (0 : Int64)), .second, .unset, .unset] [])) _
      refine XS.iload X3.here hx rfl (hb hby at_76) rfl ?_
      show Steps p.tables e below (T3.setTop (mkF m 78 #[.val (.int xs), .val (.int nn), .val (.int cf0), .val (.int cf1), .val (.int cf2), .val (.int cf3), .val (.int (2 : Int32)), .val (.long x.toInt64), .second, .val (.ref a1), .val (.long (0 : Int64)), .second, .unset, .unset] [(.int (2 : Int32))])) _
      refine XS.ifNo X3.here hx rfl (hb hby at_78) rfl rfl ?_
      show Steps p.tables e below (T3.setTop (mkF m 81 #[.val (.int xs), .val (.int nn), .val (.int cf0), .val (.int cf1), .val (.int cf2), .val (.int cf3), .val (.int (2 : Int32)), .val (.long x.toInt64), .second, .val (.ref a1), .val (.long (0 : Int64)), .second, .unset, .unset] [])) _
      refine XS.lload X3.here hx rfl (hb hby at_81) rfl ?_
      show Steps p.tables e below (T3.setTop (mkF m 83 #[.val (.int xs), .val (.int nn), .val (.int cf0), .val (.int cf1), .val (.int cf2), .val (.int cf3), .val (.int (2 : Int32)), .val (.long x.toInt64), .second, .val (.ref a1), .val (.long (0 : Int64)), .second, .unset, .unset] [(.long (0 : Int64))])) _
      refine XS.iloadN X3.here hx rfl (hb hby at_83) rfl ?_
      show Steps p.tables e below (T3.setTop (mkF m 84 #[.val (.int xs), .val (.int nn), .val (.int cf0), .val (.int cf1), .val (.int cf2), .val (.int cf3), .val (.int (2 : Int32)), .val (.long x.toInt64), .second, .val (.ref a1), .val (.long (0 : Int64)), .second, .unset, .unset] [(.int cf0), (.long (0 : Int64))])) _
      refine XS.i2l X3.here hx rfl (hb hby at_84) rfl ?_
      show Steps p.tables e below (T3.setTop (mkF m 85 #[.val (.int xs), .val (.int nn), .val (.int cf0), .val (.int cf1), .val (.int cf2), .val (.int cf3), .val (.int (2 : Int32)), .val (.long x.toInt64), .second, .val (.ref a1), .val (.long (0 : Int64)), .second, .unset, .unset] [(.long cf0.toInt64), (.long (0 : Int64))])) _
      refine XS.ladd X3.here hx rfl (hb hby at_85) rfl ?_
      rw [hu1]
      show Steps p.tables e below (T3.setTop (mkF m 86 #[.val (.int xs), .val (.int nn), .val (.int cf0), .val (.int cf1), .val (.int cf2), .val (.int cf3), .val (.int (2 : Int32)), .val (.long x.toInt64), .second, .val (.ref a1), .val (.long (0 : Int64)), .second, .unset, .unset] [(.long u1)])) _
      refine XS.lstore X3.here hx rfl (hb hby at_86) rfl (l' := #[.val (.int xs), .val (.int nn), .val (.int cf0), .val (.int cf1), .val (.int cf2), .val (.int cf3), .val (.int (2 : Int32)), .val (.long x.toInt64), .second, .val (.ref a1), .val (.long u1), .second, .unset, .unset]) rfl ?_
      show Steps p.tables e below (T3.setTop (mkF m 88 #[.val (.int xs), .val (.int nn), .val (.int cf0), .val (.int cf1), .val (.int cf2), .val (.int cf3), .val (.int (2 : Int32)), .val (.long x.toInt64), .second, .val (.ref a1), .val (.long u1), .second, .unset, .unset] [])) _
      refine XS.iload X3.here hx rfl (hb hby at_88) rfl ?_
      show Steps p.tables e below (T3.setTop (mkF m 90 #[.val (.int xs), .val (.int nn), .val (.int cf0), .val (.int cf1), .val (.int cf2), .val (.int cf3), .val (.int (2 : Int32)), .val (.long x.toInt64), .second, .val (.ref a1), .val (.long u1), .second, .unset, .unset] [(.int (2 : Int32))])) _
      refine XS.iconst X3.here hx rfl (hb hby at_90) ?_
      show Steps p.tables e below (T3.setTop (mkF m 91 #[.val (.int xs), .val (.int nn), .val (.int cf0), .val (.int cf1), .val (.int cf2), .val (.int cf3), .val (.int (2 : Int32)), .val (.long x.toInt64), .second, .val (.ref a1), .val (.long u1), .second, .unset, .unset] [(.int (1 : Int32)), (.int (2 : Int32))])) _
      refine XS.icmpNo X3.here hx rfl (hb hby at_91) rfl rfl ?_
      show Steps p.tables e below (T3.setTop (mkF m 94 #[.val (.int xs), .val (.int nn), .val (.int cf0), .val (.int cf1), .val (.int cf2), .val (.int cf3), .val (.int (2 : Int32)), .val (.long x.toInt64), .second, .val (.ref a1), .val (.long u1), .second, .unset, .unset] [])) _
      refine XS.lload X3.here hx rfl (hb hby at_94) rfl ?_
      show Steps p.tables e below (T3.setTop (mkF m 96 #[.val (.int xs), .val (.int nn), .val (.int cf0), .val (.int cf1), .val (.int cf2), .val (.int cf3), .val (.int (2 : Int32)), .val (.long x.toInt64), .second, .val (.ref a1), .val (.long u1), .second, .unset, .unset] [(.long u1)])) _
      refine XS.iloadN X3.here hx rfl (hb hby at_96) rfl ?_
      show Steps p.tables e below (T3.setTop (mkF m 97 #[.val (.int xs), .val (.int nn), .val (.int cf0), .val (.int cf1), .val (.int cf2), .val (.int cf3), .val (.int (2 : Int32)), .val (.long x.toInt64), .second, .val (.ref a1), .val (.long u1), .second, .unset, .unset] [(.int cf1), (.long u1)])) _
      refine XS.i2l X3.here hx rfl (hb hby at_97) rfl ?_
      show Steps p.tables e below (T3.setTop (mkF m 98 #[.val (.int xs), .val (.int nn), .val (.int cf0), .val (.int cf1), .val (.int cf2), .val (.int cf3), .val (.int (2 : Int32)), .val (.long x.toInt64), .second, .val (.ref a1), .val (.long u1), .second, .unset, .unset] [(.long cf1.toInt64), (.long u1)])) _
      refine XS.lload X3.here hx rfl (hb hby at_98) rfl ?_
      show Steps p.tables e below (T3.setTop (mkF m 100 #[.val (.int xs), .val (.int nn), .val (.int cf0), .val (.int cf1), .val (.int cf2), .val (.int cf3), .val (.int (2 : Int32)), .val (.long x.toInt64), .second, .val (.ref a1), .val (.long u1), .second, .unset, .unset] [(.long x.toInt64), (.long cf1.toInt64), (.long u1)])) _
      refine XS.lmul X3.here hx rfl (hb hby at_100) rfl ?_
      show Steps p.tables e below (T3.setTop (mkF m 101 #[.val (.int xs), .val (.int nn), .val (.int cf0), .val (.int cf1), .val (.int cf2), .val (.int cf3), .val (.int (2 : Int32)), .val (.long x.toInt64), .second, .val (.ref a1), .val (.long u1), .second, .unset, .unset] [(.long (cf1.toInt64 * x.toInt64)), (.long u1)])) _
      refine XS.ladd X3.here hx rfl (hb hby at_101) rfl ?_
      rw [hu2]
      show Steps p.tables e below (T3.setTop (mkF m 102 #[.val (.int xs), .val (.int nn), .val (.int cf0), .val (.int cf1), .val (.int cf2), .val (.int cf3), .val (.int (2 : Int32)), .val (.long x.toInt64), .second, .val (.ref a1), .val (.long u1), .second, .unset, .unset] [(.long u2)])) _
      refine XS.lstore X3.here hx rfl (hb hby at_102) rfl (l' := #[.val (.int xs), .val (.int nn), .val (.int cf0), .val (.int cf1), .val (.int cf2), .val (.int cf3), .val (.int (2 : Int32)), .val (.long x.toInt64), .second, .val (.ref a1), .val (.long u2), .second, .unset, .unset]) rfl ?_
      show Steps p.tables e below (T3.setTop (mkF m 104 #[.val (.int xs), .val (.int nn), .val (.int cf0), .val (.int cf1), .val (.int cf2), .val (.int cf3), .val (.int (2 : Int32)), .val (.long x.toInt64), .second, .val (.ref a1), .val (.long u2), .second, .unset, .unset] [])) _
      refine XS.iload X3.here hx rfl (hb hby at_104) rfl ?_
      show Steps p.tables e below (T3.setTop (mkF m 106 #[.val (.int xs), .val (.int nn), .val (.int cf0), .val (.int cf1), .val (.int cf2), .val (.int cf3), .val (.int (2 : Int32)), .val (.long x.toInt64), .second, .val (.ref a1), .val (.long u2), .second, .unset, .unset] [(.int (2 : Int32))])) _
      refine XS.iconst X3.here hx rfl (hb hby at_106) ?_
      show Steps p.tables e below (T3.setTop (mkF m 107 #[.val (.int xs), .val (.int nn), .val (.int cf0), .val (.int cf1), .val (.int cf2), .val (.int cf3), .val (.int (2 : Int32)), .val (.long x.toInt64), .second, .val (.ref a1), .val (.long u2), .second, .unset, .unset] [(.int (2 : Int32)), (.int (2 : Int32))])) _
      refine XS.icmpYes X3.here hx rfl (pc0 := 107) (pc' := 124) rfl (hb hby at_107) rfl rfl (by decide) (by decide) ?_
      show Steps p.tables e below (T3.setTop (mkF m 124 #[.val (.int xs), .val (.int nn), .val (.int cf0), .val (.int cf1), .val (.int cf2), .val (.int cf3), .val (.int (2 : Int32)), .val (.long x.toInt64), .second, .val (.ref a1), .val (.long u2), .second, .unset, .unset] [])) _
      refine XS.iload X3.here hx rfl (hb hby at_124) rfl ?_
      show Steps p.tables e below (T3.setTop (mkF m 126 #[.val (.int xs), .val (.int nn), .val (.int cf0), .val (.int cf1), .val (.int cf2), .val (.int cf3), .val (.int (2 : Int32)), .val (.long x.toInt64), .second, .val (.ref a1), .val (.long u2), .second, .unset, .unset] [(.int (2 : Int32))])) _
      refine XS.iconst X3.here hx rfl (hb hby at_126) ?_
      show Steps p.tables e below (T3.setTop (mkF m 127 #[.val (.int xs), .val (.int nn), .val (.int cf0), .val (.int cf1), .val (.int cf2), .val (.int cf3), .val (.int (2 : Int32)), .val (.long x.toInt64), .second, .val (.ref a1), .val (.long u2), .second, .unset, .unset] [(.int (3 : Int32)), (.int (2 : Int32))])) _
      refine XS.icmpYes X3.here hx rfl (pc0 := 127) (pc' := 147) rfl (hb hby at_127) rfl rfl (by decide) (by decide) ?_
      show Steps p.tables e below (T3.setTop (mkF m 147 #[.val (.int xs), .val (.int nn), .val (.int cf0), .val (.int cf1), .val (.int cf2), .val (.int cf3), .val (.int (2 : Int32)), .val (.long x.toInt64), .second, .val (.ref a1), .val (.long u2), .second, .unset, .unset] [])) _
      refine XS.lload X3.here hx rfl (hb hby at_147) rfl ?_
      show Steps p.tables e below (T3.setTop (mkF m 149 #[.val (.int xs), .val (.int nn), .val (.int cf0), .val (.int cf1), .val (.int cf2), .val (.int cf3), .val (.int (2 : Int32)), .val (.long x.toInt64), .second, .val (.ref a1), .val (.long u2), .second, .unset, .unset] [(.long x.toInt64)])) _
      refine XS.l2dS X3.here hx rfl (hb hby at_149) rfl (v := X) hXd ?_
      show Steps p.tables e below (T3.setTop (mkF m 150 #[.val (.int xs), .val (.int nn), .val (.int cf0), .val (.int cf1), .val (.int cf2), .val (.int cf3), .val (.int (2 : Int32)), .val (.long x.toInt64), .second, .val (.ref a1), .val (.long u2), .second, .unset, .unset] [(.double X)])) _
      refine XS.aload X3.here hx rfl (hb hby at_150) rfl rfl ?_
      show Steps p.tables e below (T3.setTop (mkF m 152 #[.val (.int xs), .val (.int nn), .val (.int cf0), .val (.int cf1), .val (.int cf2), .val (.int cf3), .val (.int (2 : Int32)), .val (.long x.toInt64), .second, .val (.ref a1), .val (.long u2), .second, .unset, .unset] [(.ref a1), (.double X)])) _
      refine st7 _ ?_
      show Steps p.tables e below (T7.setTop (mkF m 155 #[.val (.int xs), .val (.int nn), .val (.int cf0), .val (.int cf1), .val (.int cf2), .val (.int cf3), .val (.int (2 : Int32)), .val (.long x.toInt64), .second, .val (.ref a1), .val (.long u2), .second, .unset, .unset] [(.double (own_hr X (own_pf cf0 cf1 cf2 cf3) 2 2))])) _
      refine XS.dstore X7.here hx rfl (hb hby at_155) rfl (l' := #[.val (.int xs), .val (.int nn), .val (.int cf0), .val (.int cf1), .val (.int cf2), .val (.int cf3), .val (.int (2 : Int32)), .val (.long x.toInt64), .second, .val (.ref a1), .val (.long u2), .second, .val (.double (own_hr X (own_pf cf0 cf1 cf2 cf3) 2 2)), .second]) rfl ?_
      show Steps p.tables e below (T7.setTop (mkF m 157 #[.val (.int xs), .val (.int nn), .val (.int cf0), .val (.int cf1), .val (.int cf2), .val (.int cf3), .val (.int (2 : Int32)), .val (.long x.toInt64), .second, .val (.ref a1), .val (.long u2), .second, .val (.double (own_hr X (own_pf cf0 cf1 cf2 cf3) 2 2)), .second] [])) _
      refine XS.dload X7.here hx rfl (hb hby at_157) rfl ?_
      show Steps p.tables e below (T7.setTop (mkF m 159 #[.val (.int xs), .val (.int nn), .val (.int cf0), .val (.int cf1), .val (.int cf2), .val (.int cf3), .val (.int (2 : Int32)), .val (.long x.toInt64), .second, .val (.ref a1), .val (.long u2), .second, .val (.double (own_hr X (own_pf cf0 cf1 cf2 cf3) 2 2)), .second] [(.double (own_hr X (own_pf cf0 cf1 cf2 cf3) 2 2))])) _
      refine XS.lload X7.here hx rfl (hb hby at_159) rfl ?_
      show Steps p.tables e below (T7.setTop (mkF m 161 #[.val (.int xs), .val (.int nn), .val (.int cf0), .val (.int cf1), .val (.int cf2), .val (.int cf3), .val (.int (2 : Int32)), .val (.long x.toInt64), .second, .val (.ref a1), .val (.long u2), .second, .val (.double (own_hr X (own_pf cf0 cf1 cf2 cf3) 2 2)), .second] [(.long u2), (.double (own_hr X (own_pf cf0 cf1 cf2 cf3) 2 2))])) _
      refine XS.l2dS X7.here hx rfl (hb hby at_161) rfl (v := FP.l2d u2) rfl ?_
      show Steps p.tables e below (T7.setTop (mkF m 162 #[.val (.int xs), .val (.int nn), .val (.int cf0), .val (.int cf1), .val (.int cf2), .val (.int cf3), .val (.int (2 : Int32)), .val (.long x.toInt64), .second, .val (.ref a1), .val (.long u2), .second, .val (.double (own_hr X (own_pf cf0 cf1 cf2 cf3) 2 2)), .second] [(.double (FP.l2d u2)), (.double (own_hr X (own_pf cf0 cf1 cf2 cf3) 2 2))])) _
      refine XS.dcmpS X7.here hx rfl (hb hby at_162) rfl (v := Jvm.Op.cmpValue (FP.dcmp (own_hr X (own_pf cf0 cf1 cf2 cf3) 2 2) (FP.l2d u2)) .l) rfl ?_
      show Steps p.tables e below (T7.setTop (mkF m 163 #[.val (.int xs), .val (.int nn), .val (.int cf0), .val (.int cf1), .val (.int cf2), .val (.int cf3), .val (.int (2 : Int32)), .val (.long x.toInt64), .second, .val (.ref a1), .val (.long u2), .second, .val (.double (own_hr X (own_pf cf0 cf1 cf2 cf3) 2 2)), .second] [(.int (Jvm.Op.cmpValue (FP.dcmp (own_hr X (own_pf cf0 cf1 cf2 cf3) 2 2) (FP.l2d u2)) .l))])) _
      refine XS.ifNo X7.here hx rfl (hb hby at_163) rfl fin ?_
      show Steps p.tables e below (T7.setTop (mkF m 166 #[.val (.int xs), .val (.int nn), .val (.int cf0), .val (.int cf1), .val (.int cf2), .val (.int cf3), .val (.int (2 : Int32)), .val (.long x.toInt64), .second, .val (.ref a1), .val (.long u2), .second, .val (.double (own_hr X (own_pf cf0 cf1 cf2 cf3) 2 2)), .second] [])) _
      refine XS.iconst X7.here hx rfl (hb hby at_166) ?_
      show Steps p.tables e below (T7.setTop (mkF m 167 #[.val (.int xs), .val (.int nn), .val (.int cf0), .val (.int cf1), .val (.int cf2), .val (.int cf3), .val (.int (2 : Int32)), .val (.long x.toInt64), .second, .val (.ref a1), .val (.long u2), .second, .val (.double (own_hr X (own_pf cf0 cf1 cf2 cf3) 2 2)), .second] [(.int (1 : Int32))])) _
      refine XS.goto X7.here hx rfl (pc0 := 167) (pc' := 171) rfl (hb hby at_167) (by decide) (by decide) ?_
      show Steps p.tables e below (T7.setTop (mkF m 171 #[.val (.int xs), .val (.int nn), .val (.int cf0), .val (.int cf1), .val (.int cf2), .val (.int cf3), .val (.int (2 : Int32)), .val (.long x.toInt64), .second, .val (.ref a1), .val (.long u2), .second, .val (.double (own_hr X (own_pf cf0 cf1 cf2 cf3) 2 2)), .second] [(.int (1 : Int32))])) _
      exact retN X7 hx (t := .boolean) Bd.returns (by simp) (hb hby at_171) hr
    · show QL n0 _ T7.heap _
      exact ⟨rfl, Fr.app M3 N7⟩
  · have w0 : Jvm.FP.Core.DInt 0 (own_hr X (own_pf cf0 cf1 cf2 cf3) 3 0) := Jvm.Own.DI.zero
    have y0 : (0 : Int).natAbs ≤ 0 := by decide
    have z0 := own_pb y0 x1
    have v0 := Jvm.FP.Core.dmul_int w0 dx (Nat.le_trans z0 (by decide))
    obtain ⟨R1, hR1⟩ : ∃ v, (0 : Int) * x.toInt + cf2.toInt = v := ⟨_, rfl⟩
    have y1 : R1.natAbs ≤ 2147483648 := by rw [← hR1]; exact own_ad z0 k2
    have w1 : Jvm.FP.Core.DInt R1 (own_hr X (own_pf cf0 cf1 cf2 cf3) 3 1) := by rw [← hR1]; exact Jvm.FP.Core.dadd_int v0 d2 (by rw [hR1]; exact Nat.le_trans y1 (by decide))
    have z1 := own_pb y1 x1
    have v1 := Jvm.FP.Core.dmul_int w1 dx (Nat.le_trans z1 (by decide))
    obtain ⟨R2, hR2⟩ : ∃ v, R1 * x.toInt + cf1.toInt = v := ⟨_, rfl⟩
    have y2 : R2.natAbs ≤ 277025390592 := by rw [← hR2]; exact own_ad z1 k1
    have w2 : Jvm.FP.Core.DInt R2 (own_hr X (own_pf cf0 cf1 cf2 cf3) 3 2) := by rw [← hR2]; exact Jvm.FP.Core.dadd_int v1 d1 (by rw [hR2]; exact Nat.le_trans y2 (by decide))
    have z2 := own_pb y2 x1
    have v2 := Jvm.FP.Core.dmul_int w2 dx (Nat.le_trans z2 (by decide))
    obtain ⟨R3, hR3⟩ : ∃ v, R2 * x.toInt + cf0.toInt = v := ⟨_, rfl⟩
    have y3 : R3.natAbs ≤ 35461397479424 := by rw [← hR3]; exact own_ad z2 k0
    have w3 : Jvm.FP.Core.DInt R3 (own_hr X (own_pf cf0 cf1 cf2 cf3) 3 3) := by rw [← hR3]; exact Jvm.FP.Core.dadd_int v2 d0 (by rw [hR3]; exact Nat.le_trans y3 (by decide))
    have ok : ∀ k, k < 3 → Jvm.Free.Fl.NoNaN64 (FP.dmul (own_hr X (own_pf cf0 cf1 cf2 cf3) 3 k) X) ∧ Jvm.Free.Fl.NoNaN64 (own_hr X (own_pf cf0 cf1 cf2 cf3) 3 (k + 1)) := by
      intro k hk
      match k, hk with
      | 0, _ => exact ⟨Jvm.Own.DI.nn v0, Jvm.Own.DI.nn w1⟩
      | 1, _ => exact ⟨Jvm.Own.DI.nn v1, Jvm.Own.DI.nn w2⟩
      | 2, _ => exact ⟨Jvm.Own.DI.nn v2, Jvm.Own.DI.nn w3⟩
    have same : R3 = u3.toInt := by
      rw [j3, ← hR3, ← hR2, ← hR1]
      simp only [Int.zero_mul, Int.zero_add, Int.add_mul]
      omega
    obtain ⟨T1, h1, k1, X1, e1, E1, A1, st1⟩ := newP X0 hx hZ (aty := .double) (hw _ (List.mem_of_getElem? (i := 0) rfl)) e0 (g := (mkF m 20 #[.val (.int xs), .val (.int nn), .val (.int cf0), .val (.int cf1), .val (.int cf2), .val (.int cf3), .val (.int (3 : Int32)), .val (.long x.toInt64), .second, .unset, .unset, .unset, .unset, .unset] [(.int (3 : Int32))])) rfl (hb hby at_20) rfl (by decide) (cap := 3) (by decide) (by decide) (by decide) (by decide)
    obtain ⟨a1, g1⟩ : ∃ z, z = h0.size := ⟨_, rfl⟩
    rw [← g1] at A1 st1
    have F1 : Jvm.Own.DA Z h1 a1 3 (fun _ => 0) := Jvm.Own.DA.new A1 (by decide)
    have gA : n0 ≤ a1 := Nat.le_trans Z0 (Nat.le_of_eq g1.symm)
    have Z1 : n0 ≤ h1.size := Nat.le_trans Z0 E1.1
    obtain ⟨c2, B2, S2, H2⟩ := id F1
    obtain ⟨T2, h2, X2, e2, W2, st2⟩ := stD X1 hx hZ e1 B2 (j := (0 : Int32)) (x := (FP.i2d cf0)) (by rw [S2]; decide) (g := (mkF m 34 #[.val (.int xs), .val (.int nn), .val (.int cf0), .val (.int cf1), .val (.int cf2), .val (.int cf3), .val (.int (3 : Int32)), .val (.long x.toInt64), .second, .val (.ref a1), .unset, .unset, .unset, .unset] [(.double (FP.i2d cf0)), (.int (0 : Int32)), (.ref a1)])) rfl rfl (hb hby at_34)
    rw [(show (0 : Int32).toNatClampNeg = 0 by decide)] at W2
    have F2 := Jvm.Own.DA.set F1 W2 (by decide)
    have M2 := Fr.snoc X2 N0 gA
    have Z2 : n0 ≤ h2.size := Nat.le_trans Z1 (Nat.le_of_eq W2.size.symm)
    obtain ⟨c3, B3, S3, H3⟩ := id F2
    obtain ⟨T3, h3, X3, e3, W3, st3⟩ := stD X2 hx hZ e2 B3 (j := (1 : Int32)) (x := (FP.i2d cf1)) (by rw [S3]; decide) (g := (mkF m 46 #[.val (.int xs), .val (.int nn), .val (.int cf0), .val (.int cf1), .val (.int cf2), .val (.int cf3), .val (.int (3 : Int32)), .val (.long x.toInt64), .second, .val (.ref a1), .unset, .unset, .unset, .unset] [(.double (FP.i2d cf1)), (.int (1 : Int32)), (.ref a1)])) rfl rfl (hb hby at_46)
    rw [(show (1 : Int32).toNatClampNeg = 1 by decide)] at W3
    have F3 := Jvm.Own.DA.set F2 W3 (by decide)
    have M3 := Fr.snoc X3 M2 gA
    have Z3 : n0 ≤ h3.size := Nat.le_trans Z2 (Nat.le_of_eq W3.size.symm)
    obtain ⟨c4, B4, S4, H4⟩ := id F3
    obtain ⟨T4, h4, X4, e4, W4, st4⟩ := stD X3 hx hZ e3 B4 (j := (2 : Int32)) (x := (FP.i2d cf2)) (by rw [S4]; decide) (g := (mkF m 59 #[.val (.int xs), .val (.int nn), .val (.int cf0), .val (.int cf1), .val (.int cf2), .val (.int cf3), .val (.int (3 : Int32)), .val (.long x.toInt64), .second, .val (.ref a1), .unset, .unset, .unset, .unset] [(.double (FP.i2d cf2)), (.int (2 : Int32)), (.ref a1)])) rfl rfl (hb hby at_59)
    rw [(show (2 : Int32).toNatClampNeg = 2 by decide)] at W4
    have F4 := Jvm.Own.DA.set F3 W4 (by decide)
    have M4 := Fr.snoc X4 M3 gA
    have Z4 : n0 ≤ h4.size := Nat.le_trans Z3 (Nat.le_of_eq W4.size.symm)
    have GA : Jvm.Own.DA Z h4 a1 3 (own_pf cf0 cf1 cf2 cf3) := F4.of (by intro i hi; simp only [own_pf]; (repeat' split) <;> first | rfl | omega)
    obtain ⟨_, _, ⟨T7, L7, k7, n7⟩, -, X7, ⟨Lc7, hQ7, l7, y7, z7⟩, st7⟩ := Jvm.LawKit.callS X4 hx (y := (⟨"com/example/helioarc/helioarc/Spa", "polynomial", "(D[D)D"⟩ : MethodName)) hown (mvT hZ (hw _ (List.mem_of_getElem? (i := 1) rfl))) (mvT hZ (hw _ (List.mem_of_getElem? (i := 2) rfl))) (mvT hZ (hw _ (List.mem_of_getElem? (i := 3) rfl))) (mvT hZ (hw _ (List.mem_of_getElem? (i := 4) rfl))) (by decide) (backOf (W := 0) (rmPo l Z a0 hw [] X a1 h4 n0 Z4 3 (own_pf cf0 cf1 cf2 cf3) (by simp) GA ok) hZ (hw _ (List.mem_of_getElem? (i := 4) rfl)) (hw _ (List.mem_of_getElem? (i := 3) rfl)) (by decide) (by decide)) (g := (mkF m 152 #[.val (.int xs), .val (.int nn), .val (.int cf0), .val (.int cf1), .val (.int cf2), .val (.int cf3), .val (.int (3 : Int32)), .val (.long x.toInt64), .second, .val (.ref a1), .val (.long u3), .second, .unset, .unset] [(.ref a1), (.double X)])) rfl (by rw [hml]; rfl) (argsL := [(.double X), (.ref a1)]) (rest := []) (lenOf pd_0 rfl) rfl (by show 2 * 0 + _ ≤ _; exact Nat.le_of_eq rfl) (hb hby at_152) (fun _ _ => ⟨rfl, e4, (by decide : 1 + 0 ≤ _), (by decide : 3 + 0 ≤ _)⟩)
    dsimp only [Pt.U, Pt.locs, Pt.cells, Pt.slots] at X7 l7 y7 z7 st7 hQ7
    subst l7 y7 z7
    obtain ⟨rfl, N7, e7⟩ := hQ7
    have fin : ifCond.holds .ne (Jvm.Op.cmpValue (FP.dcmp (own_hr X (own_pf cf0 cf1 cf2 cf3) 3 3) (FP.l2d u3)) .l) = false := (Jvm.Own.holdsW w3 (Jvm.FP.Core.l2d_int (a := u3) (by rw [← same]; exact Nat.le_trans y3 (by decide))) _ _).trans (Jvm.Own.dF (by rw [same]; exact fun q => q rfl))
    obtain ⟨fs, hr, hrun, hended, hW, hsame⟩ := X7.leave (v := some (.int (1 : Int32))) (fun h => by rw [Bd.returns] at h; cases h)
    refine ⟨_, _, pre0 _ ?_, hrun, hended, _, _, rfl, ?_, ⟨_, rfl⟩, hW, hsame.mono (by decide) (by decide)⟩
    · show Steps p.tables e below (s₁.setTop (mkF m 0 #[.val (.int xs), .val (.int nn), .val (.int cf0), .val (.int cf1), .val (.int cf2), .val (.int cf3), .unset, .unset, .unset, .unset, .unset, .unset, .unset, .unset] [])) _
      refine XS.iloadN X0.here hx rfl (hb hby at_0) rfl ?_
      show Steps p.tables e below (s₁.setTop (mkF m 1 #[.val (.int xs), .val (.int nn), .val (.int cf0), .val (.int cf1), .val (.int cf2), .val (.int cf3), .unset, .unset, .unset, .unset, .unset, .unset, .unset, .unset] [(.int nn)])) _
      refine XS.bipush X0.here hx rfl (hb hby at_1) ?_
      show Steps p.tables e below (s₁.setTop (mkF m 3 #[.val (.int xs), .val (.int nn), .val (.int cf0), .val (.int cf1), .val (.int cf2), .val (.int cf3), .unset, .unset, .unset, .unset, .unset, .unset, .unset, .unset] [(.int (7 : Int32)), (.int nn)])) _
      refine XS.iand X0.here hx rfl (hb hby at_3) rfl ?_
      show Steps p.tables e below (s₁.setTop (mkF m 4 #[.val (.int xs), .val (.int nn), .val (.int cf0), .val (.int cf1), .val (.int cf2), .val (.int cf3), .unset, .unset, .unset, .unset, .unset, .unset, .unset, .unset] [(.int (nn &&& (7 : Int32)))])) _
      refine XS.iconst X0.here hx rfl (hb hby at_4) ?_
      show Steps p.tables e below (s₁.setTop (mkF m 5 #[.val (.int xs), .val (.int nn), .val (.int cf0), .val (.int cf1), .val (.int cf2), .val (.int cf3), .unset, .unset, .unset, .unset, .unset, .unset, .unset, .unset] [(.int (5 : Int32)), (.int (nn &&& (7 : Int32)))])) _
      refine XS.irem X0.here hx rfl (hb hby at_5) rfl (by decide) ?_
      rw [hn]
      show Steps p.tables e below (s₁.setTop (mkF m 6 #[.val (.int xs), .val (.int nn), .val (.int cf0), .val (.int cf1), .val (.int cf2), .val (.int cf3), .unset, .unset, .unset, .unset, .unset, .unset, .unset, .unset] [(.int (3 : Int32))])) _
      refine XS.istore X0.here hx rfl (hb hby at_6) rfl (l' := #[.val (.int xs), .val (.int nn), .val (.int cf0), .val (.int cf1), .val (.int cf2), .val (.int cf3), .val (.int (3 : Int32)), .unset, .unset, .unset, .unset, .unset, .unset, .unset]) rfl ?_
      show Steps p.tables e below (s₁.setTop (mkF m 8 #[.val (.int xs), .val (.int nn), .val (.int cf0), .val (.int cf1), .val (.int cf2), .val (.int cf3), .val (.int (3 : Int32)), .unset, .unset, .unset, .unset, .unset, .unset, .unset] [])) _
      refine XS.iloadN X0.here hx rfl (hb hby at_8) rfl ?_
      show Steps p.tables e below (s₁.setTop (mkF m 9 #[.val (.int xs), .val (.int nn), .val (.int cf0), .val (.int cf1), .val (.int cf2), .val (.int cf3), .val (.int (3 : Int32)), .unset, .unset, .unset, .unset, .unset, .unset, .unset] [(.int xs)])) _
      refine XS.bipush X0.here hx rfl (hb hby at_9) ?_
      show Steps p.tables e below (s₁.setTop (mkF m 11 #[.val (.int xs), .val (.int nn), .val (.int cf0), .val (.int cf1), .val (.int cf2), .val (.int cf3), .val (.int (3 : Int32)), .unset, .unset, .unset, .unset, .unset, .unset, .unset] [(.int (24 : Int32)), (.int xs)])) _
      refine XS.ishl X0.here hx rfl (hb hby at_11) rfl ?_
      show Steps p.tables e below (s₁.setTop (mkF m 12 #[.val (.int xs), .val (.int nn), .val (.int cf0), .val (.int cf1), .val (.int cf2), .val (.int cf3), .val (.int (3 : Int32)), .unset, .unset, .unset, .unset, .unset, .unset, .unset] [(.int (xs <<< ((24 : Int32) &&& 31)))])) _
      refine XS.bipush X0.here hx rfl (hb hby at_12) ?_
      show Steps p.tables e below (s₁.setTop (mkF m 14 #[.val (.int xs), .val (.int nn), .val (.int cf0), .val (.int cf1), .val (.int cf2), .val (.int cf3), .val (.int (3 : Int32)), .unset, .unset, .unset, .unset, .unset, .unset, .unset] [(.int (24 : Int32)), (.int (xs <<< ((24 : Int32) &&& 31)))])) _
      refine XS.ishr X0.here hx rfl (hb hby at_14) rfl ?_
      rw [hx0]
      show Steps p.tables e below (s₁.setTop (mkF m 15 #[.val (.int xs), .val (.int nn), .val (.int cf0), .val (.int cf1), .val (.int cf2), .val (.int cf3), .val (.int (3 : Int32)), .unset, .unset, .unset, .unset, .unset, .unset, .unset] [(.int x)])) _
      refine XS.i2l X0.here hx rfl (hb hby at_15) rfl ?_
      show Steps p.tables e below (s₁.setTop (mkF m 16 #[.val (.int xs), .val (.int nn), .val (.int cf0), .val (.int cf1), .val (.int cf2), .val (.int cf3), .val (.int (3 : Int32)), .unset, .unset, .unset, .unset, .unset, .unset, .unset] [(.long x.toInt64)])) _
      refine XS.lstore X0.here hx rfl (hb hby at_16) rfl (l' := #[.val (.int xs), .val (.int nn), .val (.int cf0), .val (.int cf1), .val (.int cf2), .val (.int cf3), .val (.int (3 : Int32)), .val (.long x.toInt64), .second, .unset, .unset, .unset, .unset, .unset]) rfl ?_
      show Steps p.tables e below (s₁.setTop (mkF m 18 #[.val (.int xs), .val (.int nn), .val (.int cf0), .val (.int cf1), .val (.int cf2), .val (.int cf3), .val (.int (3 : Int32)), .val (.long x.toInt64), .second, .unset, .unset, .unset, .unset, .unset] [])) _
      refine XS.iload X0.here hx rfl (hb hby at_18) rfl ?_
      show Steps p.tables e below (s₁.setTop (mkF m 20 #[.val (.int xs), .val (.int nn), .val (.int cf0), .val (.int cf1), .val (.int cf2), .val (.int cf3), .val (.int (3 : Int32)), .val (.long x.toInt64), .second, .unset, .unset, .unset, .unset, .unset] [(.int (3 : Int32))])) _
      refine st1 _ ?_
      show Steps p.tables e below (T1.setTop (mkF m 22 #[.val (.int xs), .val (.int nn), .val (.int cf0), .val (.int cf1), .val (.int cf2), .val (.int cf3), .val (.int (3 : Int32)), .val (.long x.toInt64), .second, .unset, .unset, .unset, .unset, .unset] [(.ref a1)])) _
      refine XS.astore X1.here hx rfl (hb hby at_22) rfl rfl (l' := #[.val (.int xs), .val (.int nn), .val (.int cf0), .val (.int cf1), .val (.int cf2), .val (.int cf3), .val (.int (3 : Int32)), .val (.long x.toInt64), .second, .val (.ref a1), .unset, .unset, .unset, .unset]) rfl ?_
      show Steps p.tables e below (T1.setTop (mkF m 24 #[.val (.int xs), .val (.int nn), .val (.int cf0), .val (.int cf1), .val (.int cf2), .val (.int cf3), .val (.int (3 : Int32)), .val (.long x.toInt64), .second, .val (.ref a1), .unset, .unset, .unset, .unset] [])) _
      refine XS.iload X1.here hx rfl (hb hby at_24) rfl ?_
      show Steps p.tables e below (T1.setTop (mkF m 26 #[.val (.int xs), .val (.int nn), .val (.int cf0), .val (.int cf1), .val (.int cf2), .val (.int cf3), .val (.int (3 : Int32)), .val (.long x.toInt64), .second, .val (.ref a1), .unset, .unset, .unset, .unset] [(.int (3 : Int32))])) _
      refine XS.ifNo X1.here hx rfl (hb hby at_26) rfl rfl ?_
      show Steps p.tables e below (T1.setTop (mkF m 29 #[.val (.int xs), .val (.int nn), .val (.int cf0), .val (.int cf1), .val (.int cf2), .val (.int cf3), .val (.int (3 : Int32)), .val (.long x.toInt64), .second, .val (.ref a1), .unset, .unset, .unset, .unset] [])) _
      refine XS.aload X1.here hx rfl (hb hby at_29) rfl rfl ?_
      show Steps p.tables e below (T1.setTop (mkF m 31 #[.val (.int xs), .val (.int nn), .val (.int cf0), .val (.int cf1), .val (.int cf2), .val (.int cf3), .val (.int (3 : Int32)), .val (.long x.toInt64), .second, .val (.ref a1), .unset, .unset, .unset, .unset] [(.ref a1)])) _
      refine XS.iconst X1.here hx rfl (hb hby at_31) ?_
      show Steps p.tables e below (T1.setTop (mkF m 32 #[.val (.int xs), .val (.int nn), .val (.int cf0), .val (.int cf1), .val (.int cf2), .val (.int cf3), .val (.int (3 : Int32)), .val (.long x.toInt64), .second, .val (.ref a1), .unset, .unset, .unset, .unset] [(.int (0 : Int32)), (.ref a1)])) _
      refine XS.iloadN X1.here hx rfl (hb hby at_32) rfl ?_
      show Steps p.tables e below (T1.setTop (mkF m 33 #[.val (.int xs), .val (.int nn), .val (.int cf0), .val (.int cf1), .val (.int cf2), .val (.int cf3), .val (.int (3 : Int32)), .val (.long x.toInt64), .second, .val (.ref a1), .unset, .unset, .unset, .unset] [(.int cf0), (.int (0 : Int32)), (.ref a1)])) _
      refine XS.i2dS X1.here hx rfl (hb hby at_33) rfl (v := FP.i2d cf0) rfl ?_
      show Steps p.tables e below (T1.setTop (mkF m 34 #[.val (.int xs), .val (.int nn), .val (.int cf0), .val (.int cf1), .val (.int cf2), .val (.int cf3), .val (.int (3 : Int32)), .val (.long x.toInt64), .second, .val (.ref a1), .unset, .unset, .unset, .unset] [(.double (FP.i2d cf0)), (.int (0 : Int32)), (.ref a1)])) _
      refine st2 _ ?_
      show Steps p.tables e below (T2.setTop (mkF m 35 #[.val (.int xs), .val (.int nn), .val (.int cf0), .val (.int cf1), .val (.int cf2), .val (.int cf3), .val (.int (3 : Int32)), .val (.long x.toInt64), .second, .val (.ref a1), .unset, .unset, .unset, .unset] [])) _
      refine XS.iload X2.here hx rfl (hb hby at_35) rfl ?_
      show Steps p.tables e below (T2.setTop (mkF m 37 #[.val (.int xs), .val (.int nn), .val (.int cf0), .val (.int cf1), .val (.int cf2), .val (.int cf3), .val (.int (3 : Int32)), .val (.long x.toInt64), .second, .val (.ref a1), .unset, .unset, .unset, .unset] [(.int (3 : Int32))])) _
      refine XS.iconst X2.here hx rfl (hb hby at_37) ?_
      show Steps p.tables e below (T2.setTop (mkF m 38 #[.val (.int xs), .val (.int nn), .val (.int cf0), .val (.int cf1), .val (.int cf2), .val (.int cf3), .val (.int (3 : Int32)), .val (.long x.toInt64), .second, .val (.ref a1), .unset, .unset, .unset, .unset] [(.int (1 : Int32)), (.int (3 : Int32))])) _
      refine XS.icmpNo X2.here hx rfl (hb hby at_38) rfl rfl ?_
      show Steps p.tables e below (T2.setTop (mkF m 41 #[.val (.int xs), .val (.int nn), .val (.int cf0), .val (.int cf1), .val (.int cf2), .val (.int cf3), .val (.int (3 : Int32)), .val (.long x.toInt64), .second, .val (.ref a1), .unset, .unset, .unset, .unset] [])) _
      refine XS.aload X2.here hx rfl (hb hby at_41) rfl rfl ?_
      show Steps p.tables e below (T2.setTop (mkF m 43 #[.val (.int xs), .val (.int nn), .val (.int cf0), .val (.int cf1), .val (.int cf2), .val (.int cf3), .val (.int (3 : Int32)), .val (.long x.toInt64), .second, .val (.ref a1), .unset, .unset, .unset, .unset] [(.ref a1)])) _
      refine XS.iconst X2.here hx rfl (hb hby at_43) ?_
      show Steps p.tables e below (T2.setTop (mkF m 44 #[.val (.int xs), .val (.int nn), .val (.int cf0), .val (.int cf1), .val (.int cf2), .val (.int cf3), .val (.int (3 : Int32)), .val (.long x.toInt64), .second, .val (.ref a1), .unset, .unset, .unset, .unset] [(.int (1 : Int32)), (.ref a1)])) _
      refine XS.iloadN X2.here hx rfl (hb hby at_44) rfl ?_
      show Steps p.tables e below (T2.setTop (mkF m 45 #[.val (.int xs), .val (.int nn), .val (.int cf0), .val (.int cf1), .val (.int cf2), .val (.int cf3), .val (.int (3 : Int32)), .val (.long x.toInt64), .second, .val (.ref a1), .unset, .unset, .unset, .unset] [(.int cf1), (.int (1 : Int32)), (.ref a1)])) _
      refine XS.i2dS X2.here hx rfl (hb hby at_45) rfl (v := FP.i2d cf1) rfl ?_
      show Steps p.tables e below (T2.setTop (mkF m 46 #[.val (.int xs), .val (.int nn), .val (.int cf0), .val (.int cf1), .val (.int cf2), .val (.int cf3), .val (.int (3 : Int32)), .val (.long x.toInt64), .second, .val (.ref a1), .unset, .unset, .unset, .unset] [(.double (FP.i2d cf1)), (.int (1 : Int32)), (.ref a1)])) _
      refine st3 _ ?_
      show Steps p.tables e below (T3.setTop (mkF m 47 #[.val (.int xs), .val (.int nn), .val (.int cf0), .val (.int cf1), .val (.int cf2), .val (.int cf3), .val (.int (3 : Int32)), .val (.long x.toInt64), .second, .val (.ref a1), .unset, .unset, .unset, .unset] [])) _
      refine XS.iload X3.here hx rfl (hb hby at_47) rfl ?_
      show Steps p.tables e below (T3.setTop (mkF m 49 #[.val (.int xs), .val (.int nn), .val (.int cf0), .val (.int cf1), .val (.int cf2), .val (.int cf3), .val (.int (3 : Int32)), .val (.long x.toInt64), .second, .val (.ref a1), .unset, .unset, .unset, .unset] [(.int (3 : Int32))])) _
      refine XS.iconst X3.here hx rfl (hb hby at_49) ?_
      show Steps p.tables e below (T3.setTop (mkF m 50 #[.val (.int xs), .val (.int nn), .val (.int cf0), .val (.int cf1), .val (.int cf2), .val (.int cf3), .val (.int (3 : Int32)), .val (.long x.toInt64), .second, .val (.ref a1), .unset, .unset, .unset, .unset] [(.int (2 : Int32)), (.int (3 : Int32))])) _
      refine XS.icmpNo X3.here hx rfl (hb hby at_50) rfl rfl ?_
      show Steps p.tables e below (T3.setTop (mkF m 53 #[.val (.int xs), .val (.int nn), .val (.int cf0), .val (.int cf1), .val (.int cf2), .val (.int cf3), .val (.int (3 : Int32)), .val (.long x.toInt64), .second, .val (.ref a1), .unset, .unset, .unset, .unset] [])) _
      refine XS.aload X3.here hx rfl (hb hby at_53) rfl rfl ?_
      show Steps p.tables e below (T3.setTop (mkF m 55 #[.val (.int xs), .val (.int nn), .val (.int cf0), .val (.int cf1), .val (.int cf2), .val (.int cf3), .val (.int (3 : Int32)), .val (.long x.toInt64), .second, .val (.ref a1), .unset, .unset, .unset, .unset] [(.ref a1)])) _
      refine XS.iconst X3.here hx rfl (hb hby at_55) ?_
      show Steps p.tables e below (T3.setTop (mkF m 56 #[.val (.int xs), .val (.int nn), .val (.int cf0), .val (.int cf1), .val (.int cf2), .val (.int cf3), .val (.int (3 : Int32)), .val (.long x.toInt64), .second, .val (.ref a1), .unset, .unset, .unset, .unset] [(.int (2 : Int32)), (.ref a1)])) _
      refine XS.iload X3.here hx rfl (hb hby at_56) rfl ?_
      show Steps p.tables e below (T3.setTop (mkF m 58 #[.val (.int xs), .val (.int nn), .val (.int cf0), .val (.int cf1), .val (.int cf2), .val (.int cf3), .val (.int (3 : Int32)), .val (.long x.toInt64), .second, .val (.ref a1), .unset, .unset, .unset, .unset] [(.int cf2), (.int (2 : Int32)), (.ref a1)])) _
      refine XS.i2dS X3.here hx rfl (hb hby at_58) rfl (v := FP.i2d cf2) rfl ?_
      show Steps p.tables e below (T3.setTop (mkF m 59 #[.val (.int xs), .val (.int nn), .val (.int cf0), .val (.int cf1), .val (.int cf2), .val (.int cf3), .val (.int (3 : Int32)), .val (.long x.toInt64), .second, .val (.ref a1), .unset, .unset, .unset, .unset] [(.double (FP.i2d cf2)), (.int (2 : Int32)), (.ref a1)])) _
      refine st4 _ ?_
      show Steps p.tables e below (T4.setTop (mkF m 60 #[.val (.int xs), .val (.int nn), .val (.int cf0), .val (.int cf1), .val (.int cf2), .val (.int cf3), .val (.int (3 : Int32)), .val (.long x.toInt64), .second, .val (.ref a1), .unset, .unset, .unset, .unset] [])) _
      refine XS.iload X4.here hx rfl (hb hby at_60) rfl ?_
      show Steps p.tables e below (T4.setTop (mkF m 62 #[.val (.int xs), .val (.int nn), .val (.int cf0), .val (.int cf1), .val (.int cf2), .val (.int cf3), .val (.int (3 : Int32)), .val (.long x.toInt64), .second, .val (.ref a1), .unset, .unset, .unset, .unset] [(.int (3 : Int32))])) _
      refine XS.iconst X4.here hx rfl (hb hby at_62) ?_
      show Steps p.tables e below (T4.setTop (mkF m 63 #[.val (.int xs), .val (.int nn), .val (.int cf0), .val (.int cf1), .val (.int cf2), .val (.int cf3), .val (.int (3 : Int32)), .val (.long x.toInt64), .second, .val (.ref a1), .unset, .unset, .unset, .unset] [(.int (3 : Int32)), (.int (3 : Int32))])) _
      refine XS.icmpYes X4.here hx rfl (pc0 := 63) (pc' := 73) rfl (hb hby at_63) rfl rfl (by decide) (by decide) ?_
      show Steps p.tables e below (T4.setTop (mkF m 73 #[.val (.int xs), .val (.int nn), .val (.int cf0), .val (.int cf1), .val (.int cf2), .val (.int cf3), .val (.int (3 : Int32)), .val (.long x.toInt64), .second, .val (.ref a1), .unset, .unset, .unset, .unset] [])) _
      refine XS.lconst X4.here hx rfl (hb hby at_73) ?_
      show Steps p.tables e below (T4.setTop (mkF m 74 #[.val (.int xs), .val (.int nn), .val (.int cf0), .val (.int cf1), .val (.int cf2), .val (.int cf3), .val (.int (3 : Int32)), .val (.long x.toInt64), .second, .val (.ref a1), .unset, .unset, .unset, .unset] [(.long (0 : Int64))])) _
      refine XS.lstore X4.here hx rfl (hb hby at_74) rfl (l' := #[.val (.int xs), .val (.int nn), .val (.int cf0), .val (.int cf1), .val (.int cf2), .val (.int cf3), .val (.int (3 : Int32)), .val (.long x.toInt64), .second, .val (.ref a1), .val (.long (0 : Int64)), .second, .unset, .unset]) rfl ?_
      show Steps p.tables e below (T4.setTop (mkF m 76 #[.val (.int xs), .val (.int nn), .val (.int cf0), .val (.int cf1), .val (.int cf2), .val (.int cf3), .val (.int (3 : Int32)), .val (.long x.toInt64), .second, .val (.ref a1), .val (.long (0 : Int64)), .second, .unset, .unset] [])) _
      refine XS.iload X4.here hx rfl (hb hby at_76) rfl ?_
      show Steps p.tables e below (T4.setTop (mkF m 78 #[.val (.int xs), .val (.int nn), .val (.int cf0), .val (.int cf1), .val (.int cf2), .val (.int cf3), .val (.int (3 : Int32)), .val (.long x.toInt64), .second, .val (.ref a1), .val (.long (0 : Int64)), .second, .unset, .unset] [(.int (3 : Int32))])) _
      refine XS.ifNo X4.here hx rfl (hb hby at_78) rfl rfl ?_
      show Steps p.tables e below (T4.setTop (mkF m 81 #[.val (.int xs), .val (.int nn), .val (.int cf0), .val (.int cf1), .val (.int cf2), .val (.int cf3), .val (.int (3 : Int32)), .val (.long x.toInt64), .second, .val (.ref a1), .val (.long (0 : Int64)), .second, .unset, .unset] [])) _
      refine XS.lload X4.here hx rfl (hb hby at_81) rfl ?_
      show Steps p.tables e below (T4.setTop (mkF m 83 #[.val (.int xs), .val (.int nn), .val (.int cf0), .val (.int cf1), .val (.int cf2), .val (.int cf3), .val (.int (3 : Int32)), .val (.long x.toInt64), .second, .val (.ref a1), .val (.long (0 : Int64)), .second, .unset, .unset] [(.long (0 : Int64))])) _
      refine XS.iloadN X4.here hx rfl (hb hby at_83) rfl ?_
      show Steps p.tables e below (T4.setTop (mkF m 84 #[.val (.int xs), .val (.int nn), .val (.int cf0), .val (.int cf1), .val (.int cf2), .val (.int cf3), .val (.int (3 : Int32)), .val (.long x.toInt64), .second, .val (.ref a1), .val (.long (0 : Int64)), .second, .unset, .unset] [(.int cf0), (.long (0 : Int64))])) _
      refine XS.i2l X4.here hx rfl (hb hby at_84) rfl ?_
      show Steps p.tables e below (T4.setTop (mkF m 85 #[.val (.int xs), .val (.int nn), .val (.int cf0), .val (.int cf1), .val (.int cf2), .val (.int cf3), .val (.int (3 : Int32)), .val (.long x.toInt64), .second, .val (.ref a1), .val (.long (0 : Int64)), .second, .unset, .unset] [(.long cf0.toInt64), (.long (0 : Int64))])) _
      refine XS.ladd X4.here hx rfl (hb hby at_85) rfl ?_
      rw [hu1]
      show Steps p.tables e below (T4.setTop (mkF m 86 #[.val (.int xs), .val (.int nn), .val (.int cf0), .val (.int cf1), .val (.int cf2), .val (.int cf3), .val (.int (3 : Int32)), .val (.long x.toInt64), .second, .val (.ref a1), .val (.long (0 : Int64)), .second, .unset, .unset] [(.long u1)])) _
      refine XS.lstore X4.here hx rfl (hb hby at_86) rfl (l' := #[.val (.int xs), .val (.int nn), .val (.int cf0), .val (.int cf1), .val (.int cf2), .val (.int cf3), .val (.int (3 : Int32)), .val (.long x.toInt64), .second, .val (.ref a1), .val (.long u1), .second, .unset, .unset]) rfl ?_
      show Steps p.tables e below (T4.setTop (mkF m 88 #[.val (.int xs), .val (.int nn), .val (.int cf0), .val (.int cf1), .val (.int cf2), .val (.int cf3), .val (.int (3 : Int32)), .val (.long x.toInt64), .second, .val (.ref a1), .val (.long u1), .second, .unset, .unset] [])) _
      refine XS.iload X4.here hx rfl (hb hby at_88) rfl ?_
      show Steps p.tables e below (T4.setTop (mkF m 90 #[.val (.int xs), .val (.int nn), .val (.int cf0), .val (.int cf1), .val (.int cf2), .val (.int cf3), .val (.int (3 : Int32)), .val (.long x.toInt64), .second, .val (.ref a1), .val (.long u1), .second, .unset, .unset] [(.int (3 : Int32))])) _
      refine XS.iconst X4.here hx rfl (hb hby at_90) ?_
      show Steps p.tables e below (T4.setTop (mkF m 91 #[.val (.int xs), .val (.int nn), .val (.int cf0), .val (.int cf1), .val (.int cf2), .val (.int cf3), .val (.int (3 : Int32)), .val (.long x.toInt64), .second, .val (.ref a1), .val (.long u1), .second, .unset, .unset] [(.int (1 : Int32)), (.int (3 : Int32))])) _
      refine XS.icmpNo X4.here hx rfl (hb hby at_91) rfl rfl ?_
      show Steps p.tables e below (T4.setTop (mkF m 94 #[.val (.int xs), .val (.int nn), .val (.int cf0), .val (.int cf1), .val (.int cf2), .val (.int cf3), .val (.int (3 : Int32)), .val (.long x.toInt64), .second, .val (.ref a1), .val (.long u1), .second, .unset, .unset] [])) _
      refine XS.lload X4.here hx rfl (hb hby at_94) rfl ?_
      show Steps p.tables e below (T4.setTop (mkF m 96 #[.val (.int xs), .val (.int nn), .val (.int cf0), .val (.int cf1), .val (.int cf2), .val (.int cf3), .val (.int (3 : Int32)), .val (.long x.toInt64), .second, .val (.ref a1), .val (.long u1), .second, .unset, .unset] [(.long u1)])) _
      refine XS.iloadN X4.here hx rfl (hb hby at_96) rfl ?_
      show Steps p.tables e below (T4.setTop (mkF m 97 #[.val (.int xs), .val (.int nn), .val (.int cf0), .val (.int cf1), .val (.int cf2), .val (.int cf3), .val (.int (3 : Int32)), .val (.long x.toInt64), .second, .val (.ref a1), .val (.long u1), .second, .unset, .unset] [(.int cf1), (.long u1)])) _
      refine XS.i2l X4.here hx rfl (hb hby at_97) rfl ?_
      show Steps p.tables e below (T4.setTop (mkF m 98 #[.val (.int xs), .val (.int nn), .val (.int cf0), .val (.int cf1), .val (.int cf2), .val (.int cf3), .val (.int (3 : Int32)), .val (.long x.toInt64), .second, .val (.ref a1), .val (.long u1), .second, .unset, .unset] [(.long cf1.toInt64), (.long u1)])) _
      refine XS.lload X4.here hx rfl (hb hby at_98) rfl ?_
      show Steps p.tables e below (T4.setTop (mkF m 100 #[.val (.int xs), .val (.int nn), .val (.int cf0), .val (.int cf1), .val (.int cf2), .val (.int cf3), .val (.int (3 : Int32)), .val (.long x.toInt64), .second, .val (.ref a1), .val (.long u1), .second, .unset, .unset] [(.long x.toInt64), (.long cf1.toInt64), (.long u1)])) _
      refine XS.lmul X4.here hx rfl (hb hby at_100) rfl ?_
      show Steps p.tables e below (T4.setTop (mkF m 101 #[.val (.int xs), .val (.int nn), .val (.int cf0), .val (.int cf1), .val (.int cf2), .val (.int cf3), .val (.int (3 : Int32)), .val (.long x.toInt64), .second, .val (.ref a1), .val (.long u1), .second, .unset, .unset] [(.long (cf1.toInt64 * x.toInt64)), (.long u1)])) _
      refine XS.ladd X4.here hx rfl (hb hby at_101) rfl ?_
      rw [hu2]
      show Steps p.tables e below (T4.setTop (mkF m 102 #[.val (.int xs), .val (.int nn), .val (.int cf0), .val (.int cf1), .val (.int cf2), .val (.int cf3), .val (.int (3 : Int32)), .val (.long x.toInt64), .second, .val (.ref a1), .val (.long u1), .second, .unset, .unset] [(.long u2)])) _
      refine XS.lstore X4.here hx rfl (hb hby at_102) rfl (l' := #[.val (.int xs), .val (.int nn), .val (.int cf0), .val (.int cf1), .val (.int cf2), .val (.int cf3), .val (.int (3 : Int32)), .val (.long x.toInt64), .second, .val (.ref a1), .val (.long u2), .second, .unset, .unset]) rfl ?_
      show Steps p.tables e below (T4.setTop (mkF m 104 #[.val (.int xs), .val (.int nn), .val (.int cf0), .val (.int cf1), .val (.int cf2), .val (.int cf3), .val (.int (3 : Int32)), .val (.long x.toInt64), .second, .val (.ref a1), .val (.long u2), .second, .unset, .unset] [])) _
      refine XS.iload X4.here hx rfl (hb hby at_104) rfl ?_
      show Steps p.tables e below (T4.setTop (mkF m 106 #[.val (.int xs), .val (.int nn), .val (.int cf0), .val (.int cf1), .val (.int cf2), .val (.int cf3), .val (.int (3 : Int32)), .val (.long x.toInt64), .second, .val (.ref a1), .val (.long u2), .second, .unset, .unset] [(.int (3 : Int32))])) _
      refine XS.iconst X4.here hx rfl (hb hby at_106) ?_
      show Steps p.tables e below (T4.setTop (mkF m 107 #[.val (.int xs), .val (.int nn), .val (.int cf0), .val (.int cf1), .val (.int cf2), .val (.int cf3), .val (.int (3 : Int32)), .val (.long x.toInt64), .second, .val (.ref a1), .val (.long u2), .second, .unset, .unset] [(.int (2 : Int32)), (.int (3 : Int32))])) _
      refine XS.icmpNo X4.here hx rfl (hb hby at_107) rfl rfl ?_
      show Steps p.tables e below (T4.setTop (mkF m 110 #[.val (.int xs), .val (.int nn), .val (.int cf0), .val (.int cf1), .val (.int cf2), .val (.int cf3), .val (.int (3 : Int32)), .val (.long x.toInt64), .second, .val (.ref a1), .val (.long u2), .second, .unset, .unset] [])) _
      refine XS.lload X4.here hx rfl (hb hby at_110) rfl ?_
      show Steps p.tables e below (T4.setTop (mkF m 112 #[.val (.int xs), .val (.int nn), .val (.int cf0), .val (.int cf1), .val (.int cf2), .val (.int cf3), .val (.int (3 : Int32)), .val (.long x.toInt64), .second, .val (.ref a1), .val (.long u2), .second, .unset, .unset] [(.long u2)])) _
      refine XS.iload X4.here hx rfl (hb hby at_112) rfl ?_
      show Steps p.tables e below (T4.setTop (mkF m 114 #[.val (.int xs), .val (.int nn), .val (.int cf0), .val (.int cf1), .val (.int cf2), .val (.int cf3), .val (.int (3 : Int32)), .val (.long x.toInt64), .second, .val (.ref a1), .val (.long u2), .second, .unset, .unset] [(.int cf2), (.long u2)])) _
      refine XS.i2l X4.here hx rfl (hb hby at_114) rfl ?_
      show Steps p.tables e below (T4.setTop (mkF m 115 #[.val (.int xs), .val (.int nn), .val (.int cf0), .val (.int cf1), .val (.int cf2), .val (.int cf3), .val (.int (3 : Int32)), .val (.long x.toInt64), .second, .val (.ref a1), .val (.long u2), .second, .unset, .unset] [(.long cf2.toInt64), (.long u2)])) _
      refine XS.lload X4.here hx rfl (hb hby at_115) rfl ?_
      show Steps p.tables e below (T4.setTop (mkF m 117 #[.val (.int xs), .val (.int nn), .val (.int cf0), .val (.int cf1), .val (.int cf2), .val (.int cf3), .val (.int (3 : Int32)), .val (.long x.toInt64), .second, .val (.ref a1), .val (.long u2), .second, .unset, .unset] [(.long x.toInt64), (.long cf2.toInt64), (.long u2)])) _
      refine XS.lmul X4.here hx rfl (hb hby at_117) rfl ?_
      show Steps p.tables e below (T4.setTop (mkF m 118 #[.val (.int xs), .val (.int nn), .val (.int cf0), .val (.int cf1), .val (.int cf2), .val (.int cf3), .val (.int (3 : Int32)), .val (.long x.toInt64), .second, .val (.ref a1), .val (.long u2), .second, .unset, .unset] [(.long (cf2.toInt64 * x.toInt64)), (.long u2)])) _
      refine XS.lload X4.here hx rfl (hb hby at_118) rfl ?_
      show Steps p.tables e below (T4.setTop (mkF m 120 #[.val (.int xs), .val (.int nn), .val (.int cf0), .val (.int cf1), .val (.int cf2), .val (.int cf3), .val (.int (3 : Int32)), .val (.long x.toInt64), .second, .val (.ref a1), .val (.long u2), .second, .unset, .unset] [(.long x.toInt64), (.long (cf2.toInt64 * x.toInt64)), (.long u2)])) _
      refine XS.lmul X4.here hx rfl (hb hby at_120) rfl ?_
      show Steps p.tables e below (T4.setTop (mkF m 121 #[.val (.int xs), .val (.int nn), .val (.int cf0), .val (.int cf1), .val (.int cf2), .val (.int cf3), .val (.int (3 : Int32)), .val (.long x.toInt64), .second, .val (.ref a1), .val (.long u2), .second, .unset, .unset] [(.long ((cf2.toInt64 * x.toInt64) * x.toInt64)), (.long u2)])) _
      refine XS.ladd X4.here hx rfl (hb hby at_121) rfl ?_
      rw [hu3]
      show Steps p.tables e below (T4.setTop (mkF m 122 #[.val (.int xs), .val (.int nn), .val (.int cf0), .val (.int cf1), .val (.int cf2), .val (.int cf3), .val (.int (3 : Int32)), .val (.long x.toInt64), .second, .val (.ref a1), .val (.long u2), .second, .unset, .unset] [(.long u3)])) _
      refine XS.lstore X4.here hx rfl (hb hby at_122) rfl (l' := #[.val (.int xs), .val (.int nn), .val (.int cf0), .val (.int cf1), .val (.int cf2), .val (.int cf3), .val (.int (3 : Int32)), .val (.long x.toInt64), .second, .val (.ref a1), .val (.long u3), .second, .unset, .unset]) rfl ?_
      show Steps p.tables e below (T4.setTop (mkF m 124 #[.val (.int xs), .val (.int nn), .val (.int cf0), .val (.int cf1), .val (.int cf2), .val (.int cf3), .val (.int (3 : Int32)), .val (.long x.toInt64), .second, .val (.ref a1), .val (.long u3), .second, .unset, .unset] [])) _
      refine XS.iload X4.here hx rfl (hb hby at_124) rfl ?_
      show Steps p.tables e below (T4.setTop (mkF m 126 #[.val (.int xs), .val (.int nn), .val (.int cf0), .val (.int cf1), .val (.int cf2), .val (.int cf3), .val (.int (3 : Int32)), .val (.long x.toInt64), .second, .val (.ref a1), .val (.long u3), .second, .unset, .unset] [(.int (3 : Int32))])) _
      refine XS.iconst X4.here hx rfl (hb hby at_126) ?_
      show Steps p.tables e below (T4.setTop (mkF m 127 #[.val (.int xs), .val (.int nn), .val (.int cf0), .val (.int cf1), .val (.int cf2), .val (.int cf3), .val (.int (3 : Int32)), .val (.long x.toInt64), .second, .val (.ref a1), .val (.long u3), .second, .unset, .unset] [(.int (3 : Int32)), (.int (3 : Int32))])) _
      refine XS.icmpYes X4.here hx rfl (pc0 := 127) (pc' := 147) rfl (hb hby at_127) rfl rfl (by decide) (by decide) ?_
      show Steps p.tables e below (T4.setTop (mkF m 147 #[.val (.int xs), .val (.int nn), .val (.int cf0), .val (.int cf1), .val (.int cf2), .val (.int cf3), .val (.int (3 : Int32)), .val (.long x.toInt64), .second, .val (.ref a1), .val (.long u3), .second, .unset, .unset] [])) _
      refine XS.lload X4.here hx rfl (hb hby at_147) rfl ?_
      show Steps p.tables e below (T4.setTop (mkF m 149 #[.val (.int xs), .val (.int nn), .val (.int cf0), .val (.int cf1), .val (.int cf2), .val (.int cf3), .val (.int (3 : Int32)), .val (.long x.toInt64), .second, .val (.ref a1), .val (.long u3), .second, .unset, .unset] [(.long x.toInt64)])) _
      refine XS.l2dS X4.here hx rfl (hb hby at_149) rfl (v := X) hXd ?_
      show Steps p.tables e below (T4.setTop (mkF m 150 #[.val (.int xs), .val (.int nn), .val (.int cf0), .val (.int cf1), .val (.int cf2), .val (.int cf3), .val (.int (3 : Int32)), .val (.long x.toInt64), .second, .val (.ref a1), .val (.long u3), .second, .unset, .unset] [(.double X)])) _
      refine XS.aload X4.here hx rfl (hb hby at_150) rfl rfl ?_
      show Steps p.tables e below (T4.setTop (mkF m 152 #[.val (.int xs), .val (.int nn), .val (.int cf0), .val (.int cf1), .val (.int cf2), .val (.int cf3), .val (.int (3 : Int32)), .val (.long x.toInt64), .second, .val (.ref a1), .val (.long u3), .second, .unset, .unset] [(.ref a1), (.double X)])) _
      refine st7 _ ?_
      show Steps p.tables e below (T7.setTop (mkF m 155 #[.val (.int xs), .val (.int nn), .val (.int cf0), .val (.int cf1), .val (.int cf2), .val (.int cf3), .val (.int (3 : Int32)), .val (.long x.toInt64), .second, .val (.ref a1), .val (.long u3), .second, .unset, .unset] [(.double (own_hr X (own_pf cf0 cf1 cf2 cf3) 3 3))])) _
      refine XS.dstore X7.here hx rfl (hb hby at_155) rfl (l' := #[.val (.int xs), .val (.int nn), .val (.int cf0), .val (.int cf1), .val (.int cf2), .val (.int cf3), .val (.int (3 : Int32)), .val (.long x.toInt64), .second, .val (.ref a1), .val (.long u3), .second, .val (.double (own_hr X (own_pf cf0 cf1 cf2 cf3) 3 3)), .second]) rfl ?_
      show Steps p.tables e below (T7.setTop (mkF m 157 #[.val (.int xs), .val (.int nn), .val (.int cf0), .val (.int cf1), .val (.int cf2), .val (.int cf3), .val (.int (3 : Int32)), .val (.long x.toInt64), .second, .val (.ref a1), .val (.long u3), .second, .val (.double (own_hr X (own_pf cf0 cf1 cf2 cf3) 3 3)), .second] [])) _
      refine XS.dload X7.here hx rfl (hb hby at_157) rfl ?_
      show Steps p.tables e below (T7.setTop (mkF m 159 #[.val (.int xs), .val (.int nn), .val (.int cf0), .val (.int cf1), .val (.int cf2), .val (.int cf3), .val (.int (3 : Int32)), .val (.long x.toInt64), .second, .val (.ref a1), .val (.long u3), .second, .val (.double (own_hr X (own_pf cf0 cf1 cf2 cf3) 3 3)), .second] [(.double (own_hr X (own_pf cf0 cf1 cf2 cf3) 3 3))])) _
      refine XS.lload X7.here hx rfl (hb hby at_159) rfl ?_
      show Steps p.tables e below (T7.setTop (mkF m 161 #[.val (.int xs), .val (.int nn), .val (.int cf0), .val (.int cf1), .val (.int cf2), .val (.int cf3), .val (.int (3 : Int32)), .val (.long x.toInt64), .second, .val (.ref a1), .val (.long u3), .second, .val (.double (own_hr X (own_pf cf0 cf1 cf2 cf3) 3 3)), .second] [(.long u3), (.double (own_hr X (own_pf cf0 cf1 cf2 cf3) 3 3))])) _
      refine XS.l2dS X7.here hx rfl (hb hby at_161) rfl (v := FP.l2d u3) rfl ?_
      show Steps p.tables e below (T7.setTop (mkF m 162 #[.val (.int xs), .val (.int nn), .val (.int cf0), .val (.int cf1), .val (.int cf2), .val (.int cf3), .val (.int (3 : Int32)), .val (.long x.toInt64), .second, .val (.ref a1), .val (.long u3), .second, .val (.double (own_hr X (own_pf cf0 cf1 cf2 cf3) 3 3)), .second] [(.double (FP.l2d u3)), (.double (own_hr X (own_pf cf0 cf1 cf2 cf3) 3 3))])) _
      refine XS.dcmpS X7.here hx rfl (hb hby at_162) rfl (v := Jvm.Op.cmpValue (FP.dcmp (own_hr X (own_pf cf0 cf1 cf2 cf3) 3 3) (FP.l2d u3)) .l) rfl ?_
      show Steps p.tables e below (T7.setTop (mkF m 163 #[.val (.int xs), .val (.int nn), .val (.int cf0), .val (.int cf1), .val (.int cf2), .val (.int cf3), .val (.int (3 : Int32)), .val (.long x.toInt64), .second, .val (.ref a1), .val (.long u3), .second, .val (.double (own_hr X (own_pf cf0 cf1 cf2 cf3) 3 3)), .second] [(.int (Jvm.Op.cmpValue (FP.dcmp (own_hr X (own_pf cf0 cf1 cf2 cf3) 3 3) (FP.l2d u3)) .l))])) _
      refine XS.ifNo X7.here hx rfl (hb hby at_163) rfl fin ?_
      show Steps p.tables e below (T7.setTop (mkF m 166 #[.val (.int xs), .val (.int nn), .val (.int cf0), .val (.int cf1), .val (.int cf2), .val (.int cf3), .val (.int (3 : Int32)), .val (.long x.toInt64), .second, .val (.ref a1), .val (.long u3), .second, .val (.double (own_hr X (own_pf cf0 cf1 cf2 cf3) 3 3)), .second] [])) _
      refine XS.iconst X7.here hx rfl (hb hby at_166) ?_
      show Steps p.tables e below (T7.setTop (mkF m 167 #[.val (.int xs), .val (.int nn), .val (.int cf0), .val (.int cf1), .val (.int cf2), .val (.int cf3), .val (.int (3 : Int32)), .val (.long x.toInt64), .second, .val (.ref a1), .val (.long u3), .second, .val (.double (own_hr X (own_pf cf0 cf1 cf2 cf3) 3 3)), .second] [(.int (1 : Int32))])) _
      refine XS.goto X7.here hx rfl (pc0 := 167) (pc' := 171) rfl (hb hby at_167) (by decide) (by decide) ?_
      show Steps p.tables e below (T7.setTop (mkF m 171 #[.val (.int xs), .val (.int nn), .val (.int cf0), .val (.int cf1), .val (.int cf2), .val (.int cf3), .val (.int (3 : Int32)), .val (.long x.toInt64), .second, .val (.ref a1), .val (.long u3), .second, .val (.double (own_hr X (own_pf cf0 cf1 cf2 cf3) 3 3)), .second] [(.int (1 : Int32))])) _
      exact retN X7 hx (t := .boolean) Bd.returns (by simp) (hb hby at_171) hr
    · show QL n0 _ T7.heap _
      exact ⟨rfl, Fr.app M4 N7⟩
  · have w0 : Jvm.FP.Core.DInt 0 (own_hr X (own_pf cf0 cf1 cf2 cf3) 4 0) := Jvm.Own.DI.zero
    have y0 : (0 : Int).natAbs ≤ 0 := by decide
    have z0 := own_pb y0 x1
    have v0 := Jvm.FP.Core.dmul_int w0 dx (Nat.le_trans z0 (by decide))
    obtain ⟨R1, hR1⟩ : ∃ v, (0 : Int) * x.toInt + cf3.toInt = v := ⟨_, rfl⟩
    have y1 : R1.natAbs ≤ 2147483648 := by rw [← hR1]; exact own_ad z0 k3
    have w1 : Jvm.FP.Core.DInt R1 (own_hr X (own_pf cf0 cf1 cf2 cf3) 4 1) := by rw [← hR1]; exact Jvm.FP.Core.dadd_int v0 d3 (by rw [hR1]; exact Nat.le_trans y1 (by decide))
    have z1 := own_pb y1 x1
    have v1 := Jvm.FP.Core.dmul_int w1 dx (Nat.le_trans z1 (by decide))
    obtain ⟨R2, hR2⟩ : ∃ v, R1 * x.toInt + cf2.toInt = v := ⟨_, rfl⟩
    have y2 : R2.natAbs ≤ 277025390592 := by rw [← hR2]; exact own_ad z1 k2
    have w2 : Jvm.FP.Core.DInt R2 (own_hr X (own_pf cf0 cf1 cf2 cf3) 4 2) := by rw [← hR2]; exact Jvm.FP.Core.dadd_int v1 d2 (by rw [hR2]; exact Nat.le_trans y2 (by decide))
    have z2 := own_pb y2 x1
    have v2 := Jvm.FP.Core.dmul_int w2 dx (Nat.le_trans z2 (by decide))
    obtain ⟨R3, hR3⟩ : ∃ v, R2 * x.toInt + cf1.toInt = v := ⟨_, rfl⟩
    have y3 : R3.natAbs ≤ 35461397479424 := by rw [← hR3]; exact own_ad z2 k1
    have w3 : Jvm.FP.Core.DInt R3 (own_hr X (own_pf cf0 cf1 cf2 cf3) 4 3) := by rw [← hR3]; exact Jvm.FP.Core.dadd_int v2 d1 (by rw [hR3]; exact Nat.le_trans y3 (by decide))
    have z3 := own_pb y3 x1
    have v3 := Jvm.FP.Core.dmul_int w3 dx (Nat.le_trans z3 (by decide))
    obtain ⟨R4, hR4⟩ : ∃ v, R3 * x.toInt + cf0.toInt = v := ⟨_, rfl⟩
    have y4 : R4.natAbs ≤ 4539061024849920 := by rw [← hR4]; exact own_ad z3 k0
    have w4 : Jvm.FP.Core.DInt R4 (own_hr X (own_pf cf0 cf1 cf2 cf3) 4 4) := by rw [← hR4]; exact Jvm.FP.Core.dadd_int v3 d0 (by rw [hR4]; exact Nat.le_trans y4 (by decide))
    have ok : ∀ k, k < 4 → Jvm.Free.Fl.NoNaN64 (FP.dmul (own_hr X (own_pf cf0 cf1 cf2 cf3) 4 k) X) ∧ Jvm.Free.Fl.NoNaN64 (own_hr X (own_pf cf0 cf1 cf2 cf3) 4 (k + 1)) := by
      intro k hk
      match k, hk with
      | 0, _ => exact ⟨Jvm.Own.DI.nn v0, Jvm.Own.DI.nn w1⟩
      | 1, _ => exact ⟨Jvm.Own.DI.nn v1, Jvm.Own.DI.nn w2⟩
      | 2, _ => exact ⟨Jvm.Own.DI.nn v2, Jvm.Own.DI.nn w3⟩
      | 3, _ => exact ⟨Jvm.Own.DI.nn v3, Jvm.Own.DI.nn w4⟩
    have same : R4 = u4.toInt := by
      rw [j4, ← hR4, ← hR3, ← hR2, ← hR1]
      simp only [Int.zero_mul, Int.zero_add, Int.add_mul]
      omega
    obtain ⟨T1, h1, k1, X1, e1, E1, A1, st1⟩ := newP X0 hx hZ (aty := .double) (hw _ (List.mem_of_getElem? (i := 0) rfl)) e0 (g := (mkF m 20 #[.val (.int xs), .val (.int nn), .val (.int cf0), .val (.int cf1), .val (.int cf2), .val (.int cf3), .val (.int (4 : Int32)), .val (.long x.toInt64), .second, .unset, .unset, .unset, .unset, .unset] [(.int (4 : Int32))])) rfl (hb hby at_20) rfl (by decide) (cap := 4) (by decide) (by decide) (by decide) (by decide)
    obtain ⟨a1, g1⟩ : ∃ z, z = h0.size := ⟨_, rfl⟩
    rw [← g1] at A1 st1
    have F1 : Jvm.Own.DA Z h1 a1 4 (fun _ => 0) := Jvm.Own.DA.new A1 (by decide)
    have gA : n0 ≤ a1 := Nat.le_trans Z0 (Nat.le_of_eq g1.symm)
    have Z1 : n0 ≤ h1.size := Nat.le_trans Z0 E1.1
    obtain ⟨c2, B2, S2, H2⟩ := id F1
    obtain ⟨T2, h2, X2, e2, W2, st2⟩ := stD X1 hx hZ e1 B2 (j := (0 : Int32)) (x := (FP.i2d cf0)) (by rw [S2]; decide) (g := (mkF m 34 #[.val (.int xs), .val (.int nn), .val (.int cf0), .val (.int cf1), .val (.int cf2), .val (.int cf3), .val (.int (4 : Int32)), .val (.long x.toInt64), .second, .val (.ref a1), .unset, .unset, .unset, .unset] [(.double (FP.i2d cf0)), (.int (0 : Int32)), (.ref a1)])) rfl rfl (hb hby at_34)
    rw [(show (0 : Int32).toNatClampNeg = 0 by decide)] at W2
    have F2 := Jvm.Own.DA.set F1 W2 (by decide)
    have M2 := Fr.snoc X2 N0 gA
    have Z2 : n0 ≤ h2.size := Nat.le_trans Z1 (Nat.le_of_eq W2.size.symm)
    obtain ⟨c3, B3, S3, H3⟩ := id F2
    obtain ⟨T3, h3, X3, e3, W3, st3⟩ := stD X2 hx hZ e2 B3 (j := (1 : Int32)) (x := (FP.i2d cf1)) (by rw [S3]; decide) (g := (mkF m 46 #[.val (.int xs), .val (.int nn), .val (.int cf0), .val (.int cf1), .val (.int cf2), .val (.int cf3), .val (.int (4 : Int32)), .val (.long x.toInt64), .second, .val (.ref a1), .unset, .unset, .unset, .unset] [(.double (FP.i2d cf1)), (.int (1 : Int32)), (.ref a1)])) rfl rfl (hb hby at_46)
    rw [(show (1 : Int32).toNatClampNeg = 1 by decide)] at W3
    have F3 := Jvm.Own.DA.set F2 W3 (by decide)
    have M3 := Fr.snoc X3 M2 gA
    have Z3 : n0 ≤ h3.size := Nat.le_trans Z2 (Nat.le_of_eq W3.size.symm)
    obtain ⟨c4, B4, S4, H4⟩ := id F3
    obtain ⟨T4, h4, X4, e4, W4, st4⟩ := stD X3 hx hZ e3 B4 (j := (2 : Int32)) (x := (FP.i2d cf2)) (by rw [S4]; decide) (g := (mkF m 59 #[.val (.int xs), .val (.int nn), .val (.int cf0), .val (.int cf1), .val (.int cf2), .val (.int cf3), .val (.int (4 : Int32)), .val (.long x.toInt64), .second, .val (.ref a1), .unset, .unset, .unset, .unset] [(.double (FP.i2d cf2)), (.int (2 : Int32)), (.ref a1)])) rfl rfl (hb hby at_59)
    rw [(show (2 : Int32).toNatClampNeg = 2 by decide)] at W4
    have F4 := Jvm.Own.DA.set F3 W4 (by decide)
    have M4 := Fr.snoc X4 M3 gA
    have Z4 : n0 ≤ h4.size := Nat.le_trans Z3 (Nat.le_of_eq W4.size.symm)
    obtain ⟨c5, B5, S5, H5⟩ := id F4
    obtain ⟨T5, h5, X5, e5, W5, st5⟩ := stD X4 hx hZ e4 B5 (j := (3 : Int32)) (x := (FP.i2d cf3)) (by rw [S5]; decide) (g := (mkF m 72 #[.val (.int xs), .val (.int nn), .val (.int cf0), .val (.int cf1), .val (.int cf2), .val (.int cf3), .val (.int (4 : Int32)), .val (.long x.toInt64), .second, .val (.ref a1), .unset, .unset, .unset, .unset] [(.double (FP.i2d cf3)), (.int (3 : Int32)), (.ref a1)])) rfl rfl (hb hby at_72)
    rw [(show (3 : Int32).toNatClampNeg = 3 by decide)] at W5
    have F5 := Jvm.Own.DA.set F4 W5 (by decide)
    have M5 := Fr.snoc X5 M4 gA
    have Z5 : n0 ≤ h5.size := Nat.le_trans Z4 (Nat.le_of_eq W5.size.symm)
    have GA : Jvm.Own.DA Z h5 a1 4 (own_pf cf0 cf1 cf2 cf3) := F5.of (by intro i hi; simp only [own_pf]; (repeat' split) <;> first | rfl | omega)
    obtain ⟨_, _, ⟨T7, L7, k7, n7⟩, -, X7, ⟨Lc7, hQ7, l7, y7, z7⟩, st7⟩ := Jvm.LawKit.callS X5 hx (y := (⟨"com/example/helioarc/helioarc/Spa", "polynomial", "(D[D)D"⟩ : MethodName)) hown (mvT hZ (hw _ (List.mem_of_getElem? (i := 1) rfl))) (mvT hZ (hw _ (List.mem_of_getElem? (i := 2) rfl))) (mvT hZ (hw _ (List.mem_of_getElem? (i := 3) rfl))) (mvT hZ (hw _ (List.mem_of_getElem? (i := 4) rfl))) (by decide) (backOf (W := 0) (rmPo l Z a0 hw [] X a1 h5 n0 Z5 4 (own_pf cf0 cf1 cf2 cf3) (by simp) GA ok) hZ (hw _ (List.mem_of_getElem? (i := 4) rfl)) (hw _ (List.mem_of_getElem? (i := 3) rfl)) (by decide) (by decide)) (g := (mkF m 152 #[.val (.int xs), .val (.int nn), .val (.int cf0), .val (.int cf1), .val (.int cf2), .val (.int cf3), .val (.int (4 : Int32)), .val (.long x.toInt64), .second, .val (.ref a1), .val (.long u4), .second, .unset, .unset] [(.ref a1), (.double X)])) rfl (by rw [hml]; rfl) (argsL := [(.double X), (.ref a1)]) (rest := []) (lenOf pd_0 rfl) rfl (by show 2 * 0 + _ ≤ _; exact Nat.le_of_eq rfl) (hb hby at_152) (fun _ _ => ⟨rfl, e5, (by decide : 1 + 0 ≤ _), (by decide : 4 + 0 ≤ _)⟩)
    dsimp only [Pt.U, Pt.locs, Pt.cells, Pt.slots] at X7 l7 y7 z7 st7 hQ7
    subst l7 y7 z7
    obtain ⟨rfl, N7, e7⟩ := hQ7
    have fin : ifCond.holds .ne (Jvm.Op.cmpValue (FP.dcmp (own_hr X (own_pf cf0 cf1 cf2 cf3) 4 4) (FP.l2d u4)) .l) = false := (Jvm.Own.holdsW w4 (Jvm.FP.Core.l2d_int (a := u4) (by rw [← same]; exact Nat.le_trans y4 (by decide))) _ _).trans (Jvm.Own.dF (by rw [same]; exact fun q => q rfl))
    obtain ⟨fs, hr, hrun, hended, hW, hsame⟩ := X7.leave (v := some (.int (1 : Int32))) (fun h => by rw [Bd.returns] at h; cases h)
    refine ⟨_, _, pre0 _ ?_, hrun, hended, _, _, rfl, ?_, ⟨_, rfl⟩, hW, hsame.mono (by decide) (by decide)⟩
    · show Steps p.tables e below (s₁.setTop (mkF m 0 #[.val (.int xs), .val (.int nn), .val (.int cf0), .val (.int cf1), .val (.int cf2), .val (.int cf3), .unset, .unset, .unset, .unset, .unset, .unset, .unset, .unset] [])) _
      refine XS.iloadN X0.here hx rfl (hb hby at_0) rfl ?_
      show Steps p.tables e below (s₁.setTop (mkF m 1 #[.val (.int xs), .val (.int nn), .val (.int cf0), .val (.int cf1), .val (.int cf2), .val (.int cf3), .unset, .unset, .unset, .unset, .unset, .unset, .unset, .unset] [(.int nn)])) _
      refine XS.bipush X0.here hx rfl (hb hby at_1) ?_
      show Steps p.tables e below (s₁.setTop (mkF m 3 #[.val (.int xs), .val (.int nn), .val (.int cf0), .val (.int cf1), .val (.int cf2), .val (.int cf3), .unset, .unset, .unset, .unset, .unset, .unset, .unset, .unset] [(.int (7 : Int32)), (.int nn)])) _
      refine XS.iand X0.here hx rfl (hb hby at_3) rfl ?_
      show Steps p.tables e below (s₁.setTop (mkF m 4 #[.val (.int xs), .val (.int nn), .val (.int cf0), .val (.int cf1), .val (.int cf2), .val (.int cf3), .unset, .unset, .unset, .unset, .unset, .unset, .unset, .unset] [(.int (nn &&& (7 : Int32)))])) _
      refine XS.iconst X0.here hx rfl (hb hby at_4) ?_
      show Steps p.tables e below (s₁.setTop (mkF m 5 #[.val (.int xs), .val (.int nn), .val (.int cf0), .val (.int cf1), .val (.int cf2), .val (.int cf3), .unset, .unset, .unset, .unset, .unset, .unset, .unset, .unset] [(.int (5 : Int32)), (.int (nn &&& (7 : Int32)))])) _
      refine XS.irem X0.here hx rfl (hb hby at_5) rfl (by decide) ?_
      rw [hn]
      show Steps p.tables e below (s₁.setTop (mkF m 6 #[.val (.int xs), .val (.int nn), .val (.int cf0), .val (.int cf1), .val (.int cf2), .val (.int cf3), .unset, .unset, .unset, .unset, .unset, .unset, .unset, .unset] [(.int (4 : Int32))])) _
      refine XS.istore X0.here hx rfl (hb hby at_6) rfl (l' := #[.val (.int xs), .val (.int nn), .val (.int cf0), .val (.int cf1), .val (.int cf2), .val (.int cf3), .val (.int (4 : Int32)), .unset, .unset, .unset, .unset, .unset, .unset, .unset]) rfl ?_
      show Steps p.tables e below (s₁.setTop (mkF m 8 #[.val (.int xs), .val (.int nn), .val (.int cf0), .val (.int cf1), .val (.int cf2), .val (.int cf3), .val (.int (4 : Int32)), .unset, .unset, .unset, .unset, .unset, .unset, .unset] [])) _
      refine XS.iloadN X0.here hx rfl (hb hby at_8) rfl ?_
      show Steps p.tables e below (s₁.setTop (mkF m 9 #[.val (.int xs), .val (.int nn), .val (.int cf0), .val (.int cf1), .val (.int cf2), .val (.int cf3), .val (.int (4 : Int32)), .unset, .unset, .unset, .unset, .unset, .unset, .unset] [(.int xs)])) _
      refine XS.bipush X0.here hx rfl (hb hby at_9) ?_
      show Steps p.tables e below (s₁.setTop (mkF m 11 #[.val (.int xs), .val (.int nn), .val (.int cf0), .val (.int cf1), .val (.int cf2), .val (.int cf3), .val (.int (4 : Int32)), .unset, .unset, .unset, .unset, .unset, .unset, .unset] [(.int (24 : Int32)), (.int xs)])) _
      refine XS.ishl X0.here hx rfl (hb hby at_11) rfl ?_
      show Steps p.tables e below (s₁.setTop (mkF m 12 #[.val (.int xs), .val (.int nn), .val (.int cf0), .val (.int cf1), .val (.int cf2), .val (.int cf3), .val (.int (4 : Int32)), .unset, .unset, .unset, .unset, .unset, .unset, .unset] [(.int (xs <<< ((24 : Int32) &&& 31)))])) _
      refine XS.bipush X0.here hx rfl (hb hby at_12) ?_
      show Steps p.tables e below (s₁.setTop (mkF m 14 #[.val (.int xs), .val (.int nn), .val (.int cf0), .val (.int cf1), .val (.int cf2), .val (.int cf3), .val (.int (4 : Int32)), .unset, .unset, .unset, .unset, .unset, .unset, .unset] [(.int (24 : Int32)), (.int (xs <<< ((24 : Int32) &&& 31)))])) _
      refine XS.ishr X0.here hx rfl (hb hby at_14) rfl ?_
      rw [hx0]
      show Steps p.tables e below (s₁.setTop (mkF m 15 #[.val (.int xs), .val (.int nn), .val (.int cf0), .val (.int cf1), .val (.int cf2), .val (.int cf3), .val (.int (4 : Int32)), .unset, .unset, .unset, .unset, .unset, .unset, .unset] [(.int x)])) _
      refine XS.i2l X0.here hx rfl (hb hby at_15) rfl ?_
      show Steps p.tables e below (s₁.setTop (mkF m 16 #[.val (.int xs), .val (.int nn), .val (.int cf0), .val (.int cf1), .val (.int cf2), .val (.int cf3), .val (.int (4 : Int32)), .unset, .unset, .unset, .unset, .unset, .unset, .unset] [(.long x.toInt64)])) _
      refine XS.lstore X0.here hx rfl (hb hby at_16) rfl (l' := #[.val (.int xs), .val (.int nn), .val (.int cf0), .val (.int cf1), .val (.int cf2), .val (.int cf3), .val (.int (4 : Int32)), .val (.long x.toInt64), .second, .unset, .unset, .unset, .unset, .unset]) rfl ?_
      show Steps p.tables e below (s₁.setTop (mkF m 18 #[.val (.int xs), .val (.int nn), .val (.int cf0), .val (.int cf1), .val (.int cf2), .val (.int cf3), .val (.int (4 : Int32)), .val (.long x.toInt64), .second, .unset, .unset, .unset, .unset, .unset] [])) _
      refine XS.iload X0.here hx rfl (hb hby at_18) rfl ?_
      show Steps p.tables e below (s₁.setTop (mkF m 20 #[.val (.int xs), .val (.int nn), .val (.int cf0), .val (.int cf1), .val (.int cf2), .val (.int cf3), .val (.int (4 : Int32)), .val (.long x.toInt64), .second, .unset, .unset, .unset, .unset, .unset] [(.int (4 : Int32))])) _
      refine st1 _ ?_
      show Steps p.tables e below (T1.setTop (mkF m 22 #[.val (.int xs), .val (.int nn), .val (.int cf0), .val (.int cf1), .val (.int cf2), .val (.int cf3), .val (.int (4 : Int32)), .val (.long x.toInt64), .second, .unset, .unset, .unset, .unset, .unset] [(.ref a1)])) _
      refine XS.astore X1.here hx rfl (hb hby at_22) rfl rfl (l' := #[.val (.int xs), .val (.int nn), .val (.int cf0), .val (.int cf1), .val (.int cf2), .val (.int cf3), .val (.int (4 : Int32)), .val (.long x.toInt64), .second, .val (.ref a1), .unset, .unset, .unset, .unset]) rfl ?_
      show Steps p.tables e below (T1.setTop (mkF m 24 #[.val (.int xs), .val (.int nn), .val (.int cf0), .val (.int cf1), .val (.int cf2), .val (.int cf3), .val (.int (4 : Int32)), .val (.long x.toInt64), .second, .val (.ref a1), .unset, .unset, .unset, .unset] [])) _
      refine XS.iload X1.here hx rfl (hb hby at_24) rfl ?_
      show Steps p.tables e below (T1.setTop (mkF m 26 #[.val (.int xs), .val (.int nn), .val (.int cf0), .val (.int cf1), .val (.int cf2), .val (.int cf3), .val (.int (4 : Int32)), .val (.long x.toInt64), .second, .val (.ref a1), .unset, .unset, .unset, .unset] [(.int (4 : Int32))])) _
      refine XS.ifNo X1.here hx rfl (hb hby at_26) rfl rfl ?_
      show Steps p.tables e below (T1.setTop (mkF m 29 #[.val (.int xs), .val (.int nn), .val (.int cf0), .val (.int cf1), .val (.int cf2), .val (.int cf3), .val (.int (4 : Int32)), .val (.long x.toInt64), .second, .val (.ref a1), .unset, .unset, .unset, .unset] [])) _
      refine XS.aload X1.here hx rfl (hb hby at_29) rfl rfl ?_
      show Steps p.tables e below (T1.setTop (mkF m 31 #[.val (.int xs), .val (.int nn), .val (.int cf0), .val (.int cf1), .val (.int cf2), .val (.int cf3), .val (.int (4 : Int32)), .val (.long x.toInt64), .second, .val (.ref a1), .unset, .unset, .unset, .unset] [(.ref a1)])) _
      refine XS.iconst X1.here hx rfl (hb hby at_31) ?_
      show Steps p.tables e below (T1.setTop (mkF m 32 #[.val (.int xs), .val (.int nn), .val (.int cf0), .val (.int cf1), .val (.int cf2), .val (.int cf3), .val (.int (4 : Int32)), .val (.long x.toInt64), .second, .val (.ref a1), .unset, .unset, .unset, .unset] [(.int (0 : Int32)), (.ref a1)])) _
      refine XS.iloadN X1.here hx rfl (hb hby at_32) rfl ?_
      show Steps p.tables e below (T1.setTop (mkF m 33 #[.val (.int xs), .val (.int nn), .val (.int cf0), .val (.int cf1), .val (.int cf2), .val (.int cf3), .val (.int (4 : Int32)), .val (.long x.toInt64), .second, .val (.ref a1), .unset, .unset, .unset, .unset] [(.int cf0), (.int (0 : Int32)), (.ref a1)])) _
      refine XS.i2dS X1.here hx rfl (hb hby at_33) rfl (v := FP.i2d cf0) rfl ?_
      show Steps p.tables e below (T1.setTop (mkF m 34 #[.val (.int xs), .val (.int nn), .val (.int cf0), .val (.int cf1), .val (.int cf2), .val (.int cf3), .val (.int (4 : Int32)), .val (.long x.toInt64), .second, .val (.ref a1), .unset, .unset, .unset, .unset] [(.double (FP.i2d cf0)), (.int (0 : Int32)), (.ref a1)])) _
      refine st2 _ ?_
      show Steps p.tables e below (T2.setTop (mkF m 35 #[.val (.int xs), .val (.int nn), .val (.int cf0), .val (.int cf1), .val (.int cf2), .val (.int cf3), .val (.int (4 : Int32)), .val (.long x.toInt64), .second, .val (.ref a1), .unset, .unset, .unset, .unset] [])) _
      refine XS.iload X2.here hx rfl (hb hby at_35) rfl ?_
      show Steps p.tables e below (T2.setTop (mkF m 37 #[.val (.int xs), .val (.int nn), .val (.int cf0), .val (.int cf1), .val (.int cf2), .val (.int cf3), .val (.int (4 : Int32)), .val (.long x.toInt64), .second, .val (.ref a1), .unset, .unset, .unset, .unset] [(.int (4 : Int32))])) _
      refine XS.iconst X2.here hx rfl (hb hby at_37) ?_
      show Steps p.tables e below (T2.setTop (mkF m 38 #[.val (.int xs), .val (.int nn), .val (.int cf0), .val (.int cf1), .val (.int cf2), .val (.int cf3), .val (.int (4 : Int32)), .val (.long x.toInt64), .second, .val (.ref a1), .unset, .unset, .unset, .unset] [(.int (1 : Int32)), (.int (4 : Int32))])) _
      refine XS.icmpNo X2.here hx rfl (hb hby at_38) rfl rfl ?_
      show Steps p.tables e below (T2.setTop (mkF m 41 #[.val (.int xs), .val (.int nn), .val (.int cf0), .val (.int cf1), .val (.int cf2), .val (.int cf3), .val (.int (4 : Int32)), .val (.long x.toInt64), .second, .val (.ref a1), .unset, .unset, .unset, .unset] [])) _
      refine XS.aload X2.here hx rfl (hb hby at_41) rfl rfl ?_
      show Steps p.tables e below (T2.setTop (mkF m 43 #[.val (.int xs), .val (.int nn), .val (.int cf0), .val (.int cf1), .val (.int cf2), .val (.int cf3), .val (.int (4 : Int32)), .val (.long x.toInt64), .second, .val (.ref a1), .unset, .unset, .unset, .unset] [(.ref a1)])) _
      refine XS.iconst X2.here hx rfl (hb hby at_43) ?_
      show Steps p.tables e below (T2.setTop (mkF m 44 #[.val (.int xs), .val (.int nn), .val (.int cf0), .val (.int cf1), .val (.int cf2), .val (.int cf3), .val (.int (4 : Int32)), .val (.long x.toInt64), .second, .val (.ref a1), .unset, .unset, .unset, .unset] [(.int (1 : Int32)), (.ref a1)])) _
      refine XS.iloadN X2.here hx rfl (hb hby at_44) rfl ?_
      show Steps p.tables e below (T2.setTop (mkF m 45 #[.val (.int xs), .val (.int nn), .val (.int cf0), .val (.int cf1), .val (.int cf2), .val (.int cf3), .val (.int (4 : Int32)), .val (.long x.toInt64), .second, .val (.ref a1), .unset, .unset, .unset, .unset] [(.int cf1), (.int (1 : Int32)), (.ref a1)])) _
      refine XS.i2dS X2.here hx rfl (hb hby at_45) rfl (v := FP.i2d cf1) rfl ?_
      show Steps p.tables e below (T2.setTop (mkF m 46 #[.val (.int xs), .val (.int nn), .val (.int cf0), .val (.int cf1), .val (.int cf2), .val (.int cf3), .val (.int (4 : Int32)), .val (.long x.toInt64), .second, .val (.ref a1), .unset, .unset, .unset, .unset] [(.double (FP.i2d cf1)), (.int (1 : Int32)), (.ref a1)])) _
      refine st3 _ ?_
      show Steps p.tables e below (T3.setTop (mkF m 47 #[.val (.int xs), .val (.int nn), .val (.int cf0), .val (.int cf1), .val (.int cf2), .val (.int cf3), .val (.int (4 : Int32)), .val (.long x.toInt64), .second, .val (.ref a1), .unset, .unset, .unset, .unset] [])) _
      refine XS.iload X3.here hx rfl (hb hby at_47) rfl ?_
      show Steps p.tables e below (T3.setTop (mkF m 49 #[.val (.int xs), .val (.int nn), .val (.int cf0), .val (.int cf1), .val (.int cf2), .val (.int cf3), .val (.int (4 : Int32)), .val (.long x.toInt64), .second, .val (.ref a1), .unset, .unset, .unset, .unset] [(.int (4 : Int32))])) _
      refine XS.iconst X3.here hx rfl (hb hby at_49) ?_
      show Steps p.tables e below (T3.setTop (mkF m 50 #[.val (.int xs), .val (.int nn), .val (.int cf0), .val (.int cf1), .val (.int cf2), .val (.int cf3), .val (.int (4 : Int32)), .val (.long x.toInt64), .second, .val (.ref a1), .unset, .unset, .unset, .unset] [(.int (2 : Int32)), (.int (4 : Int32))])) _
      refine XS.icmpNo X3.here hx rfl (hb hby at_50) rfl rfl ?_
      show Steps p.tables e below (T3.setTop (mkF m 53 #[.val (.int xs), .val (.int nn), .val (.int cf0), .val (.int cf1), .val (.int cf2), .val (.int cf3), .val (.int (4 : Int32)), .val (.long x.toInt64), .second, .val (.ref a1), .unset, .unset, .unset, .unset] [])) _
      refine XS.aload X3.here hx rfl (hb hby at_53) rfl rfl ?_
      show Steps p.tables e below (T3.setTop (mkF m 55 #[.val (.int xs), .val (.int nn), .val (.int cf0), .val (.int cf1), .val (.int cf2), .val (.int cf3), .val (.int (4 : Int32)), .val (.long x.toInt64), .second, .val (.ref a1), .unset, .unset, .unset, .unset] [(.ref a1)])) _
      refine XS.iconst X3.here hx rfl (hb hby at_55) ?_
      show Steps p.tables e below (T3.setTop (mkF m 56 #[.val (.int xs), .val (.int nn), .val (.int cf0), .val (.int cf1), .val (.int cf2), .val (.int cf3), .val (.int (4 : Int32)), .val (.long x.toInt64), .second, .val (.ref a1), .unset, .unset, .unset, .unset] [(.int (2 : Int32)), (.ref a1)])) _
      refine XS.iload X3.here hx rfl (hb hby at_56) rfl ?_
      show Steps p.tables e below (T3.setTop (mkF m 58 #[.val (.int xs), .val (.int nn), .val (.int cf0), .val (.int cf1), .val (.int cf2), .val (.int cf3), .val (.int (4 : Int32)), .val (.long x.toInt64), .second, .val (.ref a1), .unset, .unset, .unset, .unset] [(.int cf2), (.int (2 : Int32)), (.ref a1)])) _
      refine XS.i2dS X3.here hx rfl (hb hby at_58) rfl (v := FP.i2d cf2) rfl ?_
      show Steps p.tables e below (T3.setTop (mkF m 59 #[.val (.int xs), .val (.int nn), .val (.int cf0), .val (.int cf1), .val (.int cf2), .val (.int cf3), .val (.int (4 : Int32)), .val (.long x.toInt64), .second, .val (.ref a1), .unset, .unset, .unset, .unset] [(.double (FP.i2d cf2)), (.int (2 : Int32)), (.ref a1)])) _
      refine st4 _ ?_
      show Steps p.tables e below (T4.setTop (mkF m 60 #[.val (.int xs), .val (.int nn), .val (.int cf0), .val (.int cf1), .val (.int cf2), .val (.int cf3), .val (.int (4 : Int32)), .val (.long x.toInt64), .second, .val (.ref a1), .unset, .unset, .unset, .unset] [])) _
      refine XS.iload X4.here hx rfl (hb hby at_60) rfl ?_
      show Steps p.tables e below (T4.setTop (mkF m 62 #[.val (.int xs), .val (.int nn), .val (.int cf0), .val (.int cf1), .val (.int cf2), .val (.int cf3), .val (.int (4 : Int32)), .val (.long x.toInt64), .second, .val (.ref a1), .unset, .unset, .unset, .unset] [(.int (4 : Int32))])) _
      refine XS.iconst X4.here hx rfl (hb hby at_62) ?_
      show Steps p.tables e below (T4.setTop (mkF m 63 #[.val (.int xs), .val (.int nn), .val (.int cf0), .val (.int cf1), .val (.int cf2), .val (.int cf3), .val (.int (4 : Int32)), .val (.long x.toInt64), .second, .val (.ref a1), .unset, .unset, .unset, .unset] [(.int (3 : Int32)), (.int (4 : Int32))])) _
      refine XS.icmpNo X4.here hx rfl (hb hby at_63) rfl rfl ?_
      show Steps p.tables e below (T4.setTop (mkF m 66 #[.val (.int xs), .val (.int nn), .val (.int cf0), .val (.int cf1), .val (.int cf2), .val (.int cf3), .val (.int (4 : Int32)), .val (.long x.toInt64), .second, .val (.ref a1), .unset, .unset, .unset, .unset] [])) _
      refine XS.aload X4.here hx rfl (hb hby at_66) rfl rfl ?_
      show Steps p.tables e below (T4.setTop (mkF m 68 #[.val (.int xs), .val (.int nn), .val (.int cf0), .val (.int cf1), .val (.int cf2), .val (.int cf3), .val (.int (4 : Int32)), .val (.long x.toInt64), .second, .val (.ref a1), .unset, .unset, .unset, .unset] [(.ref a1)])) _
      refine XS.iconst X4.here hx rfl (hb hby at_68) ?_
      show Steps p.tables e below (T4.setTop (mkF m 69 #[.val (.int xs), .val (.int nn), .val (.int cf0), .val (.int cf1), .val (.int cf2), .val (.int cf3), .val (.int (4 : Int32)), .val (.long x.toInt64), .second, .val (.ref a1), .unset, .unset, .unset, .unset] [(.int (3 : Int32)), (.ref a1)])) _
      refine XS.iload X4.here hx rfl (hb hby at_69) rfl ?_
      show Steps p.tables e below (T4.setTop (mkF m 71 #[.val (.int xs), .val (.int nn), .val (.int cf0), .val (.int cf1), .val (.int cf2), .val (.int cf3), .val (.int (4 : Int32)), .val (.long x.toInt64), .second, .val (.ref a1), .unset, .unset, .unset, .unset] [(.int cf3), (.int (3 : Int32)), (.ref a1)])) _
      refine XS.i2dS X4.here hx rfl (hb hby at_71) rfl (v := FP.i2d cf3) rfl ?_
      show Steps p.tables e below (T4.setTop (mkF m 72 #[.val (.int xs), .val (.int nn), .val (.int cf0), .val (.int cf1), .val (.int cf2), .val (.int cf3), .val (.int (4 : Int32)), .val (.long x.toInt64), .second, .val (.ref a1), .unset, .unset, .unset, .unset] [(.double (FP.i2d cf3)), (.int (3 : Int32)), (.ref a1)])) _
      refine st5 _ ?_
      show Steps p.tables e below (T5.setTop (mkF m 73 #[.val (.int xs), .val (.int nn), .val (.int cf0), .val (.int cf1), .val (.int cf2), .val (.int cf3), .val (.int (4 : Int32)), .val (.long x.toInt64), .second, .val (.ref a1), .unset, .unset, .unset, .unset] [])) _
      refine XS.lconst X5.here hx rfl (hb hby at_73) ?_
      show Steps p.tables e below (T5.setTop (mkF m 74 #[.val (.int xs), .val (.int nn), .val (.int cf0), .val (.int cf1), .val (.int cf2), .val (.int cf3), .val (.int (4 : Int32)), .val (.long x.toInt64), .second, .val (.ref a1), .unset, .unset, .unset, .unset] [(.long (0 : Int64))])) _
      refine XS.lstore X5.here hx rfl (hb hby at_74) rfl (l' := #[.val (.int xs), .val (.int nn), .val (.int cf0), .val (.int cf1), .val (.int cf2), .val (.int cf3), .val (.int (4 : Int32)), .val (.long x.toInt64), .second, .val (.ref a1), .val (.long (0 : Int64)), .second, .unset, .unset]) rfl ?_
      show Steps p.tables e below (T5.setTop (mkF m 76 #[.val (.int xs), .val (.int nn), .val (.int cf0), .val (.int cf1), .val (.int cf2), .val (.int cf3), .val (.int (4 : Int32)), .val (.long x.toInt64), .second, .val (.ref a1), .val (.long (0 : Int64)), .second, .unset, .unset] [])) _
      refine XS.iload X5.here hx rfl (hb hby at_76) rfl ?_
      show Steps p.tables e below (T5.setTop (mkF m 78 #[.val (.int xs), .val (.int nn), .val (.int cf0), .val (.int cf1), .val (.int cf2), .val (.int cf3), .val (.int (4 : Int32)), .val (.long x.toInt64), .second, .val (.ref a1), .val (.long (0 : Int64)), .second, .unset, .unset] [(.int (4 : Int32))])) _
      refine XS.ifNo X5.here hx rfl (hb hby at_78) rfl rfl ?_
      show Steps p.tables e below (T5.setTop (mkF m 81 #[.val (.int xs), .val (.int nn), .val (.int cf0), .val (.int cf1), .val (.int cf2), .val (.int cf3), .val (.int (4 : Int32)), .val (.long x.toInt64), .second, .val (.ref a1), .val (.long (0 : Int64)), .second, .unset, .unset] [])) _
      refine XS.lload X5.here hx rfl (hb hby at_81) rfl ?_
      show Steps p.tables e below (T5.setTop (mkF m 83 #[.val (.int xs), .val (.int nn), .val (.int cf0), .val (.int cf1), .val (.int cf2), .val (.int cf3), .val (.int (4 : Int32)), .val (.long x.toInt64), .second, .val (.ref a1), .val (.long (0 : Int64)), .second, .unset, .unset] [(.long (0 : Int64))])) _
      refine XS.iloadN X5.here hx rfl (hb hby at_83) rfl ?_
      show Steps p.tables e below (T5.setTop (mkF m 84 #[.val (.int xs), .val (.int nn), .val (.int cf0), .val (.int cf1), .val (.int cf2), .val (.int cf3), .val (.int (4 : Int32)), .val (.long x.toInt64), .second, .val (.ref a1), .val (.long (0 : Int64)), .second, .unset, .unset] [(.int cf0), (.long (0 : Int64))])) _
      refine XS.i2l X5.here hx rfl (hb hby at_84) rfl ?_
      show Steps p.tables e below (T5.setTop (mkF m 85 #[.val (.int xs), .val (.int nn), .val (.int cf0), .val (.int cf1), .val (.int cf2), .val (.int cf3), .val (.int (4 : Int32)), .val (.long x.toInt64), .second, .val (.ref a1), .val (.long (0 : Int64)), .second, .unset, .unset] [(.long cf0.toInt64), (.long (0 : Int64))])) _
      refine XS.ladd X5.here hx rfl (hb hby at_85) rfl ?_
      rw [hu1]
      show Steps p.tables e below (T5.setTop (mkF m 86 #[.val (.int xs), .val (.int nn), .val (.int cf0), .val (.int cf1), .val (.int cf2), .val (.int cf3), .val (.int (4 : Int32)), .val (.long x.toInt64), .second, .val (.ref a1), .val (.long (0 : Int64)), .second, .unset, .unset] [(.long u1)])) _
      refine XS.lstore X5.here hx rfl (hb hby at_86) rfl (l' := #[.val (.int xs), .val (.int nn), .val (.int cf0), .val (.int cf1), .val (.int cf2), .val (.int cf3), .val (.int (4 : Int32)), .val (.long x.toInt64), .second, .val (.ref a1), .val (.long u1), .second, .unset, .unset]) rfl ?_
      show Steps p.tables e below (T5.setTop (mkF m 88 #[.val (.int xs), .val (.int nn), .val (.int cf0), .val (.int cf1), .val (.int cf2), .val (.int cf3), .val (.int (4 : Int32)), .val (.long x.toInt64), .second, .val (.ref a1), .val (.long u1), .second, .unset, .unset] [])) _
      refine XS.iload X5.here hx rfl (hb hby at_88) rfl ?_
      show Steps p.tables e below (T5.setTop (mkF m 90 #[.val (.int xs), .val (.int nn), .val (.int cf0), .val (.int cf1), .val (.int cf2), .val (.int cf3), .val (.int (4 : Int32)), .val (.long x.toInt64), .second, .val (.ref a1), .val (.long u1), .second, .unset, .unset] [(.int (4 : Int32))])) _
      refine XS.iconst X5.here hx rfl (hb hby at_90) ?_
      show Steps p.tables e below (T5.setTop (mkF m 91 #[.val (.int xs), .val (.int nn), .val (.int cf0), .val (.int cf1), .val (.int cf2), .val (.int cf3), .val (.int (4 : Int32)), .val (.long x.toInt64), .second, .val (.ref a1), .val (.long u1), .second, .unset, .unset] [(.int (1 : Int32)), (.int (4 : Int32))])) _
      refine XS.icmpNo X5.here hx rfl (hb hby at_91) rfl rfl ?_
      show Steps p.tables e below (T5.setTop (mkF m 94 #[.val (.int xs), .val (.int nn), .val (.int cf0), .val (.int cf1), .val (.int cf2), .val (.int cf3), .val (.int (4 : Int32)), .val (.long x.toInt64), .second, .val (.ref a1), .val (.long u1), .second, .unset, .unset] [])) _
      refine XS.lload X5.here hx rfl (hb hby at_94) rfl ?_
      show Steps p.tables e below (T5.setTop (mkF m 96 #[.val (.int xs), .val (.int nn), .val (.int cf0), .val (.int cf1), .val (.int cf2), .val (.int cf3), .val (.int (4 : Int32)), .val (.long x.toInt64), .second, .val (.ref a1), .val (.long u1), .second, .unset, .unset] [(.long u1)])) _
      refine XS.iloadN X5.here hx rfl (hb hby at_96) rfl ?_
      show Steps p.tables e below (T5.setTop (mkF m 97 #[.val (.int xs), .val (.int nn), .val (.int cf0), .val (.int cf1), .val (.int cf2), .val (.int cf3), .val (.int (4 : Int32)), .val (.long x.toInt64), .second, .val (.ref a1), .val (.long u1), .second, .unset, .unset] [(.int cf1), (.long u1)])) _
      refine XS.i2l X5.here hx rfl (hb hby at_97) rfl ?_
      show Steps p.tables e below (T5.setTop (mkF m 98 #[.val (.int xs), .val (.int nn), .val (.int cf0), .val (.int cf1), .val (.int cf2), .val (.int cf3), .val (.int (4 : Int32)), .val (.long x.toInt64), .second, .val (.ref a1), .val (.long u1), .second, .unset, .unset] [(.long cf1.toInt64), (.long u1)])) _
      refine XS.lload X5.here hx rfl (hb hby at_98) rfl ?_
      show Steps p.tables e below (T5.setTop (mkF m 100 #[.val (.int xs), .val (.int nn), .val (.int cf0), .val (.int cf1), .val (.int cf2), .val (.int cf3), .val (.int (4 : Int32)), .val (.long x.toInt64), .second, .val (.ref a1), .val (.long u1), .second, .unset, .unset] [(.long x.toInt64), (.long cf1.toInt64), (.long u1)])) _
      refine XS.lmul X5.here hx rfl (hb hby at_100) rfl ?_
      show Steps p.tables e below (T5.setTop (mkF m 101 #[.val (.int xs), .val (.int nn), .val (.int cf0), .val (.int cf1), .val (.int cf2), .val (.int cf3), .val (.int (4 : Int32)), .val (.long x.toInt64), .second, .val (.ref a1), .val (.long u1), .second, .unset, .unset] [(.long (cf1.toInt64 * x.toInt64)), (.long u1)])) _
      refine XS.ladd X5.here hx rfl (hb hby at_101) rfl ?_
      rw [hu2]
      show Steps p.tables e below (T5.setTop (mkF m 102 #[.val (.int xs), .val (.int nn), .val (.int cf0), .val (.int cf1), .val (.int cf2), .val (.int cf3), .val (.int (4 : Int32)), .val (.long x.toInt64), .second, .val (.ref a1), .val (.long u1), .second, .unset, .unset] [(.long u2)])) _
      refine XS.lstore X5.here hx rfl (hb hby at_102) rfl (l' := #[.val (.int xs), .val (.int nn), .val (.int cf0), .val (.int cf1), .val (.int cf2), .val (.int cf3), .val (.int (4 : Int32)), .val (.long x.toInt64), .second, .val (.ref a1), .val (.long u2), .second, .unset, .unset]) rfl ?_
      show Steps p.tables e below (T5.setTop (mkF m 104 #[.val (.int xs), .val (.int nn), .val (.int cf0), .val (.int cf1), .val (.int cf2), .val (.int cf3), .val (.int (4 : Int32)), .val (.long x.toInt64), .second, .val (.ref a1), .val (.long u2), .second, .unset, .unset] [])) _
      refine XS.iload X5.here hx rfl (hb hby at_104) rfl ?_
      show Steps p.tables e below (T5.setTop (mkF m 106 #[.val (.int xs), .val (.int nn), .val (.int cf0), .val (.int cf1), .val (.int cf2), .val (.int cf3), .val (.int (4 : Int32)), .val (.long x.toInt64), .second, .val (.ref a1), .val (.long u2), .second, .unset, .unset] [(.int (4 : Int32))])) _
      refine XS.iconst X5.here hx rfl (hb hby at_106) ?_
      show Steps p.tables e below (T5.setTop (mkF m 107 #[.val (.int xs), .val (.int nn), .val (.int cf0), .val (.int cf1), .val (.int cf2), .val (.int cf3), .val (.int (4 : Int32)), .val (.long x.toInt64), .second, .val (.ref a1), .val (.long u2), .second, .unset, .unset] [(.int (2 : Int32)), (.int (4 : Int32))])) _
      refine XS.icmpNo X5.here hx rfl (hb hby at_107) rfl rfl ?_
      show Steps p.tables e below (T5.setTop (mkF m 110 #[.val (.int xs), .val (.int nn), .val (.int cf0), .val (.int cf1), .val (.int cf2), .val (.int cf3), .val (.int (4 : Int32)), .val (.long x.toInt64), .second, .val (.ref a1), .val (.long u2), .second, .unset, .unset] [])) _
      refine XS.lload X5.here hx rfl (hb hby at_110) rfl ?_
      show Steps p.tables e below (T5.setTop (mkF m 112 #[.val (.int xs), .val (.int nn), .val (.int cf0), .val (.int cf1), .val (.int cf2), .val (.int cf3), .val (.int (4 : Int32)), .val (.long x.toInt64), .second, .val (.ref a1), .val (.long u2), .second, .unset, .unset] [(.long u2)])) _
      refine XS.iload X5.here hx rfl (hb hby at_112) rfl ?_
      show Steps p.tables e below (T5.setTop (mkF m 114 #[.val (.int xs), .val (.int nn), .val (.int cf0), .val (.int cf1), .val (.int cf2), .val (.int cf3), .val (.int (4 : Int32)), .val (.long x.toInt64), .second, .val (.ref a1), .val (.long u2), .second, .unset, .unset] [(.int cf2), (.long u2)])) _
      refine XS.i2l X5.here hx rfl (hb hby at_114) rfl ?_
      show Steps p.tables e below (T5.setTop (mkF m 115 #[.val (.int xs), .val (.int nn), .val (.int cf0), .val (.int cf1), .val (.int cf2), .val (.int cf3), .val (.int (4 : Int32)), .val (.long x.toInt64), .second, .val (.ref a1), .val (.long u2), .second, .unset, .unset] [(.long cf2.toInt64), (.long u2)])) _
      refine XS.lload X5.here hx rfl (hb hby at_115) rfl ?_
      show Steps p.tables e below (T5.setTop (mkF m 117 #[.val (.int xs), .val (.int nn), .val (.int cf0), .val (.int cf1), .val (.int cf2), .val (.int cf3), .val (.int (4 : Int32)), .val (.long x.toInt64), .second, .val (.ref a1), .val (.long u2), .second, .unset, .unset] [(.long x.toInt64), (.long cf2.toInt64), (.long u2)])) _
      refine XS.lmul X5.here hx rfl (hb hby at_117) rfl ?_
      show Steps p.tables e below (T5.setTop (mkF m 118 #[.val (.int xs), .val (.int nn), .val (.int cf0), .val (.int cf1), .val (.int cf2), .val (.int cf3), .val (.int (4 : Int32)), .val (.long x.toInt64), .second, .val (.ref a1), .val (.long u2), .second, .unset, .unset] [(.long (cf2.toInt64 * x.toInt64)), (.long u2)])) _
      refine XS.lload X5.here hx rfl (hb hby at_118) rfl ?_
      show Steps p.tables e below (T5.setTop (mkF m 120 #[.val (.int xs), .val (.int nn), .val (.int cf0), .val (.int cf1), .val (.int cf2), .val (.int cf3), .val (.int (4 : Int32)), .val (.long x.toInt64), .second, .val (.ref a1), .val (.long u2), .second, .unset, .unset] [(.long x.toInt64), (.long (cf2.toInt64 * x.toInt64)), (.long u2)])) _
      refine XS.lmul X5.here hx rfl (hb hby at_120) rfl ?_
      show Steps p.tables e below (T5.setTop (mkF m 121 #[.val (.int xs), .val (.int nn), .val (.int cf0), .val (.int cf1), .val (.int cf2), .val (.int cf3), .val (.int (4 : Int32)), .val (.long x.toInt64), .second, .val (.ref a1), .val (.long u2), .second, .unset, .unset] [(.long ((cf2.toInt64 * x.toInt64) * x.toInt64)), (.long u2)])) _
      refine XS.ladd X5.here hx rfl (hb hby at_121) rfl ?_
      rw [hu3]
      show Steps p.tables e below (T5.setTop (mkF m 122 #[.val (.int xs), .val (.int nn), .val (.int cf0), .val (.int cf1), .val (.int cf2), .val (.int cf3), .val (.int (4 : Int32)), .val (.long x.toInt64), .second, .val (.ref a1), .val (.long u2), .second, .unset, .unset] [(.long u3)])) _
      refine XS.lstore X5.here hx rfl (hb hby at_122) rfl (l' := #[.val (.int xs), .val (.int nn), .val (.int cf0), .val (.int cf1), .val (.int cf2), .val (.int cf3), .val (.int (4 : Int32)), .val (.long x.toInt64), .second, .val (.ref a1), .val (.long u3), .second, .unset, .unset]) rfl ?_
      show Steps p.tables e below (T5.setTop (mkF m 124 #[.val (.int xs), .val (.int nn), .val (.int cf0), .val (.int cf1), .val (.int cf2), .val (.int cf3), .val (.int (4 : Int32)), .val (.long x.toInt64), .second, .val (.ref a1), .val (.long u3), .second, .unset, .unset] [])) _
      refine XS.iload X5.here hx rfl (hb hby at_124) rfl ?_
      show Steps p.tables e below (T5.setTop (mkF m 126 #[.val (.int xs), .val (.int nn), .val (.int cf0), .val (.int cf1), .val (.int cf2), .val (.int cf3), .val (.int (4 : Int32)), .val (.long x.toInt64), .second, .val (.ref a1), .val (.long u3), .second, .unset, .unset] [(.int (4 : Int32))])) _
      refine XS.iconst X5.here hx rfl (hb hby at_126) ?_
      show Steps p.tables e below (T5.setTop (mkF m 127 #[.val (.int xs), .val (.int nn), .val (.int cf0), .val (.int cf1), .val (.int cf2), .val (.int cf3), .val (.int (4 : Int32)), .val (.long x.toInt64), .second, .val (.ref a1), .val (.long u3), .second, .unset, .unset] [(.int (3 : Int32)), (.int (4 : Int32))])) _
      refine XS.icmpNo X5.here hx rfl (hb hby at_127) rfl rfl ?_
      show Steps p.tables e below (T5.setTop (mkF m 130 #[.val (.int xs), .val (.int nn), .val (.int cf0), .val (.int cf1), .val (.int cf2), .val (.int cf3), .val (.int (4 : Int32)), .val (.long x.toInt64), .second, .val (.ref a1), .val (.long u3), .second, .unset, .unset] [])) _
      refine XS.lload X5.here hx rfl (hb hby at_130) rfl ?_
      show Steps p.tables e below (T5.setTop (mkF m 132 #[.val (.int xs), .val (.int nn), .val (.int cf0), .val (.int cf1), .val (.int cf2), .val (.int cf3), .val (.int (4 : Int32)), .val (.long x.toInt64), .second, .val (.ref a1), .val (.long u3), .second, .unset, .unset] [(.long u3)])) _
      refine XS.iload X5.here hx rfl (hb hby at_132) rfl ?_
      show Steps p.tables e below (T5.setTop (mkF m 134 #[.val (.int xs), .val (.int nn), .val (.int cf0), .val (.int cf1), .val (.int cf2), .val (.int cf3), .val (.int (4 : Int32)), .val (.long x.toInt64), .second, .val (.ref a1), .val (.long u3), .second, .unset, .unset] [(.int cf3), (.long u3)])) _
      refine XS.i2l X5.here hx rfl (hb hby at_134) rfl ?_
      show Steps p.tables e below (T5.setTop (mkF m 135 #[.val (.int xs), .val (.int nn), .val (.int cf0), .val (.int cf1), .val (.int cf2), .val (.int cf3), .val (.int (4 : Int32)), .val (.long x.toInt64), .second, .val (.ref a1), .val (.long u3), .second, .unset, .unset] [(.long cf3.toInt64), (.long u3)])) _
      refine XS.lload X5.here hx rfl (hb hby at_135) rfl ?_
      show Steps p.tables e below (T5.setTop (mkF m 137 #[.val (.int xs), .val (.int nn), .val (.int cf0), .val (.int cf1), .val (.int cf2), .val (.int cf3), .val (.int (4 : Int32)), .val (.long x.toInt64), .second, .val (.ref a1), .val (.long u3), .second, .unset, .unset] [(.long x.toInt64), (.long cf3.toInt64), (.long u3)])) _
      refine XS.lmul X5.here hx rfl (hb hby at_137) rfl ?_
      show Steps p.tables e below (T5.setTop (mkF m 138 #[.val (.int xs), .val (.int nn), .val (.int cf0), .val (.int cf1), .val (.int cf2), .val (.int cf3), .val (.int (4 : Int32)), .val (.long x.toInt64), .second, .val (.ref a1), .val (.long u3), .second, .unset, .unset] [(.long (cf3.toInt64 * x.toInt64)), (.long u3)])) _
      refine XS.lload X5.here hx rfl (hb hby at_138) rfl ?_
      show Steps p.tables e below (T5.setTop (mkF m 140 #[.val (.int xs), .val (.int nn), .val (.int cf0), .val (.int cf1), .val (.int cf2), .val (.int cf3), .val (.int (4 : Int32)), .val (.long x.toInt64), .second, .val (.ref a1), .val (.long u3), .second, .unset, .unset] [(.long x.toInt64), (.long (cf3.toInt64 * x.toInt64)), (.long u3)])) _
      refine XS.lmul X5.here hx rfl (hb hby at_140) rfl ?_
      show Steps p.tables e below (T5.setTop (mkF m 141 #[.val (.int xs), .val (.int nn), .val (.int cf0), .val (.int cf1), .val (.int cf2), .val (.int cf3), .val (.int (4 : Int32)), .val (.long x.toInt64), .second, .val (.ref a1), .val (.long u3), .second, .unset, .unset] [(.long ((cf3.toInt64 * x.toInt64) * x.toInt64)), (.long u3)])) _
      refine XS.lload X5.here hx rfl (hb hby at_141) rfl ?_
      show Steps p.tables e below (T5.setTop (mkF m 143 #[.val (.int xs), .val (.int nn), .val (.int cf0), .val (.int cf1), .val (.int cf2), .val (.int cf3), .val (.int (4 : Int32)), .val (.long x.toInt64), .second, .val (.ref a1), .val (.long u3), .second, .unset, .unset] [(.long x.toInt64), (.long ((cf3.toInt64 * x.toInt64) * x.toInt64)), (.long u3)])) _
      refine XS.lmul X5.here hx rfl (hb hby at_143) rfl ?_
      show Steps p.tables e below (T5.setTop (mkF m 144 #[.val (.int xs), .val (.int nn), .val (.int cf0), .val (.int cf1), .val (.int cf2), .val (.int cf3), .val (.int (4 : Int32)), .val (.long x.toInt64), .second, .val (.ref a1), .val (.long u3), .second, .unset, .unset] [(.long (((cf3.toInt64 * x.toInt64) * x.toInt64) * x.toInt64)), (.long u3)])) _
      refine XS.ladd X5.here hx rfl (hb hby at_144) rfl ?_
      rw [hu4]
      show Steps p.tables e below (T5.setTop (mkF m 145 #[.val (.int xs), .val (.int nn), .val (.int cf0), .val (.int cf1), .val (.int cf2), .val (.int cf3), .val (.int (4 : Int32)), .val (.long x.toInt64), .second, .val (.ref a1), .val (.long u3), .second, .unset, .unset] [(.long u4)])) _
      refine XS.lstore X5.here hx rfl (hb hby at_145) rfl (l' := #[.val (.int xs), .val (.int nn), .val (.int cf0), .val (.int cf1), .val (.int cf2), .val (.int cf3), .val (.int (4 : Int32)), .val (.long x.toInt64), .second, .val (.ref a1), .val (.long u4), .second, .unset, .unset]) rfl ?_
      show Steps p.tables e below (T5.setTop (mkF m 147 #[.val (.int xs), .val (.int nn), .val (.int cf0), .val (.int cf1), .val (.int cf2), .val (.int cf3), .val (.int (4 : Int32)), .val (.long x.toInt64), .second, .val (.ref a1), .val (.long u4), .second, .unset, .unset] [])) _
      refine XS.lload X5.here hx rfl (hb hby at_147) rfl ?_
      show Steps p.tables e below (T5.setTop (mkF m 149 #[.val (.int xs), .val (.int nn), .val (.int cf0), .val (.int cf1), .val (.int cf2), .val (.int cf3), .val (.int (4 : Int32)), .val (.long x.toInt64), .second, .val (.ref a1), .val (.long u4), .second, .unset, .unset] [(.long x.toInt64)])) _
      refine XS.l2dS X5.here hx rfl (hb hby at_149) rfl (v := X) hXd ?_
      show Steps p.tables e below (T5.setTop (mkF m 150 #[.val (.int xs), .val (.int nn), .val (.int cf0), .val (.int cf1), .val (.int cf2), .val (.int cf3), .val (.int (4 : Int32)), .val (.long x.toInt64), .second, .val (.ref a1), .val (.long u4), .second, .unset, .unset] [(.double X)])) _
      refine XS.aload X5.here hx rfl (hb hby at_150) rfl rfl ?_
      show Steps p.tables e below (T5.setTop (mkF m 152 #[.val (.int xs), .val (.int nn), .val (.int cf0), .val (.int cf1), .val (.int cf2), .val (.int cf3), .val (.int (4 : Int32)), .val (.long x.toInt64), .second, .val (.ref a1), .val (.long u4), .second, .unset, .unset] [(.ref a1), (.double X)])) _
      refine st7 _ ?_
      show Steps p.tables e below (T7.setTop (mkF m 155 #[.val (.int xs), .val (.int nn), .val (.int cf0), .val (.int cf1), .val (.int cf2), .val (.int cf3), .val (.int (4 : Int32)), .val (.long x.toInt64), .second, .val (.ref a1), .val (.long u4), .second, .unset, .unset] [(.double (own_hr X (own_pf cf0 cf1 cf2 cf3) 4 4))])) _
      refine XS.dstore X7.here hx rfl (hb hby at_155) rfl (l' := #[.val (.int xs), .val (.int nn), .val (.int cf0), .val (.int cf1), .val (.int cf2), .val (.int cf3), .val (.int (4 : Int32)), .val (.long x.toInt64), .second, .val (.ref a1), .val (.long u4), .second, .val (.double (own_hr X (own_pf cf0 cf1 cf2 cf3) 4 4)), .second]) rfl ?_
      show Steps p.tables e below (T7.setTop (mkF m 157 #[.val (.int xs), .val (.int nn), .val (.int cf0), .val (.int cf1), .val (.int cf2), .val (.int cf3), .val (.int (4 : Int32)), .val (.long x.toInt64), .second, .val (.ref a1), .val (.long u4), .second, .val (.double (own_hr X (own_pf cf0 cf1 cf2 cf3) 4 4)), .second] [])) _
      refine XS.dload X7.here hx rfl (hb hby at_157) rfl ?_
      show Steps p.tables e below (T7.setTop (mkF m 159 #[.val (.int xs), .val (.int nn), .val (.int cf0), .val (.int cf1), .val (.int cf2), .val (.int cf3), .val (.int (4 : Int32)), .val (.long x.toInt64), .second, .val (.ref a1), .val (.long u4), .second, .val (.double (own_hr X (own_pf cf0 cf1 cf2 cf3) 4 4)), .second] [(.double (own_hr X (own_pf cf0 cf1 cf2 cf3) 4 4))])) _
      refine XS.lload X7.here hx rfl (hb hby at_159) rfl ?_
      show Steps p.tables e below (T7.setTop (mkF m 161 #[.val (.int xs), .val (.int nn), .val (.int cf0), .val (.int cf1), .val (.int cf2), .val (.int cf3), .val (.int (4 : Int32)), .val (.long x.toInt64), .second, .val (.ref a1), .val (.long u4), .second, .val (.double (own_hr X (own_pf cf0 cf1 cf2 cf3) 4 4)), .second] [(.long u4), (.double (own_hr X (own_pf cf0 cf1 cf2 cf3) 4 4))])) _
      refine XS.l2dS X7.here hx rfl (hb hby at_161) rfl (v := FP.l2d u4) rfl ?_
      show Steps p.tables e below (T7.setTop (mkF m 162 #[.val (.int xs), .val (.int nn), .val (.int cf0), .val (.int cf1), .val (.int cf2), .val (.int cf3), .val (.int (4 : Int32)), .val (.long x.toInt64), .second, .val (.ref a1), .val (.long u4), .second, .val (.double (own_hr X (own_pf cf0 cf1 cf2 cf3) 4 4)), .second] [(.double (FP.l2d u4)), (.double (own_hr X (own_pf cf0 cf1 cf2 cf3) 4 4))])) _
      refine XS.dcmpS X7.here hx rfl (hb hby at_162) rfl (v := Jvm.Op.cmpValue (FP.dcmp (own_hr X (own_pf cf0 cf1 cf2 cf3) 4 4) (FP.l2d u4)) .l) rfl ?_
      show Steps p.tables e below (T7.setTop (mkF m 163 #[.val (.int xs), .val (.int nn), .val (.int cf0), .val (.int cf1), .val (.int cf2), .val (.int cf3), .val (.int (4 : Int32)), .val (.long x.toInt64), .second, .val (.ref a1), .val (.long u4), .second, .val (.double (own_hr X (own_pf cf0 cf1 cf2 cf3) 4 4)), .second] [(.int (Jvm.Op.cmpValue (FP.dcmp (own_hr X (own_pf cf0 cf1 cf2 cf3) 4 4) (FP.l2d u4)) .l))])) _
      refine XS.ifNo X7.here hx rfl (hb hby at_163) rfl fin ?_
      show Steps p.tables e below (T7.setTop (mkF m 166 #[.val (.int xs), .val (.int nn), .val (.int cf0), .val (.int cf1), .val (.int cf2), .val (.int cf3), .val (.int (4 : Int32)), .val (.long x.toInt64), .second, .val (.ref a1), .val (.long u4), .second, .val (.double (own_hr X (own_pf cf0 cf1 cf2 cf3) 4 4)), .second] [])) _
      refine XS.iconst X7.here hx rfl (hb hby at_166) ?_
      show Steps p.tables e below (T7.setTop (mkF m 167 #[.val (.int xs), .val (.int nn), .val (.int cf0), .val (.int cf1), .val (.int cf2), .val (.int cf3), .val (.int (4 : Int32)), .val (.long x.toInt64), .second, .val (.ref a1), .val (.long u4), .second, .val (.double (own_hr X (own_pf cf0 cf1 cf2 cf3) 4 4)), .second] [(.int (1 : Int32))])) _
      refine XS.goto X7.here hx rfl (pc0 := 167) (pc' := 171) rfl (hb hby at_167) (by decide) (by decide) ?_
      show Steps p.tables e below (T7.setTop (mkF m 171 #[.val (.int xs), .val (.int nn), .val (.int cf0), .val (.int cf1), .val (.int cf2), .val (.int cf3), .val (.int (4 : Int32)), .val (.long x.toInt64), .second, .val (.ref a1), .val (.long u4), .second, .val (.double (own_hr X (own_pf cf0 cf1 cf2 cf3) 4 4)), .second] [(.int (1 : Int32))])) _
      exact retN X7 hx (t := .boolean) Bd.returns (by simp) (hb hby at_171) hr
    · show QL n0 _ T7.heap _
      exact ⟨rfl, Fr.app M5 N7⟩
set_option maxRecDepth 65536 in
set_option maxHeartbeats 40000000 in
theorem comes_1 {Post : Tables → Env → Array Value → State → Outcome → State → Prop} (hpost : ∀ tb e args s v u, (limb_1_1.after args s (.returned v) u = true ∧ limb_1_2.after args s (.returned v) u = true ∧ True) → FrameEnd s (.returned v) u (Jvm.fieldLocs frame_1_writes args s ++ Jvm.arrayLocs frame_1_arrays args s ++ Jvm.staticLocs frame_1_statics s) 16 128 → Post tb e args s (.returned v) u) :
    ArmFor flags0 classFile x code maxLocals ret World_1 tables_1 room_1 Calls_1 rest_1 Pre_1 Post := by
  intro l hfl _ _ p e ha hc hk s m args below hf hA hF happ hP
  obtain ⟨hcalls, hrest, hpre⟩ := hP
  obtain ⟨-, -, -, hnamed, -, -, -, hat⟩ := (Spec.applies_iff hf).mp happ
  obtain ⟨hg, hn⟩ := and_e (Cond.before_iff.mp (show (Jvm.Cond.and given_1 narrow_1).before args s = true from hpre))
  obtain ⟨hcnt, g0⟩ := and_e hg
  obtain ⟨a0, g1⟩ := and_e g0
  obtain ⟨a1, g2⟩ := and_e g1
  obtain ⟨a2, g3⟩ := and_e g2
  obtain ⟨a3, g4⟩ := and_e g3
  obtain ⟨a4, g5⟩ := and_e g4
  obtain ⟨w0, w1, w2, w3, w4, w5, rfl⟩ : ∃ w0 w1 w2 w3 w4 w5 : Value, args = #[w0, w1, w2, w3, w4, w5] := by
    have hs : args.size = 6 := by simpa [Cond.value, given_1] using hcnt
    obtain ⟨L⟩ := args
    match L, hs with
    | [w0, w1, w2, w3, w4, w5], _ => exact ⟨w0, w1, w2, w3, w4, w5, rfl⟩
  have hw := fun d (hd : d ∈ tables_1) => atoms_spec (ws := Jvm.Cond.code x code maxLocals ret :: tables_1) hat d (List.mem_cons_of_mem _ hd)
  have hfit : Fit s := fun {y c} hc i hi => by
    obtain ⟨ha, rfl⟩ := Array.getElem?_eq_some_iff.mp hc
    have q := List.all_eq_true.mp ((Array.all_eq_true_iff_forall_mem.mp hF) _ (Array.getElem_mem ha)) i (List.mem_range.mpr hi)
    simpa [Array.getElem?_eq_getElem hi] using q
  obtain ⟨v0, e0⟩ := is_v a0
  obtain rfl : w0 = (.int v0) := Option.some.inj e0
  obtain ⟨v1, e1⟩ := is_v a1
  obtain rfl : w1 = (.int v1) := Option.some.inj e1
  obtain ⟨v2, e2⟩ := is_v a2
  obtain rfl : w2 = (.int v2) := Option.some.inj e2
  obtain ⟨v3, e3⟩ := is_v a3
  obtain rfl : w3 = (.int v3) := Option.some.inj e3
  obtain ⟨v4, e4⟩ := is_v a4
  obtain rfl : w4 = (.int v4) := Option.some.inj e4
  obtain ⟨v5, e5⟩ := is_v g5
  obtain rfl : w5 = (.int v5) := Option.some.inj e5
  obtain ⟨n, o, h1, h2, h3, _, L, rfl, ⟨rfl, N⟩, hq⟩ := rm0 l s _ hw tables_1 v0 v1 v2 v3 v4 v5 s.heap s.heap.size (Nat.le_refl _)  p e ha hc hk s m _ below hf ((Spec.applies_iff_loose hf).mp happ).1 ⟨rfl, State.Warmed39.refl s, rfl⟩ trivial
  refine ⟨n, _, h1, h2, h3, hpost _ _ _ _ _ _ ⟨Cond.after_iff.mpr rfl, Cond.after_iff.mpr (eq_i res_at (Term.int_eval (1)) rfl), trivial⟩ ⟨hq.1, hq.2.1, (hq.2.2.sift fun y hy => Or.inr (N y hy)).mono (by decide) (by decide)⟩⟩
theorem main_1_1 : Claimed_1_1 := comes_1 fun _ _ _ _ _ _ h hF => ⟨h.1, hF⟩
theorem main_1_2 : Claimed_1_2 := comes_1 fun _ _ _ _ _ _ h hF => ⟨h.2.1, hF⟩
end Jvm.Pilot.@@N@@
namespace Jvm.Pilot.@@N@@
open Jvm Jvm.ClassFile Sem Op Lib Jvm.Free Jvm.Stand Jvm.Pilot.@@N@@.Jvm.D
/-! MADE BY PROGRAM (witnessworld.py) out of the Statement's table words and the real class files: 11 classes; the members and pool entries that the words name. The judged class is class 1, her method 1. -/
namespace start1
open Jvm.ClassFile
def u (s : String) : CpInfo := .utf8 (stringToUtf16 s)
/-- a pool by its gaps: so many unusable entries, then the entry; so many at the end -/
def gap : Nat → List CpInfo → List CpInfo
  | 0, r => r
  | n + 1, r => .unusable :: gap n r
def poolList (es : List (Nat × CpInfo)) (last : Nat) : List CpInfo := es.foldr (fun e r => gap e.1 (e.2 :: r)) (gap last [])
def pool (es : List (Nat × CpInfo)) (last : Nat) : Array CpInfo := ⟨poolList es last⟩
def fileOf (pool : Array CpInfo) (this : Nat) (attrs : Array Attribute := #[]) (ms : Array MethodInfo := #[]) (fl : Nat := 33) (sup : Nat := 0) (ifs : Array Nat := #[]) (fds : Array FieldInfo := #[]) : ClassFile where
  minorVersion := 0
  majorVersion := 65
  constantPool := pool
  accessFlags := fl
  thisClass := this
  superClass := sup
  interfaces := ifs
  fields := fds
  methods := ms
  attributes := attrs
def plain (name : String) (sup : Option ClassId) : Class where
  name := name
  kind := .ordinary
  loader := none
  accessFlags := 33
  super := sup
  interfaces := #[]
  cf := none
  fields := #[]
  methods := #[]
  instanceTypes := #[]
  staticTypes := #[]
  resolved := #[]
  callSites := []
  init := .initialized
  statics := none
  mirror := none

def pool0 : Array CpInfo := pool [(5, u "<init>"), (0, u "()V"), (1, .class_ 10), (1, u "java/lang/Object")] 113

def k0m0 : Method := { name := "<init>", desc := "()V", sig := { parameters := [], returnType := none }, accessFlags := 1, code := none }
/-- java/lang/Object -/
def k0 : Class := { plain "java/lang/Object" none with
  accessFlags := 33
  interfaces := #[]
  cf := some (fileOf pool0 8 #[] #[{ accessFlags := 1, nameIndex := 5, descriptorIndex := 6, attributes := #[] }] 33 0 #[] #[])
  fields := #[]
  methods := #[k0m0]
  instanceTypes := #[]
  staticTypes := #[]
  resolved := Array.replicate 124 none
  statics := none }

def pool1 : Array CpInfo := pool [(2, .class_ 4), (1, u "java/lang/Object"), (0, u "<init>"), (0, u "()V"), (0, .methodref 8 9), (0, .class_ 10), (0, .nameAndType 11 12), (0, u "com/example/helioarc/helioarc/Spa"), (0, u "polynomial"), (0, u "(D[D)D"), (0, .class_ 14), (0, u "com/example/helioarc/helioarc/SpaPolynomialPinLaw"), (2, u "law"), (0, u "(IIIIII)Z")] 5

def k1m0 : Method := { name := "<init>", desc := "()V", sig := { parameters := [], returnType := none }, accessFlags := 1, code := none }
def k1c1 : Code := { maxStack := 6, maxLocals := 14, code := code, exceptionTable := #[], attributes := #[] }
def k1m1 : Method := { name := "law", desc := "(IIIIII)Z", sig := { parameters := [.int, .int, .int, .int, .int, .int], returnType := some .boolean }, accessFlags := 9, code := some k1c1 }
/-- com/example/helioarc/helioarc/SpaPolynomialPinLaw -/
def k1 : Class := { plain "com/example/helioarc/helioarc/SpaPolynomialPinLaw" (some 0) with
  accessFlags := 49
  interfaces := #[]
  cf := some (fileOf pool1 13 #[] #[{ accessFlags := 1, nameIndex := 5, descriptorIndex := 6, attributes := #[] }, { accessFlags := 9, nameIndex := 17, descriptorIndex := 18, attributes := #[] }] 49 2 #[] #[])
  fields := #[]
  methods := #[k1m0, k1m1]
  instanceTypes := #[]
  staticTypes := #[]
  resolved := Array.replicate 24 none
  statics := none }

def pool2 : Array CpInfo := pool [(4, .class_ 6), (1, u "java/lang/Object"), (3, .class_ 12), (1, u "com/example/helioarc/helioarc/Spa"), (0, u "longitude"), (0, u "Lcom/example/helioarc/helioarc/Spa$PeriodicTerms;"), (2, u "latitude"), (2, u "radius"), (2, u "nutation"), (0, u "Lcom/example/helioarc/helioarc/Spa$NutationTerms;"), (7, .class_ 34), (1, u "com/example/helioarc/helioarc/Spa$NutationTerms"), (3, .class_ 40), (1, u "com/example/helioarc/helioarc/Spa$PeriodicTerms"), (3, .class_ 46), (1, u "com/example/helioarc/helioarc/Spa$Nutation"), (38, .class_ 86), (0, u "com/example/helioarc/helioarc/Spa$Geocentric"), (13, u "OBLIQUITY"), (0, u "[D"), (2, u "polynomial"), (0, u "(D[D)D"), (35, u "RAD"), (0, u "D"), (1, u "SECONDS_PER_DAY"), (0, u "EPOCH_DAY_OF_J2000"), (0, u "DAYS_PER_CENTURY"), (0, u "ARCSECONDS_PER_DEGREE"), (0, u "ABERRATION"), (2, u "EQUATORIAL_HORIZONTAL_PARALLAX")] 15

def k2c0 : Code := { maxStack := 4, maxLocals := 6, code := prog_21_method_7_code, exceptionTable := #[], attributes := #[] }
def k2m0 : Method := { name := "polynomial", desc := "(D[D)D", sig := { parameters := [.double, (.array .double)], returnType := some .double }, accessFlags := 136, code := some k2c0 }
/-- com/example/helioarc/helioarc/Spa -/
def k2 : Class := { plain "com/example/helioarc/helioarc/Spa" (some 0) with
  accessFlags := 48
  interfaces := #[]
  cf := some (fileOf pool2 10 #[.nestMembers #[32, 38, 44, 85]] #[{ accessFlags := 136, nameIndex := 104, descriptorIndex := 105, attributes := #[] }] 48 4 #[] #[{ accessFlags := 26, nameIndex := 141, descriptorIndex := 142, attributes := #[] }, { accessFlags := 26, nameIndex := 144, descriptorIndex := 142, attributes := #[] }, { accessFlags := 26, nameIndex := 145, descriptorIndex := 142, attributes := #[] }, { accessFlags := 26, nameIndex := 146, descriptorIndex := 142, attributes := #[] }, { accessFlags := 26, nameIndex := 147, descriptorIndex := 142, attributes := #[] }, { accessFlags := 26, nameIndex := 148, descriptorIndex := 142, attributes := #[] }, { accessFlags := 26, nameIndex := 151, descriptorIndex := 142, attributes := #[] }, { accessFlags := 26, nameIndex := 100, descriptorIndex := 101, attributes := #[] }, { accessFlags := 18, nameIndex := 13, descriptorIndex := 14, attributes := #[] }, { accessFlags := 18, nameIndex := 17, descriptorIndex := 14, attributes := #[] }, { accessFlags := 18, nameIndex := 20, descriptorIndex := 14, attributes := #[] }, { accessFlags := 18, nameIndex := 23, descriptorIndex := 24, attributes := #[] }])
  fields := #[{ name := "RAD", type := .double, accessFlags := 26, slot := 0, constantValue := 0 }, { name := "SECONDS_PER_DAY", type := .double, accessFlags := 26, slot := 1, constantValue := 0 }, { name := "EPOCH_DAY_OF_J2000", type := .double, accessFlags := 26, slot := 2, constantValue := 0 }, { name := "DAYS_PER_CENTURY", type := .double, accessFlags := 26, slot := 3, constantValue := 0 }, { name := "ARCSECONDS_PER_DEGREE", type := .double, accessFlags := 26, slot := 4, constantValue := 0 }, { name := "ABERRATION", type := .double, accessFlags := 26, slot := 5, constantValue := 0 }, { name := "EQUATORIAL_HORIZONTAL_PARALLAX", type := .double, accessFlags := 26, slot := 6, constantValue := 0 }, { name := "OBLIQUITY", type := (.array .double), accessFlags := 26, slot := 7, constantValue := 0 }, { name := "longitude", type := (.object "com/example/helioarc/helioarc/Spa$PeriodicTerms"), accessFlags := 18, slot := 0, constantValue := 0 }, { name := "latitude", type := (.object "com/example/helioarc/helioarc/Spa$PeriodicTerms"), accessFlags := 18, slot := 1, constantValue := 0 }, { name := "radius", type := (.object "com/example/helioarc/helioarc/Spa$PeriodicTerms"), accessFlags := 18, slot := 2, constantValue := 0 }, { name := "nutation", type := (.object "com/example/helioarc/helioarc/Spa$NutationTerms"), accessFlags := 18, slot := 3, constantValue := 0 }]
  methods := #[k2m0]
  instanceTypes := #[(.object "com/example/helioarc/helioarc/Spa$PeriodicTerms"), (.object "com/example/helioarc/helioarc/Spa$PeriodicTerms"), (.object "com/example/helioarc/helioarc/Spa$PeriodicTerms"), (.object "com/example/helioarc/helioarc/Spa$NutationTerms")]
  staticTypes := #[.double, .double, .double, .double, .double, .double, .double, (.array .double)]
  resolved := Array.replicate 167 none
  statics := none }

def pool3 : Array CpInfo := pool [(1, u "java/lang/Cloneable"), (0, .class_ 1), (0, u "java/lang/Object"), (0, .class_ 3)] 3

/-- java/lang/Cloneable -/
def k3 : Class := { plain "java/lang/Cloneable" (some 0) with
  accessFlags := 1537
  interfaces := #[]
  cf := some (fileOf pool3 2 #[] #[] 1537 4 #[] #[])
  fields := #[]
  methods := #[]
  instanceTypes := #[]
  staticTypes := #[]
  resolved := Array.replicate 8 none
  statics := none }

def pool4 : Array CpInfo := pool [(1, u "java/io/Serializable"), (0, .class_ 1), (0, u "java/lang/Object"), (0, .class_ 3)] 3

/-- java/io/Serializable -/
def k4 : Class := { plain "java/io/Serializable" (some 0) with
  accessFlags := 1537
  interfaces := #[]
  cf := some (fileOf pool4 2 #[] #[] 1537 4 #[] #[])
  fields := #[]
  methods := #[]
  instanceTypes := #[]
  staticTypes := #[]
  resolved := Array.replicate 8 none
  statics := none }

/-- the primitive byte -/
def k5 : Class := { plain "byte" none with kind := .primitive 'B', accessFlags := 0x411 }
/-- [B -/
def k6 : Class := { plain "[B" (some 0) with kind := .array 5 .byte, interfaces := #[3, 4], accessFlags := 1041 }

/-- the primitive double -/
def k7 : Class := { plain "double" none with kind := .primitive 'D', accessFlags := 0x411 }
/-- [D -/
def k8 : Class := { plain "[D" (some 0) with kind := .array 7 .double, interfaces := #[3, 4], accessFlags := 1041 }

/-- the primitive int -/
def k9 : Class := { plain "int" none with kind := .primitive 'I', accessFlags := 0x411 }
/-- [I -/
def k10 : Class := { plain "[I" (some 0) with kind := .array 9 .int, interfaces := #[3, 4], accessFlags := 1041 }

def heap : Heap := #[]
def classes : Array Class := #[k0, k1, k2, k3, k4, k5, k6, k7, k8, k9, k10]
def interned : List (Array UInt16 × Addr) := []
def slotsUsed : Nat := 0
def theMethod : MethodId := ⟨1, 1⟩
def args0 : Array Value := #[.int 5, .int 3, .int 0, .int 1, .int 2, .int 3]
def aboutOver (below : List Frame) : State where
  vm := { classes := classes, interned := interned.toArray }
  heap := heap
  slotsUsed := slotsUsed
  threads := #[{ frames := .invoking theMethod args0 :: below }]
def below0 : List Frame := [.native { method := ⟨0, 0⟩, args := #[] }]
def about1 : State := aboutOver below0
def p0 : Program := .bare "" "" ""
def e0 : Env := launch0.env 0 0 0
theorem w_frames : about1.frames = Frame.invoking theMethod args0 :: below0 := rfl
set_option maxRecDepth 65536 in
theorem w_args : argsFit about1.vm theMethod args0 = true := by decide +kernel
set_option maxRecDepth 65536 in
theorem w_heap : heapFits about1 = true := by decide +kernel
set_option maxRecDepth 65536 in
theorem w_runnable : about1.curStatus? = some .runnable := by decide +kernel
set_option maxRecDepth 65536 in
theorem w_alone : about1.alone = true := by decide +kernel
set_option maxRecDepth 65536 in
theorem w_named : about1.methodNamed? x = some theMethod := by decide +kernel
set_option maxRecDepth 65536 in
theorem w_hears : about1.hears theMethod below0 = true := by decide +kernel
set_option maxRecDepth 65536 in
theorem w_ripe : about1.ripe theMethod args0 below0 = true := by decide +kernel
theorem w_running : about1.status = .running := rfl
set_option maxRecDepth 65536 in
theorem w_room : about1.hasRoom e0.platform room_1 = true :=
  launch0.hasRoom_least _ room_1 (by decide +kernel) (by decide +kernel) (by decide +kernel) (by decide +kernel) (by decide +kernel) (by decide +kernel)
theorem allAtoms_all (ts : List Jvm.Cond) (a : Array Jvm.Value) (st : Jvm.State) : (allAtoms ts).before a st = ts.all (fun c => c.before a st) := by
  induction ts with
  | nil => rfl
  | cons c t ih =>
    show (Jvm.Cond.and c (allAtoms t)).before a st = _
    rw [Jvm.Cond.before_and, ih, List.all_cons]
def words1 : List Jvm.Cond := Jvm.Cond.code x code maxLocals ret :: tables_1
/-- a 'code' word, met by the world's own term for the bytes: nothing is compared byte by byte -/
theorem code_word {y : MethodName} {bytes : ByteArray} {mx : Nat} {rt : Option FieldType} {a : Array Value} {s : State} {m : MethodId} {meth : Method} {c : Code} (h1 : s.methodNamed? y = some m) (h2 : s.vm.method? m = some meth) (h3 : meth.code = some c) (h4 : c.code = bytes)
    (h5 : (c.maxLocals == mx && c.exceptionTable.isEmpty && decide (c.maxStack ≤ mostOperands) && decide (meth.sig.returnType = rt) && !meth.locks && decide (parseMethodDescriptor y.desc = some meth.sig)) = true) : (Jvm.Cond.code y bytes mx rt).before a s = true := by
  simp only [Bool.and_eq_true, beq_iff_eq, Bool.not_eq_true', decide_eq_true_eq] at h5
  obtain ⟨⟨⟨⟨⟨g1, g2⟩, g3⟩, g4⟩, g5⟩, g6⟩ := h5
  simp [Cond.before, Cond.holds, Cond.value, h1, h2, h3, h4, g1, g2, g3, g4, g5, g6]
def isCode : Jvm.Cond → Bool
  | .code _ _ _ _ => true
  | _ => false
theorem all_split {L : List Jvm.Cond} {P : Jvm.Cond → Bool} (h1 : L.all (fun c => isCode c || P c) = true) (h2 : ∀ c ∈ L.filter isCode, P c = true) : L.all P = true := by
  refine List.all_eq_true.mpr fun c hc => ?_
  have h := List.all_eq_true.mp h1 c hc
  rcases Bool.eq_false_or_eq_true (isCode c) with hi | hi
  · exact h2 c (List.mem_filter.mpr ⟨hc, hi⟩)
  · simpa [hi] using h
set_option maxRecDepth 65536 in
theorem w_c0 : (Jvm.Cond.code x code maxLocals ret).before args0 about1 = true := code_word (m := ⟨1, 1⟩) (meth := k1m1) (c := k1c1) (by decide +kernel) rfl rfl rfl (by decide +kernel)
set_option maxRecDepth 65536 in
theorem w_c1 : (Jvm.Cond.code ({ cls := "com/example/helioarc/helioarc/Spa", name := "polynomial", desc := "(D[D)D" } : Jvm.MethodName) prog_21_method_7_code (6 : Nat) (Option.some Jvm.ClassFile.FieldType.double)).before args0 about1 = true := code_word (m := ⟨2, 0⟩) (meth := k2m0) (c := k2c0) (by decide +kernel) rfl rfl rfl (by decide +kernel)
def codes1 : List Jvm.Cond := [Jvm.Cond.code x code maxLocals ret, Jvm.Cond.code ({ cls := "com/example/helioarc/helioarc/Spa", name := "polynomial", desc := "(D[D)D" } : Jvm.MethodName) prog_21_method_7_code (6 : Nat) (Option.some Jvm.ClassFile.FieldType.double)]
set_option maxRecDepth 65536 in
theorem codes_eq : words1.filter isCode = codes1 := rfl
theorem w_codes : ∀ c ∈ words1.filter isCode, c.before args0 about1 = true := by
  rw [codes_eq]
  intro c hc
  simp only [codes1, List.mem_cons, List.not_mem_nil, or_false] at hc
  rcases hc with rfl | rfl
  · exact w_c0
  · exact w_c1
set_option maxRecDepth 65536 in
theorem w_t1 : words1.all (fun c => isCode c || c.before args0 about1) = true := by decide +kernel
theorem w_tables : (allAtoms (Jvm.Cond.code x code maxLocals ret :: tables_1)).before args0 about1 = true := by
  rw [allAtoms_all]
  show words1.all (fun c => c.before args0 about1) = true
  refine all_split ?_ w_codes
  rw [w_t1]
set_option maxRecDepth 65536 in
theorem w_case : (Jvm.Cond.and given_1 narrow_1).before args0 about1 = true := by decide +kernel
theorem w_applies : (headSpec (Jvm.Cond.code x code maxLocals ret :: tables_1) room_1).applies x e0.platform about1 = true :=
  (Spec.applies_iff w_frames).mpr ⟨w_running, w_runnable, w_alone, w_named, w_hears, w_ripe, w_room, w_tables⟩
theorem atStart : AtStart classFile x code maxLocals ret World_1 tables_1 room_1 Calls_1 rest_1 Pre_1 launch0 p0 e0 about1 theMethod args0 below0 :=
  ⟨lists_1, trivial, launch0.admits_env _ _ _, launch0.least_env, fairChoices_fair.cas, fairChoices_fair.clock, w_frames, w_args, w_heap, w_applies, trivial, trivial, w_case⟩
end start1
theorem witness_1 : WitnessClaimed_1 := ⟨start1.p0, start1.e0, start1.about1, start1.theMethod, start1.args0, start1.below0, start1.atStart⟩
end Jvm.Pilot.@@N@@
