import JvmDerived
import JvmDerived.Pilot.@@N@@Statement
import JvmDerived.Pilot.@@N@@Code
set_option linter.unusedVariables false
set_option linter.unusedSimpArgs false
namespace Jvm.RoadKit
open Sem ClassFile Op Lib Jvm.Stand Jvm.Free Jvm.LawKit
section OwnGo
variable {p : Program} {l : Launch} {e : Env} {R : Room} {s : State} {m : MethodId} {args : Array Value} {below : List Frame} {meth : Method} {c : Code} {T U V : State} {locs : List Loc} {cells slots : Nat} {Q : Option Value → Heap → List Loc → Prop} {k n : Nat}
/-- from the state U the run ends within the frame, by a return of which Q holds -/
def Goes (p : Program) (e : Env) (below : List Frame) (s : State) (Q : Option Value → Heap → List Loc → Prop) (k n : Nat) (U : State) : Prop :=
  ∃ s₂ o, Steps p.tables e below U s₂ ∧ s₂.status = .running ∧ Ended s₂ below o ∧ ∃ v L, o = .returned v ∧ Q v s₂.heap L ∧ FrameEnd s o s₂ L k n
theorem Goes.st (st : ∀ t, Steps p.tables e below V t → Steps p.tables e below U t) (h : Goes p e below s Q k n V) : Goes p e below s Q k n U := by
  obtain ⟨s₂, o, h1, h2⟩ := h
  exact ⟨s₂, o, st _ h1, h2⟩
theorem Goes.tr (st : Steps p.tables e below U V) (h : Goes p e below s Q k n V) : Goes p e below s Q k n U := Goes.st (fun _ q => st.trans q) h
theorem Goes.cast {g g' : JFrame} (q : g = g') (h : Goes p e below s Q k n (T.setTop g')) : Goes p e below s Q k n (T.setTop g) := q ▸ h
theorem Goes.retN (X : Stand p l e R s m args below meth c T locs cells slots) (hx : p.tables.exec = Jvm.exec) {pc : Nat} {Ls : Array Slot} {z : Int32} {t : FieldType} {rest : List Value} (hret : meth.sig.returnType = some t) (hlk : meth.locks = false) (ht : t = .boolean ∨ t = .byte ∨ t = .char ∨ t = .short)
    (hd : decode c.code pc = .ok (.ireturn, 1)) (hc : cells ≤ k) (hs : slots ≤ n) (hq : Q (some (.int (nar t z))) T.heap locs) : Goes p e below s Q k n (T.setTop (mkF m pc Ls (.int z :: rest))) := by
  obtain ⟨fs, hr, hrun, hended, hW, hsame⟩ := X.leave (v := some (.int (nar t z))) (fun h => by rw [hret] at h; cases h) hlk
  exact ⟨_, _, Jvm.RoadKit.retN X hx hret ht hd hr, hrun, hended, _, _, rfl, hq, ⟨_, rfl⟩, hW, hsame.mono hc hs⟩
theorem Goes.retO (X : Stand p l e R s m args below meth c T locs cells slots) (hx : p.tables.exec = Jvm.exec) {pc : Nat} {Ls : Array Slot} {w : Value} {t : FieldType} {i : Instr} {rest : List Value} (hret : meth.sig.returnType = some t) (hlk : meth.locks = false) (hn : narrow t w = w)
    (hi : (i = .ireturn ∧ (t = .int ∨ t = .boolean ∨ t = .byte ∨ t = .char ∨ t = .short) ∧ ∃ z, w = .int z) ∨ (i = .lreturn ∧ t = .long ∧ ∃ z, w = .long z) ∨ (i = .dreturn ∧ t = .double ∧ ∃ z, w = .double z) ∨ (i = .freturn ∧ t = .float ∧ ∃ z, w = .float z) ∨ (i = .areturn ∧ t.isReference = true ∧ w.isRef = true))
    (hd : decode c.code pc = .ok (i, 1)) (hc : cells ≤ k) (hs : slots ≤ n) (hq : Q (some w) T.heap locs) : Goes p e below s Q k n (T.setTop (mkF m pc Ls (w :: rest))) := by
  obtain ⟨fs, hr, hrun, hended, hW, hsame⟩ := X.leave (v := some w) (fun h => by rw [hret] at h; cases h) hlk
  exact ⟨_, _, Jvm.RoadKit.retOut X hx hret hn hi hd hr, hrun, hended, _, _, rfl, hq, ⟨_, rfl⟩, hW, hsame.mono hc hs⟩
theorem Goes.ret0 (X : Stand p l e R s m args below meth c T locs cells slots) (hx : p.tables.exec = Jvm.exec) {pc : Nat} {Ls : Array Slot} (hret : meth.sig.returnType = none) (hlk : meth.locks = false)
    (hd : decode c.code pc = .ok (.return_, 1)) (hc : cells ≤ k) (hs : slots ≤ n) (hq : Q none T.heap locs) : Goes p e below s Q k n (T.setTop (mkF m pc Ls [])) := by
  obtain ⟨fs, hr, hrun, hended, hW, hsame⟩ := X.leave (v := none) (fun _ => rfl) hlk
  exact ⟨_, _, X.returnOut hx hret hd hr, hrun, hended, _, _, rfl, hq, ⟨_, rfl⟩, hW, hsame.mono hc hs⟩
end OwnGo
end Jvm.RoadKit
namespace Jvm.RoadKit
open Sem ClassFile Op Lib Jvm.Stand Jvm.Free Jvm.LawKit
section OwnGoW
variable {p : Program} {l : Launch} {e : Env} {R : Room} {s : State} {m : MethodId} {args : Array Value} {below : List Frame} {meth : Method} {c : Code} {T U V : State} {locs : List Loc} {cells slots : Nat} {Q : Option Value → Heap → List Loc → Prop} {k n : Nat} {vm0 : Vm} {k0 : Nat}
/-- as Goes, where Strings may have been interned -/
def GoesW (p : Program) (e : Env) (below : List Frame) (s : State) (Q : Option Value → Heap → List Loc → Prop) (k n : Nat) (U : State) : Prop :=
  ∃ s₂ o, Steps p.tables e below U s₂ ∧ s₂.status = .running ∧ Ended s₂ below o ∧ ∃ v L, o = .returned v ∧ Q v s₂.heap L ∧ ReturnedEndW s o s₂ L k n
theorem GoesW.st (st : ∀ t, Steps p.tables e below V t → Steps p.tables e below U t) (h : GoesW p e below s Q k n V) : GoesW p e below s Q k n U := by
  obtain ⟨s₂, o, h1, h2⟩ := h
  exact ⟨s₂, o, st _ h1, h2⟩
theorem GoesW.tr (st : Steps p.tables e below U V) (h : GoesW p e below s Q k n V) : GoesW p e below s Q k n U := GoesW.st (fun _ q => st.trans q) h
theorem GoesW.cast {g g' : JFrame} (q : g = g') (h : GoesW p e below s Q k n (T.setTop g')) : GoesW p e below s Q k n (T.setTop g) := q ▸ h
theorem own_monoW {o : Outcome} (h : ReturnedEndW s o U locs cells slots) (hc : cells ≤ k) (hs : slots ≤ n) : ReturnedEndW s o U locs k n := ⟨h.1, h.2.1, h.2.2.1, h.2.2.2.mono hc hs⟩
theorem GoesW.retN (X : Stand p l e R (s.setVm vm0) m args below meth c T locs cells slots) (hS : s.Since vm0 k0) (hk : k0 ≤ T.heap.size) (hx : p.tables.exec = Jvm.exec) {pc : Nat} {Ls : Array Slot} {z : Int32} {t : FieldType} {rest : List Value} (hret : meth.sig.returnType = some t) (hlk : meth.locks = false) (ht : t = .boolean ∨ t = .byte ∨ t = .char ∨ t = .short)
    (hd : decode c.code pc = .ok (.ireturn, 1)) (hc : cells ≤ k) (hs : slots ≤ n) (hq : Q (some (.int (nar t z))) T.heap locs) : GoesW p e below s Q k n (T.setTop (mkF m pc Ls (.int z :: rest))) := by
  obtain ⟨fs, hr, hrun, hended, hW⟩ := X.leaveW hS hk (v := some (.int (nar t z))) (fun h => by rw [hret] at h; cases h) hlk
  exact ⟨_, _, Jvm.RoadKit.retN X hx hret ht hd hr, hrun, hended, _, _, rfl, hq, own_monoW hW hc hs⟩
theorem GoesW.retO (X : Stand p l e R (s.setVm vm0) m args below meth c T locs cells slots) (hS : s.Since vm0 k0) (hk : k0 ≤ T.heap.size) (hx : p.tables.exec = Jvm.exec) {pc : Nat} {Ls : Array Slot} {w : Value} {t : FieldType} {i : Instr} {rest : List Value} (hret : meth.sig.returnType = some t) (hlk : meth.locks = false) (hn : narrow t w = w)
    (hi : (i = .ireturn ∧ (t = .int ∨ t = .boolean ∨ t = .byte ∨ t = .char ∨ t = .short) ∧ ∃ z, w = .int z) ∨ (i = .lreturn ∧ t = .long ∧ ∃ z, w = .long z) ∨ (i = .dreturn ∧ t = .double ∧ ∃ z, w = .double z) ∨ (i = .freturn ∧ t = .float ∧ ∃ z, w = .float z) ∨ (i = .areturn ∧ t.isReference = true ∧ w.isRef = true))
    (hd : decode c.code pc = .ok (i, 1)) (hc : cells ≤ k) (hs : slots ≤ n) (hq : Q (some w) T.heap locs) : GoesW p e below s Q k n (T.setTop (mkF m pc Ls (w :: rest))) := by
  obtain ⟨fs, hr, hrun, hended, hW⟩ := X.leaveW hS hk (v := some w) (fun h => by rw [hret] at h; cases h) hlk
  exact ⟨_, _, Jvm.RoadKit.retOut X hx hret hn hi hd hr, hrun, hended, _, _, rfl, hq, own_monoW hW hc hs⟩
theorem GoesW.ret0 (X : Stand p l e R (s.setVm vm0) m args below meth c T locs cells slots) (hS : s.Since vm0 k0) (hk : k0 ≤ T.heap.size) (hx : p.tables.exec = Jvm.exec) {pc : Nat} {Ls : Array Slot} (hret : meth.sig.returnType = none) (hlk : meth.locks = false)
    (hd : decode c.code pc = .ok (.return_, 1)) (hc : cells ≤ k) (hs : slots ≤ n) (hq : Q none T.heap locs) : GoesW p e below s Q k n (T.setTop (mkF m pc Ls [])) := by
  obtain ⟨fs, hr, hrun, hended, hW⟩ := X.leaveW hS hk (v := none) (fun _ => rfl) hlk
  exact ⟨_, _, X.returnOut hx hret hd hr, hrun, hended, _, _, rfl, hq, own_monoW hW hc hs⟩
end OwnGoW
end Jvm.RoadKit
namespace Jvm.OwnNum
open Jvm.FP.Core
abbrev z (a : UInt64) : Int := zval b64 (val64 a)
theorem one_eq : (2 : Nat) ^ (b64.qmin - (2 * b64.qmin)).toNat = one64 := by decide +kernel
theorem own_add_le {a b V : UInt64} (ha : DFin a) (hb : DFin b) (hV : val64 V ≠ .nan) (h : z a + z b ≤ z V) : z (dadd a b) ≤ z V := by
  unfold z; rw [val64_dadd]; exact sum_le good_b64 ha hb (val64_fits a) (val64_fits b) (val64_fits V) hV h
theorem own_add_ge {a b V : UInt64} (ha : DFin a) (hb : DFin b) (hV : val64 V ≠ .nan) (h : z V ≤ z a + z b) : z V ≤ z (dadd a b) := by
  unfold z; rw [val64_dadd]; exact sum_ge good_b64 ha hb (val64_fits a) (val64_fits b) (val64_fits V) hV h
theorem own_units {c d : Nat} {q r Q : Int} (h1 : Q ≤ q) (h2 : Q ≤ r) : inUnits (c * d) (q + r) (2 * Q) = inUnits c q Q * inUnits d r Q := by
  unfold inUnits
  rw [show (q + r - 2 * Q).toNat = (q - Q).toNat + (r - Q).toNat by omega, Nat.pow_add]
  ac_rfl
theorem own_signed (s t : Bool) (m n : Nat) : signed (s != t) (m * n) = signed s m * signed t n := by
  cases s <;> cases t <;> simp [signed, Int.mul_neg, Int.neg_mul]
theorem own_mul {a b : UInt64} (ha : DFin a) (hb : DFin b) : ∃ s c q, val64 (dmul a b) = round b64 (.fin s c q) ∧ 2 * b64.qmin ≤ q ∧ signed s (inUnits c q (2 * b64.qmin)) = z a * z b := by
  obtain ⟨s, c, q, e1⟩ := ha
  obtain ⟨t, d, r, e2⟩ := hb
  have f1 := val64_fits a; have f2 := val64_fits b
  rw [e1] at f1; rw [e2] at f2
  obtain ⟨-, f1, -, -⟩ := f1; obtain ⟨-, f2, -, -⟩ := f2
  refine ⟨s != t, c * d, q + r, ?_, by omega, ?_⟩
  · rw [val64_dmul, e1, e2]; rfl
  · rw [own_units f1 f2, own_signed]; unfold z zval; rw [e1, e2]; rfl
theorem own_mul_le {a b V : UInt64} (ha : DFin a) (hb : DFin b) (hV : val64 V ≠ .nan) (h : z a * z b ≤ z V * (one64 : Int)) : z (dmul a b) ≤ z V := by
  obtain ⟨s, c, q, e, h1, h2⟩ := own_mul ha hb
  unfold z; rw [e]
  refine zval_round_le good_b64 (val64_fits V) hV (e0 := 2 * b64.qmin) (by decide) h1 ?_
  rw [h2, one_eq]; exact h
theorem own_mul_ge {a b V : UInt64} (ha : DFin a) (hb : DFin b) (hV : val64 V ≠ .nan) (h : z V * (one64 : Int) ≤ z a * z b) : z V ≤ z (dmul a b) := by
  obtain ⟨s, c, q, e, h1, h2⟩ := own_mul ha hb
  unfold z; rw [e]
  refine zval_round_ge good_b64 (val64_fits V) hV (e0 := 2 * b64.qmin) (by decide) h1 ?_
  rw [h2, one_eq]; exact h
abbrev zm (a : UInt64) : Nat := zmag b64 (val64 a)
theorem own_div_le {a b V : UInt64} (ha : DFin a) (hb : DFin b) (hz : 0 < zm b) (hV : val64 V ≠ .nan) (h : zm a * one64 ≤ zm V * zm b) : zm (ddiv a b) ≤ zm V ∧ val64 (ddiv a b) ≠ .nan := by
  obtain ⟨s, c, q, e1⟩ := ha
  obtain ⟨t, d, r, e2⟩ := hb
  have f1 := val64_fits a; have f2 := val64_fits b
  rw [e1] at f1; rw [e2] at f2
  obtain ⟨-, f1, f1', -⟩ := f1; obtain ⟨-, f2, f2', -⟩ := f2
  have ea : zm a = c * 2 ^ (q - b64.qmin).toNat := by unfold zm; rw [e1]; rfl
  have eb : zm b = d * 2 ^ (r - b64.qmin).toNat := by unfold zm; rw [e2]; rfl
  have hd : 0 < d := Nat.pos_of_ne_zero fun q => by rw [eb, q] at hz; simp at hz
  have e : val64 (ddiv a b) = roundRatio b64 (s != t) c d (q - r) := by
    rw [val64_ddiv, e1, e2]; simp [quotient, Nat.pos_iff_ne_zero.mp hd]
  have hqm : b64.qmin = -1074 := by decide
  have hqM : b64.qmax = 971 := by decide
  refine ⟨?_, by rw [e]; exact roundRatio_ne_nan _ _ _ _ _⟩
  unfold zm at h ⊢
  rw [e]
  refine zmag_roundRatio_le good_b64 hd (val64_fits V) hV (e0 := 2 * b64.qmin) (by decide) (by omega) ?_
  rw [one_eq]
  refine Nat.le_of_mul_le_mul_right ?_ (Nat.two_pow_pos (r - b64.qmin).toNat)
  have k1 : inUnits c (q - r) (2 * b64.qmin) * 2 ^ (r - b64.qmin).toNat = zm a * one64 * one64 := by
    rw [ea, ← one_eq]; unfold inUnits
    rw [Nat.mul_assoc, ← Nat.pow_add, Nat.mul_assoc, Nat.mul_assoc, ← Nat.pow_add, ← Nat.pow_add]
    congr 2; omega
  have k2 : zmag b64 (val64 V) * one64 * d * 2 ^ (r - b64.qmin).toNat = zm V * zm b * one64 := by
    rw [eb]; unfold zm; generalize one64 = w; generalize zmag b64 (val64 V) = v; generalize 2 ^ (r - b64.qmin).toNat = pp; ac_rfl
  rw [k1, k2]
  exact Nat.mul_le_mul_right one64 h
theorem own_zabs (a : UInt64) : (z a = (zm a : Int)) ∨ (z a = -(zm a : Int)) := by
  unfold z zval zm
  cases sgn (val64 a)
  · exact Or.inl rfl
  · exact Or.inr rfl
theorem own_fin {r V : UInt64} (hn : val64 r ≠ .nan) (hV : DFin V) (h : zm r ≤ zm V) : DFin r := by
  have h1 := hV.zval_lt
  unfold zm at h
  cases e : val64 r with
  | nan => exact absurd e hn
  | inf s => rw [e] at h; exact absurd h (Nat.not_le.mpr h1)
  | fin s c q => exact ⟨s, c, q, e⟩
theorem own_addn {a b : UInt64} (ha : DFin a) (hb : DFin b) : val64 (dadd a b) ≠ .nan := by
  obtain ⟨s, c, q, e1⟩ := ha
  obtain ⟨t, d, r, e2⟩ := hb
  rw [val64_dadd, e1, e2]; exact roundRatio_ne_nan _ _ _ _ _
theorem own_muln {a b : UInt64} (ha : DFin a) (hb : DFin b) : val64 (dmul a b) ≠ .nan := by
  obtain ⟨s, c, q, e, -⟩ := own_mul ha hb
  rw [e]; exact roundRatio_ne_nan _ _ _ _ _
theorem own_mulA {a b : UInt64} (ha : DFin a) (hb : DFin b) : ∃ s c q, val64 (dmul a b) = roundRatio b64 s c 1 q ∧ 2 * b64.qmin ≤ q ∧ inUnits c q (2 * b64.qmin) = zm a * zm b ∧ (a = b → s = false) := by
  obtain ⟨s, c, q, e1⟩ := ha
  obtain ⟨t, d, r, e2⟩ := hb
  have f1 := val64_fits a; have f2 := val64_fits b
  rw [e1] at f1; rw [e2] at f2
  obtain ⟨-, f1, -, -⟩ := f1; obtain ⟨-, f2, -, -⟩ := f2
  refine ⟨s != t, c * d, q + r, ?_, by omega, ?_, ?_⟩
  · rw [val64_dmul, e1, e2]; rfl
  · rw [own_units f1 f2]; unfold zm; rw [e1, e2]; rfl
  · intro h; rw [h, e2] at e1; cases e1; simp
theorem own_mul_zle {a b V : UInt64} (ha : DFin a) (hb : DFin b) (hV : val64 V ≠ .nan) (h : zm a * zm b ≤ zm V * one64) : zm (dmul a b) ≤ zm V := by
  obtain ⟨s, c, q, e, h1, h2, -⟩ := own_mulA ha hb
  unfold zm; rw [e]
  refine zmag_roundRatio_le good_b64 (by decide) (val64_fits V) hV (e0 := 2 * b64.qmin) (by decide) h1 ?_
  rw [h2, one_eq, Nat.mul_one]; exact h
theorem own_mul_zge {a b V : UInt64} (ha : DFin a) (hb : DFin b) (h : zm V * one64 ≤ zm a * zm b) : zm V ≤ zm (dmul a b) := by
  obtain ⟨s, c, q, e, h1, h2, -⟩ := own_mulA ha hb
  unfold zm; rw [e]
  refine zmag_roundRatio_ge good_b64 (by decide) (val64_fits V) (e0 := 2 * b64.qmin) (by decide) h1 ?_
  rw [h2, one_eq, Nat.mul_one]; exact h
theorem own_sqz {a : UInt64} (ha : DFin a) : z (dmul a a) = (zm (dmul a a) : Int) := by
  obtain ⟨s, c, q, e, -, -, h3⟩ := own_mulA ha ha
  obtain rfl := h3 rfl
  unfold z zval zm; rw [e, sgn_roundRatio]; rfl
abbrev c067 : UInt64 := 4604210043045952881
abbrev c045 : UInt64 := 4601778099247172813
abbrev c09 : UInt64 := 4606281698874543309
abbrev c05 : UInt64 := 4602678819172646912
abbrev c025 : UInt64 := 4598175219545276416
abbrev c0625 : UInt64 := 4603804719079489536
abbrev c125 : UInt64 := 4608308318706860032
abbrev c134 : UInt64 := 4608713642673323377
abbrev c039 : UInt64 := 4600708494335672320
abbrev c139 : UInt64 := 4608941637404459008
abbrev c1 : UInt64 := 4607182418800017408
abbrev c2 : UInt64 := 4611686018427387904
abbrev c1500 : UInt64 := 4654311885213007872
abbrev cm1 : UInt64 := 13830554455654793216
theorem own_f {a : UInt64} (h : a.toNat % 2 ^ 63 < 9218868437227405312 := by decide) : DFin a := (fin_bits a).mpr h
theorem own_nn {a : UInt64} (h : DFin a) : val64 a ≠ .nan := by obtain ⟨s, c, q, e⟩ := h; rw [e]; exact Datum.noConfusion
theorem k1 : 999 * one64 * one64 ≤ zm c067 * zm c1500 := by decide +kernel
theorem k1500 : 0 < zm c1500 := by decide +kernel
theorem k2 : zm c067 * zm c067 ≤ zm c045 * one64 := by decide +kernel
theorem k3 : zm c025 * one64 ≤ zm c05 * zm c05 := by decide +kernel
theorem k4 : zm c039 * one64 ≤ zm c0625 * zm c0625 := by decide +kernel
theorem k5 : z c045 + z c045 ≤ z c09 := by decide +kernel
theorem k6 : z c1 + z c09 ≤ z c2 := by decide +kernel
theorem k7 : z c125 ≤ z c1 + z c025 := by decide +kernel
theorem k8 : z c139 ≤ z c1 + z c039 := by decide +kernel
theorem k9 : zm c2 * zm c05 ≤ zm c1 * one64 := by decide +kernel
theorem k10 : zm c2 * zm c0625 ≤ zm c125 * one64 := by decide +kernel
theorem k11 : zm c2 * zm c067 ≤ zm c134 * one64 := by decide +kernel
theorem k12 : zm c134 ≤ zm c139 := by decide +kernel
theorem k13 : z c1 = (one64 : Int) ∧ zm c1 = one64 ∧ z cm1 = -(one64 : Int) := by decide +kernel
theorem k14 : z c045 = (zm c045 : Int) ∧ z c09 = (zm c09 : Int) ∧ z c2 = (zm c2 : Int) ∧ z c125 = (zm c125 : Int) ∧ z c139 = (zm c139 : Int) ∧ z c025 = (zm c025 : Int) ∧ z c039 = (zm c039 : Int) := by decide +kernel
theorem own_x {A : Int} {xa : UInt64} (hA : DInt A xa) (fA : DFin xa) (a1 : -999 ≤ A) (a2 : A ≤ 999) : DFin (ddiv xa c1500) ∧ zm (ddiv xa c1500) ≤ zm c067 := by
  have h1 := DInt_zval hA
  have h2 : zm xa ≤ 999 * one64 := by
    have h3 := own_zabs xa
    have h4 : z xa = A * (one64 : Int) := h1
    have p := one64_pos
    generalize zm xa = u at *
    generalize one64 = w at *
    have h5 : -(999 * (w : Int)) ≤ z xa ∧ z xa ≤ 999 * (w : Int) := by
      rw [h4]
      have q1 : (-999) * (w : Int) ≤ A * w := Int.mul_le_mul_of_nonneg_right a1 (by omega)
      have q2 : A * (w : Int) ≤ 999 * w := Int.mul_le_mul_of_nonneg_right a2 (by omega)
      constructor <;> omega
    omega
  have h3 : zm xa * one64 ≤ zm c067 * zm c1500 := Nat.le_trans (Nat.mul_le_mul_right _ h2) k1
  obtain ⟨q1, q2⟩ := own_div_le fA (own_f (a := c1500)) k1500 (own_nn (own_f (a := c067))) h3
  exact ⟨own_fin q2 (own_f (a := c067)) q1, q1⟩
theorem own_sq {x : UInt64} (hx : DFin x) (h : zm x ≤ zm c067) : DFin (dmul x x) ∧ 0 ≤ z (dmul x x) ∧ z (dmul x x) ≤ z c045 ∧ (zm c05 ≤ zm x → z c025 ≤ z (dmul x x)) ∧ (zm c0625 ≤ zm x → z c039 ≤ z (dmul x x)) := by
  have h1 := own_mul_zle hx hx (own_nn (own_f (a := c045))) (Nat.le_trans (Nat.mul_le_mul h h) k2)
  have e := own_sqz hx
  obtain ⟨e1, -, -, -, -, e2, e3⟩ := k14
  refine ⟨own_fin (own_muln hx hx) (own_f (a := c045)) h1, by rw [e]; exact Int.natCast_nonneg _, by rw [e, e1]; exact Int.ofNat_le.mpr h1, fun q => ?_, fun q => ?_⟩
  · rw [e, e2]; exact Int.ofNat_le.mpr (own_mul_zge hx hx (Nat.le_trans k3 (Nat.mul_le_mul q q)))
  · rw [e, e3]; exact Int.ofNat_le.mpr (own_mul_zge hx hx (Nat.le_trans k4 (Nat.mul_le_mul q q)))
theorem own_zmle {a V : UInt64} (h0 : 0 ≤ z a) (h : z a ≤ z V) : zm a ≤ zm V := by
  have h1 := own_zabs a; have h2 := own_zabs V
  generalize zm a = u at *; generalize zm V = v at *; generalize z a = p at *; generalize z V = q at *
  omega
theorem own_q {x y : UInt64} (hx : DFin x) (h : zm x ≤ zm c067) (hy : DFin y) (h' : zm y ≤ zm c067) : DFin (dadd (dmul x x) (dmul y y)) ∧ 0 ≤ z (dadd (dmul x x) (dmul y y)) ∧ z (dadd (dmul x x) (dmul y y)) ≤ z c09 ∧ (z c025 ≤ z (dmul x x) ∨ z c025 ≤ z (dmul y y) → z c025 ≤ z (dadd (dmul x x) (dmul y y))) ∧ (z c039 ≤ z (dmul x x) ∨ z c039 ≤ z (dmul y y) → z c039 ≤ z (dadd (dmul x x) (dmul y y))) := by
  obtain ⟨f1, n1, u1, -, -⟩ := own_sq hx h
  obtain ⟨f2, n2, u2, -, -⟩ := own_sq hy h'
  have k := k5
  have le := own_add_le f1 f2 (own_nn (own_f (a := c09))) (by generalize z (dmul x x) = p at *; generalize z (dmul y y) = q at *; omega)
  have ge0 := own_add_ge (V := 0) f1 f2 (own_nn (own_f (a := 0))) (by
    have : z 0 = 0 := zval64_zero
    rw [this]; generalize z (dmul x x) = p at *; generalize z (dmul y y) = q at *; omega)
  have e0 : z 0 = 0 := zval64_zero
  rw [e0] at ge0
  refine ⟨own_fin (own_addn f1 f2) (own_f (a := c09)) (own_zmle ge0 le), ge0, le, fun q => own_add_ge f1 f2 (own_nn (own_f (a := c025))) ?_, fun q => own_add_ge f1 f2 (own_nn (own_f (a := c039))) ?_⟩
  · generalize z (dmul x x) = p at *; generalize z (dmul y y) = r at *; omega
  · generalize z (dmul x x) = p at *; generalize z (dmul y y) = r at *; omega
theorem own_k {x q : UInt64} (hx : DFin x) (h : zm x ≤ zm c067) (hq : DFin q) (q0 : 0 ≤ z q) (q1 : z q ≤ z c09) (q2 : zm c05 ≤ zm x → z c025 ≤ z q) (q3 : zm c0625 ≤ zm x → z c039 ≤ z q) :
    DFin (dmul c2 x) ∧ DFin (dadd c1 q) ∧ DFin (ddiv (dmul c2 x) (dadd c1 q)) ∧ z cm1 ≤ z (ddiv (dmul c2 x) (dadd c1 q)) ∧ z (ddiv (dmul c2 x) (dadd c1 q)) ≤ z c1 := by
  have F1 : DFin c1 := own_f
  have F2 : DFin c2 := own_f
  have g1 := own_add_le F1 hq (own_nn F2) (V := c2) (by have := k6; generalize z q = p at *; omega)
  have g2 := own_add_ge F1 hq (own_nn F1) (V := c1) (by generalize z q = p at *; omega)
  have kk := k13
  have g0 : 0 ≤ z (dadd c1 q) := by
    have := one64_pos
    obtain ⟨e1, -, -⟩ := kk
    rw [e1] at g2
    omega
  have fd : DFin (dadd c1 q) := own_fin (own_addn F1 hq) F2 (own_zmle g0 g1)
  have m1 := own_mul_zle F2 hx (own_nn (own_f (a := c134))) (V := c134) (Nat.le_trans (Nat.mul_le_mul_left _ h) k11)
  have f2x : DFin (dmul c2 x) := own_fin (own_muln F2 hx) (own_f (a := c134)) m1
  have key : zm (dmul c2 x) ≤ zm (dadd c1 q) := by
    by_cases p1 : zm x ≤ zm c05
    · have m2 := own_mul_zle F2 hx (own_nn F1) (V := c1) (Nat.le_trans (Nat.mul_le_mul_left _ p1) k9)
      refine Nat.le_trans m2 (own_zmle (by rw [kk.1]; exact Int.natCast_nonneg _) g2)
    · by_cases p2 : zm x ≤ zm c0625
      · have m2 := own_mul_zle F2 hx (own_nn (own_f (a := c125))) (V := c125) (Nat.le_trans (Nat.mul_le_mul_left _ p2) k10)
        have g3 := own_add_ge F1 hq (own_nn (own_f (a := c125))) (V := c125) (by have := q2 (by omega); have := k7; generalize z q = p at *; omega)
        refine Nat.le_trans m2 (own_zmle (by rw [k14.2.2.2.1]; exact Int.natCast_nonneg _) g3)
      · have g3 := own_add_ge F1 hq (own_nn (own_f (a := c139))) (V := c139) (by have := q3 (by omega); have := k8; generalize z q = p at *; omega)
        refine Nat.le_trans (Nat.le_trans m1 k12) (own_zmle (by rw [k14.2.2.2.2.1]; exact Int.natCast_nonneg _) g3)
  have hpos : 0 < zm (dadd c1 q) := by
    have p := one64_pos
    have := own_zmle (by rw [kk.1]; exact Int.natCast_nonneg _) g2
    rw [kk.2.1] at this
    omega
  obtain ⟨r1, r2⟩ := own_div_le f2x fd hpos (own_nn F1) (V := c1) (by rw [kk.2.1, Nat.mul_comm one64]; exact Nat.mul_le_mul_right _ key)
  have fk := own_fin r2 F1 r1
  obtain ⟨e1, e2, e3⟩ := kk
  have ab := own_zabs (ddiv (dmul c2 x) (dadd c1 q))
  rw [e2] at r1
  rw [e1, e3]
  generalize zm (ddiv (dmul c2 x) (dadd c1 q)) = u at *
  generalize z (ddiv (dmul c2 x) (dadd c1 q)) = v at *
  exact ⟨f2x, fd, fk, by omega, by omega⟩
end Jvm.OwnNum
namespace Jvm.OwnNum
open Jvm.FP.Core Jvm.Op Jvm.Lib Jvm.Sem
theorem own_z999 (a : Int32) : -999 ≤ (a % 1000).toInt ∧ (a % 1000).toInt ≤ 999 := by
  have h := Jvm.RoadKit.c_irem a 1000 1000 rfl
  generalize (a % 1000).toInt = r at *
  generalize a.toInt = u at *
  by_cases q : 0 ≤ u
  · have := h.1 q; omega
  · have := h.2 (by omega); omega
theorem own_arg (a : Int32) : DFin (FP.ddiv (FP.i2d (a % 1000)) c1500) ∧ zm (FP.ddiv (FP.i2d (a % 1000)) c1500) ≤ zm c067 :=
  own_x (i2d_int (a % 1000)) (i2d_fin (a % 1000)) (own_z999 a).1 (own_z999 a).2
theorem own_nan {a : UInt64} (h : DFin a) : Jvm.Free.Fl.NoNaN64 a := (Jvm.Free.Fl.fin64_core.mpr h).noNaN
theorem own_cmp {a b : UInt64} (ha : DFin a) (hb : DFin b) (h : z a ≤ z b) : ¬ (0 : Int32) < cmpValue (FP.dcmp a b) .g := by
  have e : FP.dcmp a b = some (compare (z a) (z b)) := dcmp_zval (own_nn ha) (own_nn hb)
  rw [e]
  rcases Int.lt_or_eq_of_le h with q | q
  · rw [Int.compare_eq_lt.mpr q]; decide
  · rw [Int.compare_eq_eq.mpr q]; decide
theorem own_all {x y : UInt64} (hx : DFin x) (h : zm x ≤ zm c067) (hy : DFin y) (h' : zm y ≤ zm c067) : DFin (FP.dmul x x) ∧ DFin (FP.dmul y y) ∧ DFin (FP.dadd (FP.dmul x x) (FP.dmul y y)) ∧
    DFin (FP.dadd c1 (FP.dadd (FP.dmul x x) (FP.dmul y y))) ∧ DFin (FP.dmul c2 x) ∧ DFin (FP.dmul c2 y) ∧
    (DFin (FP.ddiv (FP.dmul c2 x) (FP.dadd c1 (FP.dadd (FP.dmul x x) (FP.dmul y y)))) ∧ ¬ (0 : Int32) < cmpValue (FP.dcmp cm1 (FP.ddiv (FP.dmul c2 x) (FP.dadd c1 (FP.dadd (FP.dmul x x) (FP.dmul y y))))) .g ∧ ¬ (0 : Int32) < cmpValue (FP.dcmp (FP.ddiv (FP.dmul c2 x) (FP.dadd c1 (FP.dadd (FP.dmul x x) (FP.dmul y y)))) c1) .g) ∧
    (DFin (FP.ddiv (FP.dmul c2 y) (FP.dadd c1 (FP.dadd (FP.dmul x x) (FP.dmul y y)))) ∧ ¬ (0 : Int32) < cmpValue (FP.dcmp cm1 (FP.ddiv (FP.dmul c2 y) (FP.dadd c1 (FP.dadd (FP.dmul x x) (FP.dmul y y))))) .g ∧ ¬ (0 : Int32) < cmpValue (FP.dcmp (FP.ddiv (FP.dmul c2 y) (FP.dadd c1 (FP.dadd (FP.dmul x x) (FP.dmul y y)))) c1) .g) := by
  obtain ⟨s1, -, -, s2, s3⟩ := own_sq hx h
  obtain ⟨t1, -, -, t2, t3⟩ := own_sq hy h'
  obtain ⟨q1, q2, q3, q4, q5⟩ := own_q hx h hy h'
  obtain ⟨k1, k2, k3, k4, k5⟩ := own_k hx h q1 q2 q3 (fun u => q4 (Or.inl (s2 u))) (fun u => q5 (Or.inl (s3 u)))
  obtain ⟨l1, l2, l3, l4, l5⟩ := own_k hy h' q1 q2 q3 (fun u => q4 (Or.inr (t2 u))) (fun u => q5 (Or.inr (t3 u)))
  exact ⟨s1, t1, q1, k2, k1, l1, ⟨k3, own_cmp own_f k3 k4, own_cmp k3 own_f k5⟩, ⟨l3, own_cmp own_f l3 l4, own_cmp l3 own_f l5⟩⟩
theorem own_abs {x : UInt64} (h : Jvm.Free.Fl.Fin64 x) : ¬ (0 : Int32) < cmpValue (FP.dcmp (x &&& 0x7fffffffffffffff) 9218868437227405311) .g := by
  have q := (Jvm.Free.Fl.le_max_iff h.noNaN).mpr h
  rw [Jvm.Free.Fl.relLe_iff] at q
  rw [show Jvm.Free.Fl.maxD = (9218868437227405311 : UInt64) from rfl] at q
  rcases q with q | q <;> rw [q] <;> decide
end Jvm.OwnNum
namespace Jvm.Pilot.@@N@@
open Jvm Jvm.ClassFile Sem Op Lib Jvm.Free Jvm.Stand Jvm.LawKit Jvm.RoadKit Bundle Jvm.Pilot.@@N@@.Jvm.D
theorem own_selp {Z s : State} {a0 args : Array Value} {y : MethodName} {n : Nat} (hZ : Z.Warmed39 s.vm) (wi : (Jvm.Cond.instantiable y.cls n).before a0 Z = true) (wm : (Jvm.Cond.instanceMethod y).before a0 Z = true) (wp : (Jvm.Cond.privateMethod y).before a0 Z = true) (hy : y.cls ≠ "java/lang/invoke/MethodHandle" ∧ y.cls ≠ "java/lang/invoke/VarHandle") : (Jvm.Cond.selects y.cls y y).before args s = true := by
  obtain ⟨c, k, h1, h2, h3, h4, -⟩ := Cond.instantiable_spec (mvT hZ wi (args := args))
  have h5 : k.isInterface = false := by cases hi : k.isInterface <;> simp [hi] at h4 ⊢
  exact selects_self_of_private h1 h2 h5 (Cond.privateMethod_at (mvP hZ wp (args := args))) (mvT hZ wm) hy
def own_bI (b : Bool) : Int32 := bif b then 1 else 0
theorem own_cat {v : Value} (h : v.isRef = true) : v.category = 1 := by cases v <;> simp [Value.isRef, Value.category] at h ⊢
theorem own_feq {args : Array Value} {s : State} {t u : Term} {C n d : String} {a w : Addr} (h : (Jvm.Cond.eq (.field t C n d) u).value args s none s [] = some true) (ht : t.eval args s none [] s = some (.ref a)) (hu : u.eval args s none [] s = some (.ref w)) : Fld s s.heap a C n d (.ref w) := by
  obtain ⟨x, y, e1, e2, k1, k2⟩ := cmp_v (Or.inl h)
  cases hu.symm.trans e2
  have hx : x.isRef = true := k2.2
  have q := gotT (eq_R e1 hu hx rfl) h
  subst q
  rw [fld_at ht] at e1
  exact Fld.start e1
theorem own_oeq {args : Array Value} {s : State} {t : Term} {C n d : String} {a : Addr} {k : Int32} (h : (Jvm.Cond.eq (.field t C n d) (.int k)).value args s none s [] = some true) (ht : t.eval args s none [] s = some (.ref a)) : Fld s s.heap a C n d (.int k) := by
  obtain ⟨x, y, e1, e2, k1, k2⟩ := cmp_v (Or.inl h)
  cases (Term.int_eval k).symm.trans e2
  obtain ⟨z, rfl⟩ := k2
  have q : z = k := by simpa [Jvm.Cond.value, e1, e2] using h
  subst q
  rw [fld_at ht] at e1
  exact Fld.start e1
theorem own_strs {Z : State} {a0 : Array Value} (hw : ∀ d ∈ tables_1, d.before a0 Z = true) : ∀ a ∈ Bundle.stringAtoms, a.before a0 Z = true := fun a ha => hw a (by
  simp only [Bundle.stringAtoms, List.mem_cons, List.not_mem_nil, or_false] at ha
  rcases ha with rfl | rfl | rfl | rfl | rfl | rfl | rfl
  · exact List.mem_of_getElem? (i := 28) rfl
  · exact List.mem_of_getElem? (i := 29) rfl
  · exact List.mem_of_getElem? (i := 30) rfl
  · exact List.mem_of_getElem? (i := 31) rfl
  · exact List.mem_of_getElem? (i := 32) rfl
  · exact List.mem_of_getElem? (i := 33) rfl
  · exact List.mem_of_getElem? (i := 34) rfl)
def own_box (Z : State) (h : Heap) (x r0 r1 : Addr) (k k0 k1 : ClassId) : Prop := Arv Z h x k (.array .double) (2 : Int32) [(.ref r0), (.ref r1)] .null ∧ Arv Z h r0 k0 .double (2 : Int32) [(.double (13830554455654793216 : UInt64)), (.double (13830554455654793216 : UInt64))] (.double (0 : UInt64)) ∧ Arv Z h r1 k1 .double (2 : Int32) [(.double (4607182418800017408 : UInt64)), (.double (4607182418800017408 : UInt64))] (.double (0 : UInt64))
def own_QV (Z : State) (u : Value) (h0 : Heap) (n0 : Nat) (v : Option Value) (h : Heap) (L : List Loc) : Prop := v = some u ∧ Fr n0 L ∧ h = h0
def own_QI (Z : State) (a : Addr) (h0 : Heap) (n0 : Nat) (v : Option Value) (h : Heap) (L : List Loc) : Prop := v = none ∧ Fr n0 L ∧ Keep h0 h [a]
def own_QB (Z : State) (h0 : Heap) (n0 : Nat) (v : Option Value) (h : Heap) (L : List Loc) : Prop := ∃ x : Addr, v = some (.ref x) ∧ Fr n0 L ∧ Keep h0 h [] ∧ ∃ (r0 r1 : Addr) (k k0 k1 : ClassId), own_box Z h x r0 r1 k k0 k1 ∧ h0.size ≤ x ∧ h0.size ≤ r0 ∧ h0.size ≤ r1 ∧ x ≠ r0 ∧ x ≠ r1 ∧ r0 ≠ r1
def own_Q0 (Z : State) (h0 : Heap) (n0 : Nat) (v : Option Value) (h : Heap) (L : List Loc) : Prop := v = some (.int 1) ∧ Fr n0 L
theorem own_d_prog_142_7_0 : decode prog_142_method_7_code 0 = .ok (.iload_n 0, 1) := by decide +kernel
theorem own_d_prog_142_7_1 : decode prog_142_method_7_code 1 = .ok (.iconst 1, 1) := by decide +kernel
theorem own_d_prog_142_7_2 : decode prog_142_method_7_code 2 = .ok (.if_icmp .lt 10, 3) := by decide +kernel
theorem own_d_prog_142_7_5 : decode prog_142_method_7_code 5 = .ok (.iload_n 0, 1) := by decide +kernel
theorem own_d_prog_142_7_6 : decode prog_142_method_7_code 6 = .ok (.sipush 1024, 3) := by decide +kernel
theorem own_d_prog_142_7_9 : decode prog_142_method_7_code 9 = .ok (.if_icmp .le 17, 3) := by decide +kernel
theorem own_d_prog_142_7_26 : decode prog_142_method_7_code 26 = .ok (.iload_n 0, 1) := by decide +kernel
theorem own_d_prog_142_7_27 : decode prog_142_method_7_code 27 = .ok (.ireturn, 1) := by decide +kernel
theorem own_pn8 : plainName "com/example/delaunet/delaunet/space/KeyPoints" = true := by first | (simp [plainName, overriddenIn]; done) | decide +kernel
theorem own_d_jdk_31_11_0 : decode jdk_31_method_11_code 0 = .ok (.aload_n 0, 1) := by decide +kernel
theorem own_d_jdk_31_11_1 : decode jdk_31_method_11_code 1 = .ok (.ifnonnull 12, 3) := by decide +kernel
theorem own_d_jdk_31_11_13 : decode jdk_31_method_11_code 13 = .ok (.aload_n 0, 1) := by decide +kernel
theorem own_d_jdk_31_11_14 : decode jdk_31_method_11_code 14 = .ok (.areturn, 1) := by decide +kernel
theorem own_pn13 : plainName "java/util/Objects" = true := by first | (simp [plainName, overriddenIn]; done) | decide +kernel
theorem own_d_jdk_117_8_0 : decode jdk_117_method_8_code 0 = .ok (.dload_n 0, 1) := by decide +kernel
theorem own_pd15 : parseMethodDescriptor "(D)D" = some ⟨[.double], some .double⟩ := by decide +kernel
theorem own_d_jdk_117_8_1 : decode jdk_117_method_8_code 1 = .ok (.invokestatic 38, 3) := by decide +kernel
theorem own_d_jdk_117_8_4 : decode jdk_117_method_8_code 4 = .ok (.ldc2_w 111, 3) := by decide +kernel
theorem own_d_jdk_117_8_7 : decode jdk_117_method_8_code 7 = .ok (.dcmp .g, 1) := by decide +kernel
theorem own_d_jdk_117_8_8 : decode jdk_117_method_8_code 8 = .ok (.ifCond .gt 7, 3) := by decide +kernel
theorem own_d_jdk_117_8_11 : decode jdk_117_method_8_code 11 = .ok (.iconst 1, 1) := by decide +kernel
theorem own_d_jdk_117_8_12 : decode jdk_117_method_8_code 12 = .ok (.goto 4, 3) := by decide +kernel
theorem own_d_jdk_117_8_16 : decode jdk_117_method_8_code 16 = .ok (.ireturn, 1) := by decide +kernel
theorem own_pn23 : plainName "java/lang/Double" = true := by first | (simp [plainName, overriddenIn]; done) | decide +kernel
theorem own_d_prog_155_2_0 : decode prog_155_method_2_code 0 = .ok (.aload_n 0, 1) := by decide +kernel
theorem own_d_prog_155_2_1 : decode prog_155_method_2_code 1 = .ok (.invokespecial 13, 3) := by decide +kernel
theorem own_d_prog_155_2_4 : decode prog_155_method_2_code 4 = .ok (.aload_n 0, 1) := by decide +kernel
theorem own_d_prog_155_2_5 : decode prog_155_method_2_code 5 = .ok (.iload_n 1, 1) := by decide +kernel
theorem own_pd28 : parseMethodDescriptor "(I)I" = some ⟨[.int], some .int⟩ := by decide +kernel
theorem own_d_prog_155_2_6 : decode prog_155_method_2_code 6 = .ok (.invokestatic 18, 3) := by decide +kernel
theorem own_d_prog_155_2_9 : decode prog_155_method_2_code 9 = .ok (.putfield 24, 3) := by decide +kernel
theorem own_d_prog_155_2_12 : decode prog_155_method_2_code 12 = .ok (.aload_n 0, 1) := by decide +kernel
theorem own_d_prog_155_2_13 : decode prog_155_method_2_code 13 = .ok (.aload_n 2, 1) := by decide +kernel
theorem own_d_prog_155_2_14 : decode prog_155_method_2_code 14 = .ok (.ldc 28, 2) := by decide +kernel
theorem own_pd34 : parseMethodDescriptor "(Ljava/lang/Object;Ljava/lang/String;)Ljava/lang/Object;" = some ⟨[(.object "java/lang/Object"), (.object "java/lang/String")], some (.object "java/lang/Object")⟩ := by decide +kernel
theorem own_d_prog_155_2_16 : decode prog_155_method_2_code 16 = .ok (.invokestatic 30, 3) := by decide +kernel
theorem own_d_prog_155_2_19 : decode prog_155_method_2_code 19 = .ok (.checkcast 2, 3) := by decide +kernel
theorem own_d_prog_155_2_22 : decode prog_155_method_2_code 22 = .ok (.putfield 36, 3) := by decide +kernel
theorem own_d_prog_155_2_25 : decode prog_155_method_2_code 25 = .ok (.return_, 1) := by decide +kernel
theorem own_pn39 : plainName "com/example/delaunet/delaunet/space/VectorSpace" = true := by first | (simp [plainName, overriddenIn]; done) | decide +kernel
theorem own_d_prog_155_1_0 : decode prog_155_method_1_code 0 = .ok (.aload_n 0, 1) := by decide +kernel
theorem own_d_prog_155_1_1 : decode prog_155_method_1_code 1 = .ok (.iload_n 1, 1) := by decide +kernel
theorem own_d_prog_155_1_2 : decode prog_155_method_1_code 2 = .ok (.getstatic 1, 3) := by decide +kernel
theorem own_pd43 : parseMethodDescriptor "(ILcom/example/delaunet/delaunet/space/Borders;)V" = some ⟨[.int, (.object "com/example/delaunet/delaunet/space/Borders")], none⟩ := by decide +kernel
theorem own_d_prog_155_1_5 : decode prog_155_method_1_code 5 = .ok (.invokespecial 7, 3) := by decide +kernel
theorem own_d_prog_155_1_8 : decode prog_155_method_1_code 8 = .ok (.return_, 1) := by decide +kernel
theorem own_d_prog_139_1_0 : decode prog_139_method_1_code 0 = .ok (.aload_n 0, 1) := by decide +kernel
theorem own_d_prog_139_1_1 : decode prog_139_method_1_code 1 = .ok (.iconst 2, 1) := by decide +kernel
theorem own_pd48 : parseMethodDescriptor "(I)V" = some ⟨[.int], none⟩ := by decide +kernel
theorem own_d_prog_139_1_2 : decode prog_139_method_1_code 2 = .ok (.invokespecial 1, 3) := by decide +kernel
theorem own_d_prog_139_1_5 : decode prog_139_method_1_code 5 = .ok (.return_, 1) := by decide +kernel
theorem own_pn51 : plainName "com/example/delaunet/delaunet/space/HyperbolicSpace" = true := by first | (simp [plainName, overriddenIn]; done) | decide +kernel
theorem own_d_prog_154_1_0 : decode prog_154_method_1_code 0 = .ok (.aload_n 0, 1) := by decide +kernel
theorem own_d_prog_154_1_1 : decode prog_154_method_1_code 1 = .ok (.invokespecial 1, 3) := by decide +kernel
theorem own_d_prog_154_1_4 : decode prog_154_method_1_code 4 = .ok (.aload_n 1, 1) := by decide +kernel
theorem own_d_prog_154_1_5 : decode prog_154_method_1_code 5 = .ok (.arraylength, 1) := by decide +kernel
theorem own_d_prog_154_1_6 : decode prog_154_method_1_code 6 = .ok (.ifCond .ne 13, 3) := by decide +kernel
theorem own_d_prog_154_1_19 : decode prog_154_method_1_code 19 = .ok (.aload_n 1, 1) := by decide +kernel
theorem own_d_prog_154_1_20 : decode prog_154_method_1_code 20 = .ok (.astore_n 2, 1) := by decide +kernel
theorem own_d_prog_154_1_21 : decode prog_154_method_1_code 21 = .ok (.aload_n 2, 1) := by decide +kernel
theorem own_d_prog_154_1_22 : decode prog_154_method_1_code 22 = .ok (.arraylength, 1) := by decide +kernel
theorem own_d_prog_154_1_23 : decode prog_154_method_1_code 23 = .ok (.istore_n 3, 1) := by decide +kernel
theorem own_d_prog_154_1_24 : decode prog_154_method_1_code 24 = .ok (.iconst 0, 1) := by decide +kernel
theorem own_d_prog_154_1_25 : decode prog_154_method_1_code 25 = .ok (.istore 4, 2) := by decide +kernel
theorem own_d_prog_154_1_27 : decode prog_154_method_1_code 27 = .ok (.iload 4, 2) := by decide +kernel
theorem own_d_prog_154_1_29 : decode prog_154_method_1_code 29 = .ok (.iload_n 3, 1) := by decide +kernel
theorem own_d_prog_154_1_30 : decode prog_154_method_1_code 30 = .ok (.if_icmp .ge 38, 3) := by decide +kernel
theorem own_d_prog_154_1_33 : decode prog_154_method_1_code 33 = .ok (.aload_n 2, 1) := by decide +kernel
theorem own_d_prog_154_1_34 : decode prog_154_method_1_code 34 = .ok (.iload 4, 2) := by decide +kernel
theorem own_d_prog_154_1_36 : decode prog_154_method_1_code 36 = .ok (.daload, 1) := by decide +kernel
theorem own_d_prog_154_1_37 : decode prog_154_method_1_code 37 = .ok (.dstore 5, 2) := by decide +kernel
theorem own_d_prog_154_1_39 : decode prog_154_method_1_code 39 = .ok (.dload 5, 2) := by decide +kernel
theorem own_pd72 : parseMethodDescriptor "(D)Z" = some ⟨[.double], some .boolean⟩ := by decide +kernel
theorem own_d_prog_154_1_41 : decode prog_154_method_1_code 41 = .ok (.invokestatic 14, 3) := by decide +kernel
theorem own_d_prog_154_1_44 : decode prog_154_method_1_code 44 = .ok (.ifCond .ne 18, 3) := by decide +kernel
theorem own_d_prog_154_1_62 : decode prog_154_method_1_code 62 = .ok (.iinc 4 1, 3) := by decide +kernel
theorem own_d_prog_154_1_65 : decode prog_154_method_1_code 65 = .ok (.goto (-38), 3) := by decide +kernel
theorem own_d_prog_154_1_68 : decode prog_154_method_1_code 68 = .ok (.aload_n 0, 1) := by decide +kernel
theorem own_d_prog_154_1_69 : decode prog_154_method_1_code 69 = .ok (.aload_n 1, 1) := by decide +kernel
theorem own_d_prog_154_1_70 : decode prog_154_method_1_code 70 = .ok (.invokevirtual 24, 3) := by decide +kernel
theorem own_d_prog_154_1_73 : decode prog_154_method_1_code 73 = .ok (.checkcast 25, 3) := by decide +kernel
theorem own_d_prog_154_1_76 : decode prog_154_method_1_code 76 = .ok (.putfield 30, 3) := by decide +kernel
theorem own_d_prog_154_1_79 : decode prog_154_method_1_code 79 = .ok (.return_, 1) := by decide +kernel
theorem own_pn83 : plainName "com/example/delaunet/delaunet/space/VectorPoint" = true := by first | (simp [plainName, overriddenIn]; done) | decide +kernel
theorem own_d_prog_139_7_0 : decode prog_139_method_7_code 0 = .ok (.iconst 2, 1) := by decide +kernel
theorem own_d_prog_139_7_1 : decode prog_139_method_7_code 1 = .ok (.anewarray 48, 3) := by decide +kernel
theorem own_d_prog_139_7_4 : decode prog_139_method_7_code 4 = .ok (.dup, 1) := by decide +kernel
theorem own_d_prog_139_7_5 : decode prog_139_method_7_code 5 = .ok (.iconst 0, 1) := by decide +kernel
theorem own_d_prog_139_7_6 : decode prog_139_method_7_code 6 = .ok (.iconst 2, 1) := by decide +kernel
theorem own_d_prog_139_7_7 : decode prog_139_method_7_code 7 = .ok (.newarray .double, 2) := by decide +kernel
theorem own_d_prog_139_7_9 : decode prog_139_method_7_code 9 = .ok (.dup, 1) := by decide +kernel
theorem own_d_prog_139_7_10 : decode prog_139_method_7_code 10 = .ok (.iconst 0, 1) := by decide +kernel
theorem own_d_prog_139_7_11 : decode prog_139_method_7_code 11 = .ok (.ldc2_w 50, 3) := by decide +kernel
theorem own_d_prog_139_7_14 : decode prog_139_method_7_code 14 = .ok (.dastore, 1) := by decide +kernel
theorem own_d_prog_139_7_15 : decode prog_139_method_7_code 15 = .ok (.dup, 1) := by decide +kernel
theorem own_d_prog_139_7_16 : decode prog_139_method_7_code 16 = .ok (.iconst 1, 1) := by decide +kernel
theorem own_d_prog_139_7_17 : decode prog_139_method_7_code 17 = .ok (.ldc2_w 50, 3) := by decide +kernel
theorem own_d_prog_139_7_20 : decode prog_139_method_7_code 20 = .ok (.dastore, 1) := by decide +kernel
theorem own_d_prog_139_7_21 : decode prog_139_method_7_code 21 = .ok (.aastore, 1) := by decide +kernel
theorem own_d_prog_139_7_22 : decode prog_139_method_7_code 22 = .ok (.dup, 1) := by decide +kernel
theorem own_d_prog_139_7_23 : decode prog_139_method_7_code 23 = .ok (.iconst 1, 1) := by decide +kernel
theorem own_d_prog_139_7_24 : decode prog_139_method_7_code 24 = .ok (.iconst 2, 1) := by decide +kernel
theorem own_d_prog_139_7_25 : decode prog_139_method_7_code 25 = .ok (.newarray .double, 2) := by decide +kernel
theorem own_d_prog_139_7_27 : decode prog_139_method_7_code 27 = .ok (.dup, 1) := by decide +kernel
theorem own_d_prog_139_7_28 : decode prog_139_method_7_code 28 = .ok (.iconst 0, 1) := by decide +kernel
theorem own_d_prog_139_7_29 : decode prog_139_method_7_code 29 = .ok (.dconst 1, 1) := by decide +kernel
theorem own_d_prog_139_7_30 : decode prog_139_method_7_code 30 = .ok (.dastore, 1) := by decide +kernel
theorem own_d_prog_139_7_31 : decode prog_139_method_7_code 31 = .ok (.dup, 1) := by decide +kernel
theorem own_d_prog_139_7_32 : decode prog_139_method_7_code 32 = .ok (.iconst 1, 1) := by decide +kernel
theorem own_d_prog_139_7_33 : decode prog_139_method_7_code 33 = .ok (.dconst 1, 1) := by decide +kernel
theorem own_d_prog_139_7_34 : decode prog_139_method_7_code 34 = .ok (.dastore, 1) := by decide +kernel
theorem own_d_prog_139_7_35 : decode prog_139_method_7_code 35 = .ok (.aastore, 1) := by decide +kernel
theorem own_d_prog_139_7_36 : decode prog_139_method_7_code 36 = .ok (.areturn, 1) := by decide +kernel
theorem own_d_method_2_0 : decode method_2_code 0 = .ok (.aload_n 0, 1) := by decide +kernel
theorem own_d_method_2_1 : decode method_2_code 1 = .ok (.ifnull 41, 3) := by decide +kernel
theorem own_d_method_2_4 : decode method_2_code 4 = .ok (.aload_n 0, 1) := by decide +kernel
theorem own_d_method_2_5 : decode method_2_code 5 = .ok (.arraylength, 1) := by decide +kernel
theorem own_d_method_2_6 : decode method_2_code 6 = .ok (.iconst 2, 1) := by decide +kernel
theorem own_d_method_2_7 : decode method_2_code 7 = .ok (.if_icmp .ne 35, 3) := by decide +kernel
theorem own_d_method_2_10 : decode method_2_code 10 = .ok (.aload_n 0, 1) := by decide +kernel
theorem own_d_method_2_11 : decode method_2_code 11 = .ok (.iconst 0, 1) := by decide +kernel
theorem own_d_method_2_12 : decode method_2_code 12 = .ok (.aaload, 1) := by decide +kernel
theorem own_d_method_2_13 : decode method_2_code 13 = .ok (.ifnull 29, 3) := by decide +kernel
theorem own_d_method_2_16 : decode method_2_code 16 = .ok (.aload_n 0, 1) := by decide +kernel
theorem own_d_method_2_17 : decode method_2_code 17 = .ok (.iconst 1, 1) := by decide +kernel
theorem own_d_method_2_18 : decode method_2_code 18 = .ok (.aaload, 1) := by decide +kernel
theorem own_d_method_2_19 : decode method_2_code 19 = .ok (.ifnull 23, 3) := by decide +kernel
theorem own_d_method_2_22 : decode method_2_code 22 = .ok (.aload_n 0, 1) := by decide +kernel
theorem own_d_method_2_23 : decode method_2_code 23 = .ok (.iconst 0, 1) := by decide +kernel
theorem own_d_method_2_24 : decode method_2_code 24 = .ok (.aaload, 1) := by decide +kernel
theorem own_d_method_2_25 : decode method_2_code 25 = .ok (.arraylength, 1) := by decide +kernel
theorem own_d_method_2_26 : decode method_2_code 26 = .ok (.iconst 2, 1) := by decide +kernel
theorem own_d_method_2_27 : decode method_2_code 27 = .ok (.if_icmp .ne 15, 3) := by decide +kernel
theorem own_d_method_2_30 : decode method_2_code 30 = .ok (.aload_n 0, 1) := by decide +kernel
theorem own_d_method_2_31 : decode method_2_code 31 = .ok (.iconst 1, 1) := by decide +kernel
theorem own_d_method_2_32 : decode method_2_code 32 = .ok (.aaload, 1) := by decide +kernel
theorem own_d_method_2_33 : decode method_2_code 33 = .ok (.arraylength, 1) := by decide +kernel
theorem own_d_method_2_34 : decode method_2_code 34 = .ok (.iconst 2, 1) := by decide +kernel
theorem own_d_method_2_35 : decode method_2_code 35 = .ok (.if_icmp .ne 7, 3) := by decide +kernel
theorem own_d_method_2_38 : decode method_2_code 38 = .ok (.iconst 1, 1) := by decide +kernel
theorem own_d_method_2_39 : decode method_2_code 39 = .ok (.goto 4, 3) := by decide +kernel
theorem own_d_method_2_43 : decode method_2_code 43 = .ok (.ireturn, 1) := by decide +kernel
theorem own_pn142 : plainName "com/example/delaunet/delaunet/space/HyperbolicSpaceChartBoxPinLaw" = true := by first | (simp [plainName, overriddenIn]; done) | decide +kernel
theorem own_d_method_3_0 : decode method_3_code 0 = .ok (.aload_n 0, 1) := by decide +kernel
theorem own_d_method_3_1 : decode method_3_code 1 = .ok (.iconst 0, 1) := by decide +kernel
theorem own_d_method_3_2 : decode method_3_code 2 = .ok (.aaload, 1) := by decide +kernel
theorem own_d_method_3_3 : decode method_3_code 3 = .ok (.iconst 0, 1) := by decide +kernel
theorem own_d_method_3_4 : decode method_3_code 4 = .ok (.daload, 1) := by decide +kernel
theorem own_d_method_3_5 : decode method_3_code 5 = .ok (.ldc2_w 7, 3) := by decide +kernel
theorem own_d_method_3_8 : decode method_3_code 8 = .ok (.dcmp .l, 1) := by decide +kernel
theorem own_d_method_3_9 : decode method_3_code 9 = .ok (.ifCond .ne 39, 3) := by decide +kernel
theorem own_d_method_3_12 : decode method_3_code 12 = .ok (.aload_n 0, 1) := by decide +kernel
theorem own_d_method_3_13 : decode method_3_code 13 = .ok (.iconst 0, 1) := by decide +kernel
theorem own_d_method_3_14 : decode method_3_code 14 = .ok (.aaload, 1) := by decide +kernel
theorem own_d_method_3_15 : decode method_3_code 15 = .ok (.iconst 1, 1) := by decide +kernel
theorem own_d_method_3_16 : decode method_3_code 16 = .ok (.daload, 1) := by decide +kernel
theorem own_d_method_3_17 : decode method_3_code 17 = .ok (.ldc2_w 7, 3) := by decide +kernel
theorem own_d_method_3_20 : decode method_3_code 20 = .ok (.dcmp .l, 1) := by decide +kernel
theorem own_d_method_3_21 : decode method_3_code 21 = .ok (.ifCond .ne 27, 3) := by decide +kernel
theorem own_d_method_3_24 : decode method_3_code 24 = .ok (.aload_n 0, 1) := by decide +kernel
theorem own_d_method_3_25 : decode method_3_code 25 = .ok (.iconst 1, 1) := by decide +kernel
theorem own_d_method_3_26 : decode method_3_code 26 = .ok (.aaload, 1) := by decide +kernel
theorem own_d_method_3_27 : decode method_3_code 27 = .ok (.iconst 0, 1) := by decide +kernel
theorem own_d_method_3_28 : decode method_3_code 28 = .ok (.daload, 1) := by decide +kernel
theorem own_d_method_3_29 : decode method_3_code 29 = .ok (.dconst 1, 1) := by decide +kernel
theorem own_d_method_3_30 : decode method_3_code 30 = .ok (.dcmp .l, 1) := by decide +kernel
theorem own_d_method_3_31 : decode method_3_code 31 = .ok (.ifCond .ne 17, 3) := by decide +kernel
theorem own_d_method_3_34 : decode method_3_code 34 = .ok (.aload_n 0, 1) := by decide +kernel
theorem own_d_method_3_35 : decode method_3_code 35 = .ok (.iconst 1, 1) := by decide +kernel
theorem own_d_method_3_36 : decode method_3_code 36 = .ok (.aaload, 1) := by decide +kernel
theorem own_d_method_3_37 : decode method_3_code 37 = .ok (.iconst 1, 1) := by decide +kernel
theorem own_d_method_3_38 : decode method_3_code 38 = .ok (.daload, 1) := by decide +kernel
theorem own_d_method_3_39 : decode method_3_code 39 = .ok (.dconst 1, 1) := by decide +kernel
theorem own_d_method_3_40 : decode method_3_code 40 = .ok (.dcmp .l, 1) := by decide +kernel
theorem own_d_method_3_41 : decode method_3_code 41 = .ok (.ifCond .ne 7, 3) := by decide +kernel
theorem own_d_method_3_44 : decode method_3_code 44 = .ok (.iconst 1, 1) := by decide +kernel
theorem own_d_method_3_45 : decode method_3_code 45 = .ok (.goto 4, 3) := by decide +kernel
theorem own_d_method_3_49 : decode method_3_code 49 = .ok (.ireturn, 1) := by decide +kernel
theorem own_pd178 : parseMethodDescriptor "()V" = some ⟨[], none⟩ := by decide +kernel
theorem own_pd179 : parseMethodDescriptor "([D)V" = some ⟨[(.array .double)], none⟩ := by decide +kernel
theorem own_pd180 : parseMethodDescriptor "(Lcom/example/delaunet/delaunet/space/VectorPoint;)[[D" = some ⟨[(.object "com/example/delaunet/delaunet/space/VectorPoint")], some (.array (.array .double))⟩ := by decide +kernel
theorem own_pd181 : parseMethodDescriptor "([[D)Z" = some ⟨[(.array (.array .double))], some .boolean⟩ := by decide +kernel
theorem own_rmD_ef (m : MethodId) (d : Int32) : entryFrame m #[(.int d)] 1 = mkF m 0 #[.val (.int d)] [] := by first | (simp [entryFrame, mkF, argsToLocals, Value.category]; done) | rfl
set_option maxRecDepth 65536 in
set_option maxHeartbeats 40000000 in
theorem own_rmD (l : Launch) (Z : State) (a0 : Array Value) (hw : ∀ d ∈ tables_1, d.before a0 Z = true) (ws : List Jvm.Cond) (d : Int32) (h0 : Heap) (n0 : Nat) (Z0 : n0 ≤ h0.size) (hd : d = 2) :
    MetFree l (⟨"com/example/delaunet/delaunet/space/KeyPoints", "checkDims", "(I)I"⟩ : MethodName) (head1 (Jvm.Cond.code (⟨"com/example/delaunet/delaunet/space/KeyPoints", "checkDims", "(I)I"⟩ : MethodName) prog_142_method_7_code 1 (some .int) :: ws) ({ frames := 0, cells := 0, slots := 0, locals := 0 } : Room)) (fun aa_ U => aa_ = #[(.int d)] ∧ Z.Warmed39 U.vm ∧ U.heap = h0) (fun _ _ _ _ _ => True) (fun _ U oo_ U' => ∃ vv_ LL_, oo_ = .returned vv_ ∧ own_QV Z (.int 2) h0 n0 vv_ U'.heap LL_ ∧ FrameEnd U oo_ U' LL_ ({ frames := 0, cells := 0, slots := 0, locals := 0 } : Room).cells ({ frames := 0, cells := 0, slots := 0, locals := 0 } : Room).slots) := by
  refine MetFree.of_bodySF (plainFor_of_name own_pn8) hisR ?_
  intro p e s m args below meth c s₁ Bd hml0 hP hK
  obtain ⟨rfl, hZ, hh⟩ := hP
  have hx := Bd.exec
  have hby := Bd.bytes
  have hml : c.maxLocals = 1 := hml0
  have hown : s.vm.findClass "com/example/delaunet/delaunet/space/KeyPoints" = some m.cls := findClass_of_methodNamed Bd.named
  have hnm := (name_of_methodNamed Bd.named Bd.method).1
  have hlk := Bd.notSynchronized
  have hret := Bd.returns
  have X0 : Stand p l e ({ frames := 0, cells := 0, slots := 0, locals := 0 } : Room) s m #[(.int d)] below meth c s₁ [] 0 0 := Stand.of_body Bd
  have e0 : s₁.heap = h0 := by rw [← hh, Bd.state]; rfl
  have N0 := Fr.nil n0
  show Goes p e below s (own_QV Z (.int 2) h0 n0) ({ frames := 0, cells := 0, slots := 0, locals := 0 } : Room).cells ({ frames := 0, cells := 0, slots := 0, locals := 0 } : Room).slots _
  refine Goes.cast (own_rmD_ef m d) ?_
  subst hd
  show Goes p e below s _ _ _ (s₁.setTop (mkF m 0 #[.val (.int (2 : Int32))] []))
  refine Goes.st (fun t_ k_ => XS.iloadN X0.here hx rfl (hb hby own_d_prog_142_7_0) rfl  k_) ?_
  show Goes p e below s _ _ _ (s₁.setTop (mkF m 1 #[.val (.int (2 : Int32))] [(.int (2 : Int32))]))
  refine Goes.st (fun t_ k_ => XS.iconst X0.here hx rfl (hb hby own_d_prog_142_7_1) k_) ?_
  show Goes p e below s _ _ _ (s₁.setTop (mkF m 2 #[.val (.int (2 : Int32))] [(.int (1 : Int32)), (.int (2 : Int32))]))
  refine Goes.st (fun t_ k_ => XS.icmpNo X0.here hx rfl (hb hby own_d_prog_142_7_2) rfl (flt (by decide)).1 k_) ?_
  show Goes p e below s _ _ _ (s₁.setTop (mkF m 5 #[.val (.int (2 : Int32))] []))
  refine Goes.st (fun t_ k_ => XS.iloadN X0.here hx rfl (hb hby own_d_prog_142_7_5) rfl  k_) ?_
  show Goes p e below s _ _ _ (s₁.setTop (mkF m 6 #[.val (.int (2 : Int32))] [(.int (2 : Int32))]))
  refine Goes.st (fun t_ k_ => XS.sipush X0.here hx rfl (hb hby own_d_prog_142_7_6) k_) ?_
  show Goes p e below s _ _ _ (s₁.setTop (mkF m 9 #[.val (.int (2 : Int32))] [(.int (1024 : Int32)), (.int (2 : Int32))]))
  refine Goes.st (fun t_ k_ => XS.icmpYes X0.here hx rfl (pc0 := 9) (pc' := 26) rfl (hb hby own_d_prog_142_7_9) rfl (flt (by decide)).2.2.2 (by decide) (by decide) k_) ?_
  show Goes p e below s _ _ _ (s₁.setTop (mkF m 26 #[.val (.int (2 : Int32))] []))
  refine Goes.st (fun t_ k_ => XS.iloadN X0.here hx rfl (hb hby own_d_prog_142_7_26) rfl  k_) ?_
  show Goes p e below s _ _ _ (s₁.setTop (mkF m 27 #[.val (.int (2 : Int32))] [(.int (2 : Int32))]))
  exact Goes.retO X0 hx hret hlk rfl (Or.inl ⟨rfl, Or.inl rfl, _, rfl⟩) (hb hby own_d_prog_142_7_27) (by decide) (by decide) (⟨rfl, N0, e0⟩)
theorem own_rmN_ef (m : MethodId) (a : Addr) (b : Addr) : entryFrame m #[(.ref a), (.ref b)] 2 = mkF m 0 #[.val (.ref a), .val (.ref b)] [] := by first | (simp [entryFrame, mkF, argsToLocals, Value.category]; done) | rfl
set_option maxRecDepth 65536 in
set_option maxHeartbeats 40000000 in
theorem own_rmN (l : Launch) (Z : State) (a0 : Array Value) (hw : ∀ d ∈ tables_1, d.before a0 Z = true) (ws : List Jvm.Cond) (a b : Addr) (h0 : Heap) (n0 : Nat) (Z0 : n0 ≤ h0.size)  :
    MetFree l (⟨"java/util/Objects", "requireNonNull", "(Ljava/lang/Object;Ljava/lang/String;)Ljava/lang/Object;"⟩ : MethodName) (head1 (Jvm.Cond.code (⟨"java/util/Objects", "requireNonNull", "(Ljava/lang/Object;Ljava/lang/String;)Ljava/lang/Object;"⟩ : MethodName) jdk_31_method_11_code 2 (some (.object "java/lang/Object")) :: ws) ({ frames := 0, cells := 0, slots := 0, locals := 0 } : Room)) (fun aa_ U => aa_ = #[(.ref a), (.ref b)] ∧ Z.Warmed39 U.vm ∧ U.heap = h0) (fun _ _ _ _ _ => True) (fun _ U oo_ U' => ∃ vv_ LL_, oo_ = .returned vv_ ∧ own_QV Z (.ref a) h0 n0 vv_ U'.heap LL_ ∧ FrameEnd U oo_ U' LL_ ({ frames := 0, cells := 0, slots := 0, locals := 0 } : Room).cells ({ frames := 0, cells := 0, slots := 0, locals := 0 } : Room).slots) := by
  refine MetFree.of_bodySF (plainFor_of_name own_pn13) hisR ?_
  intro p e s m args below meth c s₁ Bd hml0 hP hK
  obtain ⟨rfl, hZ, hh⟩ := hP
  have hx := Bd.exec
  have hby := Bd.bytes
  have hml : c.maxLocals = 2 := hml0
  have hown : s.vm.findClass "java/util/Objects" = some m.cls := findClass_of_methodNamed Bd.named
  have hnm := (name_of_methodNamed Bd.named Bd.method).1
  have hlk := Bd.notSynchronized
  have hret := Bd.returns
  have X0 : Stand p l e ({ frames := 0, cells := 0, slots := 0, locals := 0 } : Room) s m #[(.ref a), (.ref b)] below meth c s₁ [] 0 0 := Stand.of_body Bd
  have e0 : s₁.heap = h0 := by rw [← hh, Bd.state]; rfl
  have N0 := Fr.nil n0
  show Goes p e below s (own_QV Z (.ref a) h0 n0) ({ frames := 0, cells := 0, slots := 0, locals := 0 } : Room).cells ({ frames := 0, cells := 0, slots := 0, locals := 0 } : Room).slots _
  refine Goes.cast (own_rmN_ef m a b) ?_
  show Goes p e below s _ _ _ (s₁.setTop (mkF m 0 #[.val (.ref a), .val (.ref b)] []))
  refine Goes.st (fun t_ k_ => XS.aloadN X0.here hx rfl (hb hby own_d_jdk_31_11_0) rfl rfl k_) ?_
  show Goes p e below s _ _ _ (s₁.setTop (mkF m 1 #[.val (.ref a), .val (.ref b)] [(.ref a)]))
  refine Goes.st (fun t_ k_ => XS.ifnonnullYes X0.here hx rfl (pc0 := 1) (pc' := 13) rfl (hb hby own_d_jdk_31_11_1) rfl (by decide) (by decide) k_) ?_
  show Goes p e below s _ _ _ (s₁.setTop (mkF m 13 #[.val (.ref a), .val (.ref b)] []))
  refine Goes.st (fun t_ k_ => XS.aloadN X0.here hx rfl (hb hby own_d_jdk_31_11_13) rfl rfl k_) ?_
  show Goes p e below s _ _ _ (s₁.setTop (mkF m 14 #[.val (.ref a), .val (.ref b)] [(.ref a)]))
  exact Goes.retO X0 hx hret hlk rfl (Or.inr (Or.inr (Or.inr (Or.inr ⟨rfl, rfl, rfl⟩)))) (hb hby own_d_jdk_31_11_14) (by decide) (by decide) (⟨rfl, N0, e0⟩)
theorem own_rmF_ef (m : MethodId) (g : UInt64) : entryFrame m #[(.double g)] 2 = mkF m 0 #[.val (.double g), .second] [] := by first | (simp [entryFrame, mkF, argsToLocals, Value.category]; done) | rfl
set_option maxRecDepth 65536 in
set_option maxHeartbeats 40000000 in
theorem own_rmF (l : Launch) (Z : State) (a0 : Array Value) (hw : ∀ d ∈ tables_1, d.before a0 Z = true) (ws : List Jvm.Cond) (g : UInt64) (h0 : Heap) (n0 : Nat) (Z0 : n0 ≤ h0.size) (hg : Jvm.Free.Fl.Fin64 g) :
    MetFree l (⟨"java/lang/Double", "isFinite", "(D)Z"⟩ : MethodName) (head1 (Jvm.Cond.code (⟨"java/lang/Double", "isFinite", "(D)Z"⟩ : MethodName) jdk_117_method_8_code 2 (some .boolean) :: ws) ({ frames := 1, cells := 0, slots := 0, locals := 13 } : Room)) (fun aa_ U => aa_ = #[(.double g)] ∧ Z.Warmed39 U.vm ∧ U.heap = h0) (fun _ _ _ _ _ => True) (fun _ U oo_ U' => ∃ vv_ LL_, oo_ = .returned vv_ ∧ own_QV Z (.int 1) h0 n0 vv_ U'.heap LL_ ∧ FrameEnd U oo_ U' LL_ ({ frames := 1, cells := 0, slots := 0, locals := 13 } : Room).cells ({ frames := 1, cells := 0, slots := 0, locals := 13 } : Room).slots) := by
  refine MetFree.of_bodySF (plainFor_of_name own_pn23) hisR ?_
  intro p e s m args below meth c s₁ Bd hml0 hP hK
  obtain ⟨rfl, hZ, hh⟩ := hP
  have hx := Bd.exec
  have hby := Bd.bytes
  have hml : c.maxLocals = 2 := hml0
  have hown : s.vm.findClass "java/lang/Double" = some m.cls := findClass_of_methodNamed Bd.named
  have hnm := (name_of_methodNamed Bd.named Bd.method).1
  have hlk := Bd.notSynchronized
  have hret := Bd.returns
  have X0 : Stand p l e ({ frames := 1, cells := 0, slots := 0, locals := 13 } : Room) s m #[(.double g)] below meth c s₁ [] 0 0 := Stand.of_body Bd
  have e0 : s₁.heap = h0 := by rw [← hh, Bd.state]; rfl
  have N0 := Fr.nil n0
  show Goes p e below s (own_QV Z (.int 1) h0 n0) ({ frames := 1, cells := 0, slots := 0, locals := 13 } : Room).cells ({ frames := 1, cells := 0, slots := 0, locals := 13 } : Room).slots _
  refine Goes.cast (own_rmF_ef m g) ?_
  show Goes p e below s _ _ _ (s₁.setTop (mkF m 0 #[.val (.double g), .second] []))
  refine Goes.st (fun t_ k_ => XS.dloadN X0.here hx rfl (hb hby own_d_jdk_117_8_0) rfl  k_) ?_
  show Goes p e below s _ _ _ (s₁.setTop (mkF m 1 #[.val (.double g), .second] [(.double g)]))
  obtain ⟨T1, X1, e1, st1⟩ := natS X0 hx hZ (y := (⟨"java/lang/Math", "abs", "(D)D"⟩ : MethodName)) hown (hw _ (List.mem_of_getElem? (i := 55) rfl)) (hw _ (List.mem_of_getElem? (i := 56) rfl)) (hw _ (List.mem_of_getElem? (i := 57) rfl)) (hw _ (List.mem_of_getElem? (i := 58) rfl)) (by decide) e0 (W := 0) (F := fun a' => a' = #[.double g] ∧ Jvm.Free.Fl.NoNaN64 g) (val := (.double (g &&& 0x7fffffffffffffff))) (val' := (.double (g &&& 0x7fffffffffffffff))) (fun q_ => Jvm.Free.Fl.Abs.absD_pays g ((show jdk_29_method_64_code = Jvm.Free.Fl.Abs.absDCode from by decide +kernel) ▸ q_) (by decide) (by decide)) (g := (mkF m 1 #[.val (.double g), .second] [(.double g)])) rfl (by rw [hml]; rfl) (argsL := [.double g]) (rest := []) (lenOf own_pd15 rfl) rfl (by show 2 * 0 + _ ≤ _; exact Nat.le_of_eq rfl) (hb hby own_d_jdk_117_8_1) (by decide) (by decide) ⟨rfl, hg.noNaN⟩ rfl
  refine Goes.st st1 ?_
  show Goes p e below s _ _ _ (T1.setTop (mkF m 4 #[.val (.double g), .second] [(.double (g &&& 0x7fffffffffffffff))]))
  refine Goes.st (fun t_ k_ => X1.ldc2DoubleC hx hown (mvT hZ (hw _ (List.mem_of_getElem? (i := 59) rfl))) (g := (mkF m 4 #[.val (.double g), .second] [(.double (g &&& 0x7fffffffffffffff))])) rfl (hb hby own_d_jdk_117_8_4) _ k_) ?_
  show Goes p e below s _ _ _ (T1.setTop (mkF m 7 #[.val (.double g), .second] [(.double (9218868437227405311 : UInt64)), (.double (g &&& 0x7fffffffffffffff))]))
  refine Goes.st (fun t_ k_ => XS.dcmpS X1.here hx rfl (hb hby own_d_jdk_117_8_7) rfl rfl k_) ?_
  show Goes p e below s _ _ _ (T1.setTop (mkF m 8 #[.val (.double g), .second] [(.int (cmpValue (FP.dcmp (g &&& 0x7fffffffffffffff) (9218868437227405311 : UInt64)) .g))]))
  refine Goes.st (fun t_ k_ => XS.ifNo X1.here hx rfl (hb hby own_d_jdk_117_8_8) rfl ((if0 _ _).trans (flt (Jvm.OwnNum.own_abs hg)).2.2.1) k_) ?_
  show Goes p e below s _ _ _ (T1.setTop (mkF m 11 #[.val (.double g), .second] []))
  refine Goes.st (fun t_ k_ => XS.iconst X1.here hx rfl (hb hby own_d_jdk_117_8_11) k_) ?_
  show Goes p e below s _ _ _ (T1.setTop (mkF m 12 #[.val (.double g), .second] [(.int (1 : Int32))]))
  refine Goes.st (fun t_ k_ => XS.goto X1.here hx rfl (pc0 := 12) (pc' := 16) rfl (hb hby own_d_jdk_117_8_12) (by decide) (by decide) k_) ?_
  show Goes p e below s _ _ _ (T1.setTop (mkF m 16 #[.val (.double g), .second] [(.int (1 : Int32))]))
  exact Goes.retN X1 hx (t := .boolean) hret hlk (by simp) (hb hby own_d_jdk_117_8_16) (by decide) (by decide) (⟨rfl, N0, e1⟩)
theorem own_rmV_ef (m : MethodId) (a : Addr) (d : Int32) (b : Addr) : entryFrame m #[(.ref a), (.int d), (.ref b)] 3 = mkF m 0 #[.val (.ref a), .val (.int d), .val (.ref b)] [] := by first | (simp [entryFrame, mkF, argsToLocals, Value.category]; done) | rfl
set_option maxRecDepth 65536 in
set_option maxHeartbeats 40000000 in
theorem own_rmV (l : Launch) (Z : State) (a0 : Array Value) (hw : ∀ d ∈ tables_1, d.before a0 Z = true) (ws : List Jvm.Cond) (a : Addr) (d : Int32) (b : Addr) (h0 : Heap) (n0 : Nat) (Z0 : n0 ≤ h0.size) (hd : d = 2) (E_a : Exa Z h0 a "com/example/delaunet/delaunet/space/HyperbolicSpace") (F_d : Fld Z h0 a "com/example/delaunet/delaunet/space/VectorSpace" "dims" "I" (.int (0 : Int32))) (F_b : Fld Z h0 a "com/example/delaunet/delaunet/space/VectorSpace" "borders" "Lcom/example/delaunet/delaunet/space/Borders;" .null) (E_b : Exa Z h0 b "com/example/delaunet/delaunet/space/Borders") (g_a : n0 ≤ a) :
    MetFree l (⟨"com/example/delaunet/delaunet/space/VectorSpace", "<init>", "(ILcom/example/delaunet/delaunet/space/Borders;)V"⟩ : MethodName) (head1 (Jvm.Cond.code (⟨"com/example/delaunet/delaunet/space/VectorSpace", "<init>", "(ILcom/example/delaunet/delaunet/space/Borders;)V"⟩ : MethodName) prog_155_method_2_code 3 none :: ws) ({ frames := 1, cells := 2, slots := 32, locals := 14 } : Room)) (fun aa_ U => aa_ = #[(.ref a), (.int d), (.ref b)] ∧ Z.Warmed39 U.vm ∧ U.heap = h0) (fun _ _ _ _ _ => True) (fun _ U oo_ U' => ∃ vv_ LL_, oo_ = .returned vv_ ∧ own_QI Z a h0 n0 vv_ U'.heap LL_ ∧ ReturnedEndW U oo_ U' LL_ ({ frames := 1, cells := 2, slots := 32, locals := 14 } : Room).cells ({ frames := 1, cells := 2, slots := 32, locals := 14 } : Room).slots) := by
  refine MetFree.of_bodySF (plainFor_of_name own_pn39) hisR ?_
  intro p e s m args below meth c s₁ Bd hml0 hP hK
  obtain ⟨rfl, hZ, hh⟩ := hP
  have hx := Bd.exec
  have hby := Bd.bytes
  have hml : c.maxLocals = 3 := hml0
  have hown : s.vm.findClass "com/example/delaunet/delaunet/space/VectorSpace" = some m.cls := findClass_of_methodNamed Bd.named
  have hnm := (name_of_methodNamed Bd.named Bd.method).1
  have hlk := Bd.notSynchronized
  have hret := Bd.returns
  have X0 : Stand p l e ({ frames := 1, cells := 2, slots := 32, locals := 14 } : Room) (s.setVm s.vm) m #[(.ref a), (.int d), (.ref b)] below meth c s₁ [] 0 0 := Stand.of_body Bd
  have e0 : s₁.heap = h0 := by rw [← hh, Bd.state]; rfl
  have N0 := Fr.nil n0
  have hS0 : s.Since s.vm 0 := (State.WarmedH.refl s).since 0
  have hk0 : 0 ≤ h0.size := Nat.zero_le _
  show GoesW p e below s (own_QI Z a h0 n0) ({ frames := 1, cells := 2, slots := 32, locals := 14 } : Room).cells ({ frames := 1, cells := 2, slots := 32, locals := 14 } : Room).slots _
  refine GoesW.cast (own_rmV_ef m a d b) ?_
  subst hd
  have K0 := Keep.refl h0 [a]
  show GoesW p e below s _ _ _ (s₁.setTop (mkF m 0 #[.val (.ref a), .val (.int (2 : Int32)), .val (.ref b)] []))
  refine GoesW.st (fun t_ k_ => XS.aloadN X0.here hx rfl (hb hby own_d_prog_155_2_0) rfl rfl k_) ?_
  show GoesW p e below s _ _ _ (s₁.setTop (mkF m 1 #[.val (.ref a), .val (.int (2 : Int32)), .val (.ref b)] [(.ref a)]))
  obtain ⟨T2, X2, e2, st2⟩ := initO X0 hx hZ hown (hw _ (List.mem_of_getElem? (i := 18) rfl)) (hw _ (List.mem_of_getElem? (i := 19) rfl)) (hw _ (List.mem_of_getElem? (i := 20) rfl)) e0 (g := (mkF m 1 #[.val (.ref a), .val (.int (2 : Int32)), .val (.ref b)] [(.ref a)])) rfl (by rw [hml]; rfl) rfl (hb hby own_d_prog_155_2_1) (by decide) (W := 0) (by show 2 * 0 + _ ≤ _; exact Nat.le_of_eq rfl) (by decide)
  refine GoesW.st st2 ?_
  show GoesW p e below s _ _ _ (T2.setTop (mkF m 4 #[.val (.ref a), .val (.int (2 : Int32)), .val (.ref b)] []))
  refine GoesW.st (fun t_ k_ => XS.aloadN X2.here hx rfl (hb hby own_d_prog_155_2_4) rfl rfl k_) ?_
  show GoesW p e below s _ _ _ (T2.setTop (mkF m 5 #[.val (.ref a), .val (.int (2 : Int32)), .val (.ref b)] [(.ref a)]))
  refine GoesW.st (fun t_ k_ => XS.iloadN X2.here hx rfl (hb hby own_d_prog_155_2_5) rfl  k_) ?_
  show GoesW p e below s _ _ _ (T2.setTop (mkF m 6 #[.val (.ref a), .val (.int (2 : Int32)), .val (.ref b)] [(.int (2 : Int32)), (.ref a)]))
  obtain ⟨_, _, ⟨T3, L3, k3, n3⟩, -, X3, ⟨Lc3, hQ3, l3, y3, z3⟩, st3⟩ := Jvm.LawKit.callS X2 hx (y := (⟨"com/example/delaunet/delaunet/space/KeyPoints", "checkDims", "(I)I"⟩ : MethodName)) hown (mvT hZ (hw _ (List.mem_of_getElem? (i := 21) rfl))) (mvT hZ (hw _ (List.mem_of_getElem? (i := 22) rfl))) (mvT hZ (hw _ (List.mem_of_getElem? (i := 23) rfl))) (mvT hZ (hw _ (List.mem_of_getElem? (i := 24) rfl))) (by decide) (backOf (W := 1) (own_rmD l Z a0 hw [] 2 h0 n0 Z0 rfl) hZ (hw _ (List.mem_of_getElem? (i := 24) rfl)) (hw _ (List.mem_of_getElem? (i := 23) rfl)) (by decide) (by decide)) (g := (mkF m 6 #[.val (.ref a), .val (.int (2 : Int32)), .val (.ref b)] [(.int (2 : Int32)), (.ref a)])) rfl (by rw [hml]; rfl) (argsL := [(.int (2 : Int32))]) (rest := [(.ref a)]) (lenOf own_pd28 rfl) rfl (by show 2 * 0 + _ ≤ _; exact Nat.le_of_eq rfl) (hb hby own_d_prog_155_2_6) (fun _ _ => ⟨rfl, e2, (by decide : 0 + 0 ≤ _), (by decide : 0 + 0 ≤ _)⟩)
  dsimp only [Pt.U, Pt.locs, Pt.cells, Pt.slots] at X3 l3 y3 z3 st3 hQ3
  subst l3 y3 z3
  obtain ⟨rfl, N3q, EQ1⟩ := hQ3
  have N3 := Fr.app N0 N3q
  refine GoesW.st st3 ?_
  show GoesW p e below s _ _ _ (T3.setTop (mkF m 9 #[.val (.ref a), .val (.int (2 : Int32)), .val (.ref b)] [(.int (2 : Int32)), (.ref a)]))
  obtain ⟨T4, h4, X4, e4, W4, st4⟩ := putF X3 hx hZ hown (host := "") (Or.inl (hw _ (List.mem_of_getElem? (i := 25) rfl))) Via.refl EQ1 F_d E_a (Or.inr ⟨(hw _ (List.mem_of_getElem? (i := 26) rfl)), rfl, hnm⟩) (hw _ (List.mem_of_getElem? (i := 2) rfl)) (ty := .int) (by decide) rfl rfl (g := (mkF m 9 #[.val (.ref a), .val (.int (2 : Int32)), .val (.ref b)] [(.int (2 : Int32)), (.ref a)])) rfl rfl (hb hby own_d_prog_155_2_9)
  refine GoesW.st st4 ?_
  have E_a := E_a.wr W4
  have E_b := E_b.wr W4
  have F_d := F_d.same W4
  have F_b := F_b.other W4 (Or.inr (slot_ne (Or.inr (hw _ (List.mem_of_getElem? (i := 42) rfl))) (Or.inr (hw _ (List.mem_of_getElem? (i := 26) rfl))) (by decide) (t := (.object "com/example/delaunet/delaunet/space/Borders")) (t' := .int) (by decide) (by decide)))
  have N4 := Fr.snoc X4 N3 g_a
  have Z0' := Nat.le_trans Z0 (Keep.of_wr W4).1
  have hk0' := Nat.le_trans hk0 (Keep.of_wr W4).1
  have K0 := K0.wr W4 (Or.inl (List.mem_of_getElem? (i := 0) rfl))
  show GoesW p e below s _ _ _ (T4.setTop (mkF m 12 #[.val (.ref a), .val (.int (2 : Int32)), .val (.ref b)] []))
  refine GoesW.st (fun t_ k_ => XS.aloadN X4.here hx rfl (hb hby own_d_prog_155_2_12) rfl rfl k_) ?_
  show GoesW p e below s _ _ _ (T4.setTop (mkF m 13 #[.val (.ref a), .val (.int (2 : Int32)), .val (.ref b)] [(.ref a)]))
  refine GoesW.st (fun t_ k_ => XS.aloadN X4.here hx rfl (hb hby own_d_prog_155_2_13) rfl rfl k_) ?_
  show GoesW p e below s _ _ _ (T4.setTop (mkF m 14 #[.val (.ref a), .val (.int (2 : Int32)), .val (.ref b)] [(.ref b), (.ref a)]))
  obtain ⟨a5, T5, h5, k5, X5, e5, E5, hS5, hk5, hZ, hown, st5⟩ := ldcS (s := s) X4 hx hZ hown (hw _ (List.mem_of_getElem? (i := 27) rfl)) (own_strs hw) e4 hS0 hk0' (g := (mkF m 14 #[.val (.ref a), .val (.int (2 : Int32)), .val (.ref b)] [(.ref b), (.ref a)])) rfl (hb hby own_d_prog_155_2_14) (n := 28) (by decide) (by decide) (by decide) (by decide)
  refine GoesW.st st5 ?_
  have E_a := E_a.ext E5
  have E_b := E_b.ext E5
  have F_d := F_d.ext E5
  have F_b := F_b.ext E5
  have Z0'' := Nat.le_trans Z0' E5.1
  have hk0'' := Nat.le_trans hk0' E5.1
  have K0 := K0.ext E5
  show GoesW p e below s _ _ _ (T5.setTop (mkF m 16 #[.val (.ref a), .val (.int (2 : Int32)), .val (.ref b)] [(.ref a5), (.ref b), (.ref a)]))
  obtain ⟨_, _, ⟨T6, L6, k6, n6⟩, -, X6, ⟨Lc6, hQ6, l6, y6, z6⟩, st6⟩ := Jvm.LawKit.callS X5 hx (y := (⟨"java/util/Objects", "requireNonNull", "(Ljava/lang/Object;Ljava/lang/String;)Ljava/lang/Object;"⟩ : MethodName)) hown (mvT hZ (hw _ (List.mem_of_getElem? (i := 35) rfl))) (mvT hZ (hw _ (List.mem_of_getElem? (i := 36) rfl))) (mvT hZ (hw _ (List.mem_of_getElem? (i := 37) rfl))) (mvT hZ (hw _ (List.mem_of_getElem? (i := 38) rfl))) (by decide) (backOf (W := 1) (own_rmN l Z a0 hw [] b a5 h5 n0 Z0'' ) hZ (hw _ (List.mem_of_getElem? (i := 38) rfl)) (hw _ (List.mem_of_getElem? (i := 37) rfl)) (by decide) (by decide)) (g := (mkF m 16 #[.val (.ref a), .val (.int (2 : Int32)), .val (.ref b)] [(.ref a5), (.ref b), (.ref a)])) rfl (by rw [hml]; rfl) (argsL := [(.ref b), (.ref a5)]) (rest := [(.ref a)]) (lenOf own_pd34 rfl) rfl (by show 2 * 0 + _ ≤ _; exact Nat.le_of_eq rfl) (hb hby own_d_prog_155_2_16) (fun _ _ => ⟨rfl, e5, (by decide : 2 + 0 ≤ _), (by decide : 32 + 0 ≤ _)⟩)
  dsimp only [Pt.U, Pt.locs, Pt.cells, Pt.slots] at X6 l6 y6 z6 st6 hQ6
  subst l6 y6 z6
  obtain ⟨rfl, N6q, EQ2⟩ := hQ6
  have N6 := Fr.app N4 N6q
  refine GoesW.st st6 ?_
  show GoesW p e below s _ _ _ (T6.setTop (mkF m 19 #[.val (.ref a), .val (.int (2 : Int32)), .val (.ref b)] [(.ref b), (.ref a)]))
  obtain ⟨T7, X7, e7, st7⟩ := castY X6 hx hZ hown (hw _ (List.mem_of_getElem? (i := 39) rfl)) EQ2 (Ins.self E_b) (g := (mkF m 19 #[.val (.ref a), .val (.int (2 : Int32)), .val (.ref b)] [(.ref b), (.ref a)])) rfl rfl (hb hby own_d_prog_155_2_19)
  refine GoesW.st st7 ?_
  show GoesW p e below s _ _ _ (T7.setTop (mkF m 22 #[.val (.ref a), .val (.int (2 : Int32)), .val (.ref b)] [(.ref b), (.ref a)]))
  obtain ⟨T8, h8, X8, e8, W8, st8⟩ := putF X7 hx hZ hown (host := "") (Or.inl (hw _ (List.mem_of_getElem? (i := 41) rfl))) Via.refl e7 F_b E_a (Or.inr ⟨(hw _ (List.mem_of_getElem? (i := 42) rfl)), rfl, hnm⟩) (hw _ (List.mem_of_getElem? (i := 2) rfl)) (ty := (.object "com/example/delaunet/delaunet/space/Borders")) (by decide) rfl rfl (g := (mkF m 22 #[.val (.ref a), .val (.int (2 : Int32)), .val (.ref b)] [(.ref b), (.ref a)])) rfl rfl (hb hby own_d_prog_155_2_22)
  refine GoesW.st st8 ?_
  have E_a := E_a.wr W8
  have E_b := E_b.wr W8
  have F_d := F_d.other W8 (Or.inr (slot_ne (Or.inr (hw _ (List.mem_of_getElem? (i := 26) rfl))) (Or.inr (hw _ (List.mem_of_getElem? (i := 42) rfl))) (by decide) (t := .int) (t' := (.object "com/example/delaunet/delaunet/space/Borders")) (by decide) (by decide)))
  have F_b := F_b.same W8
  have N8 := Fr.snoc X8 N6 g_a
  have Z0''' := Nat.le_trans Z0'' (Keep.of_wr W8).1
  have hk5' := Nat.le_trans hk5 (Keep.of_wr W8).1
  have K0 := K0.wr W8 (Or.inl (List.mem_of_getElem? (i := 0) rfl))
  show GoesW p e below s _ _ _ (T8.setTop (mkF m 25 #[.val (.ref a), .val (.int (2 : Int32)), .val (.ref b)] []))
  rw [← e8] at K0
  exact GoesW.ret0 X8 hS5 (by rw [e8]; exact hk5') hx hret hlk (hb hby own_d_prog_155_2_25) (by decide) (by decide) (⟨rfl, N8, K0⟩)
theorem own_rmW_ef (m : MethodId) (a : Addr) (d : Int32) : entryFrame m #[(.ref a), (.int d)] 2 = mkF m 0 #[.val (.ref a), .val (.int d)] [] := by first | (simp [entryFrame, mkF, argsToLocals, Value.category]; done) | rfl
set_option maxRecDepth 65536 in
set_option maxHeartbeats 40000000 in
theorem own_rmW (l : Launch) (Z : State) (a0 : Array Value) (hw : ∀ d ∈ tables_1, d.before a0 Z = true) (ws : List Jvm.Cond) (a : Addr) (d : Int32) (b : Addr) (h0 : Heap) (n0 : Nat) (Z0 : n0 ≤ h0.size) (hd : d = 2) (E_a : Exa Z h0 a "com/example/delaunet/delaunet/space/HyperbolicSpace") (F_d : Fld Z h0 a "com/example/delaunet/delaunet/space/VectorSpace" "dims" "I" (.int (0 : Int32))) (F_b : Fld Z h0 a "com/example/delaunet/delaunet/space/VectorSpace" "borders" "Lcom/example/delaunet/delaunet/space/Borders;" .null) (S_m : Sta Z h0 "com/example/delaunet/delaunet/space/Borders" "MIDPOINT" "Lcom/example/delaunet/delaunet/space/Borders;" (.ref b)) (E_b : Exa Z h0 b "com/example/delaunet/delaunet/space/Borders") (g_a : n0 ≤ a) :
    MetFree l (⟨"com/example/delaunet/delaunet/space/VectorSpace", "<init>", "(I)V"⟩ : MethodName) (head1 (Jvm.Cond.code (⟨"com/example/delaunet/delaunet/space/VectorSpace", "<init>", "(I)V"⟩ : MethodName) prog_155_method_1_code 2 none :: ws) ({ frames := 2, cells := 2, slots := 32, locals := 28 } : Room)) (fun aa_ U => aa_ = #[(.ref a), (.int d)] ∧ Z.Warmed39 U.vm ∧ U.heap = h0) (fun _ _ _ _ _ => True) (fun _ U oo_ U' => ∃ vv_ LL_, oo_ = .returned vv_ ∧ own_QI Z a h0 n0 vv_ U'.heap LL_ ∧ ReturnedEndW U oo_ U' LL_ ({ frames := 2, cells := 2, slots := 32, locals := 28 } : Room).cells ({ frames := 2, cells := 2, slots := 32, locals := 28 } : Room).slots) := by
  refine MetFree.of_bodySF (plainFor_of_name own_pn39) hisR ?_
  intro p e s m args below meth c s₁ Bd hml0 hP hK
  obtain ⟨rfl, hZ, hh⟩ := hP
  have hx := Bd.exec
  have hby := Bd.bytes
  have hml : c.maxLocals = 2 := hml0
  have hown : s.vm.findClass "com/example/delaunet/delaunet/space/VectorSpace" = some m.cls := findClass_of_methodNamed Bd.named
  have hnm := (name_of_methodNamed Bd.named Bd.method).1
  have hlk := Bd.notSynchronized
  have hret := Bd.returns
  have X0 : Stand p l e ({ frames := 2, cells := 2, slots := 32, locals := 28 } : Room) (s.setVm s.vm) m #[(.ref a), (.int d)] below meth c s₁ [] 0 0 := Stand.of_body Bd
  have e0 : s₁.heap = h0 := by rw [← hh, Bd.state]; rfl
  have N0 := Fr.nil n0
  have hS0 : s.Since s.vm 0 := (State.WarmedH.refl s).since 0
  have hk0 : 0 ≤ h0.size := Nat.zero_le _
  show GoesW p e below s (own_QI Z a h0 n0) ({ frames := 2, cells := 2, slots := 32, locals := 28 } : Room).cells ({ frames := 2, cells := 2, slots := 32, locals := 28 } : Room).slots _
  refine GoesW.cast (own_rmW_ef m a d) ?_
  subst hd
  have K0 := Keep.refl h0 [a]
  show GoesW p e below s _ _ _ (s₁.setTop (mkF m 0 #[.val (.ref a), .val (.int (2 : Int32))] []))
  refine GoesW.st (fun t_ k_ => XS.aloadN X0.here hx rfl (hb hby own_d_prog_155_1_0) rfl rfl k_) ?_
  show GoesW p e below s _ _ _ (s₁.setTop (mkF m 1 #[.val (.ref a), .val (.int (2 : Int32))] [(.ref a)]))
  refine GoesW.st (fun t_ k_ => XS.iloadN X0.here hx rfl (hb hby own_d_prog_155_1_1) rfl  k_) ?_
  show GoesW p e below s _ _ _ (s₁.setTop (mkF m 2 #[.val (.ref a), .val (.int (2 : Int32))] [(.int (2 : Int32)), (.ref a)]))
  obtain ⟨T9, X9, e9, st9⟩ := getS2 X0 hx hZ hown (host := "") (Or.inl (hw _ (List.mem_of_getElem? (i := 12) rfl))) Via.refl e0 S_m (g := (mkF m 2 #[.val (.ref a), .val (.int (2 : Int32))] [(.int (2 : Int32)), (.ref a)])) rfl (hb hby own_d_prog_155_1_2)
  refine GoesW.st st9 ?_
  show GoesW p e below s _ _ _ (T9.setTop (mkF m 5 #[.val (.ref a), .val (.int (2 : Int32))] [(.ref b), (.int (2 : Int32)), (.ref a)]))
  obtain ⟨_, _, ⟨T10, L10, k10, n10⟩, -, X10, hSS10, hG10, ⟨Lc10, hQ10, l10, y10, z10⟩, st10⟩ := X9.specialBackS hx (y := (⟨"com/example/delaunet/delaunet/space/VectorSpace", "<init>", "(ILcom/example/delaunet/delaunet/space/Borders;)V"⟩ : MethodName)) rfl hown (mvT hZ (hw _ (List.mem_of_getElem? (i := 15) rfl))) (mvT hZ (hw _ (List.mem_of_getElem? (i := 16) rfl))) (mvT hZ (hw _ (List.mem_of_getElem? (i := 17) rfl))) (by decide) (backOfS (W := 0) (own_rmV l Z a0 hw [] a 2 b h0 n0 Z0 rfl E_a F_d F_b E_b g_a) hZ (hw _ (List.mem_of_getElem? (i := 17) rfl)) (hw _ (List.mem_of_getElem? (i := 10) rfl)) (by decide) (by decide)) (g := (mkF m 5 #[.val (.ref a), .val (.int (2 : Int32))] [(.ref b), (.int (2 : Int32)), (.ref a)])) rfl (by rw [hml]; rfl) (Steps.refl _) (a := a) (argsL := [(.int (2 : Int32)), (.ref b)]) (rest := []) (lenOf own_pd43 rfl) rfl (by show 2 * 0 + _ ≤ _; exact Nat.le_of_eq rfl) (hb hby own_d_prog_155_1_5) (fun _ _ => ⟨rfl, e9, (by decide : 0 + 2 ≤ _), (by decide : 0 + 32 ≤ _)⟩)
  dsimp only [Pt.U, Pt.locs, Pt.cells, Pt.slots] at X10 l10 y10 z10 st10 hQ10 hSS10 hG10
  obtain ⟨X10, hS10, hZ, hown⟩ := rebS hS0 (by rw [e9]; exact hk0 : _ ≤ T9.heap.size) X10 hSS10 hG10 hZ hown
  subst l10 y10 z10
  obtain ⟨rfl, N10q, KV⟩ := hQ10
  have N10 := Fr.app N0 N10q
  refine GoesW.tr st10 ?_
  have Z0' := Nat.le_trans Z0 KV.1
  have hk0' := Nat.le_trans hk0 KV.1
  have K0 : Keep h0 _ _ := K0.trans KV (allS (Or.inl (List.mem_of_getElem? (i := 0) rfl)) all0)
  have hk10 : T10.heap.size ≤ T10.heap.size := Nat.le_refl _
  obtain ⟨k10z, ek10⟩ : ∃ z, z = T10.heap.size := ⟨_, rfl⟩
  rw [← ek10] at hS10
  have hk10 : k10z ≤ T10.heap.size := Nat.le_of_eq ek10
  show GoesW p e below s _ _ _ (T10.setTop (mkF m 8 #[.val (.ref a), .val (.int (2 : Int32))] []))
  exact GoesW.ret0 X10 hS10 hk10 hx hret hlk (hb hby own_d_prog_155_1_8) (by decide) (by decide) (⟨rfl, N10, K0⟩)
theorem own_rmH_ef (m : MethodId) (a : Addr) : entryFrame m #[(.ref a)] 1 = mkF m 0 #[.val (.ref a)] [] := by first | (simp [entryFrame, mkF, argsToLocals, Value.category]; done) | rfl
set_option maxRecDepth 65536 in
set_option maxHeartbeats 40000000 in
theorem own_rmH (l : Launch) (Z : State) (a0 : Array Value) (hw : ∀ d ∈ tables_1, d.before a0 Z = true) (ws : List Jvm.Cond) (a b : Addr) (h0 : Heap) (n0 : Nat) (Z0 : n0 ≤ h0.size) (E_a : Exa Z h0 a "com/example/delaunet/delaunet/space/HyperbolicSpace") (F_d : Fld Z h0 a "com/example/delaunet/delaunet/space/VectorSpace" "dims" "I" (.int (0 : Int32))) (F_b : Fld Z h0 a "com/example/delaunet/delaunet/space/VectorSpace" "borders" "Lcom/example/delaunet/delaunet/space/Borders;" .null) (S_m : Sta Z h0 "com/example/delaunet/delaunet/space/Borders" "MIDPOINT" "Lcom/example/delaunet/delaunet/space/Borders;" (.ref b)) (E_b : Exa Z h0 b "com/example/delaunet/delaunet/space/Borders") (g_a : n0 ≤ a) :
    MetFree l (⟨"com/example/delaunet/delaunet/space/HyperbolicSpace", "<init>", "()V"⟩ : MethodName) (head1 (Jvm.Cond.code (⟨"com/example/delaunet/delaunet/space/HyperbolicSpace", "<init>", "()V"⟩ : MethodName) prog_139_method_1_code 1 none :: ws) ({ frames := 3, cells := 2, slots := 32, locals := 41 } : Room)) (fun aa_ U => aa_ = #[(.ref a)] ∧ Z.Warmed39 U.vm ∧ U.heap = h0) (fun _ _ _ _ _ => True) (fun _ U oo_ U' => ∃ vv_ LL_, oo_ = .returned vv_ ∧ own_QI Z a h0 n0 vv_ U'.heap LL_ ∧ ReturnedEndW U oo_ U' LL_ ({ frames := 3, cells := 2, slots := 32, locals := 41 } : Room).cells ({ frames := 3, cells := 2, slots := 32, locals := 41 } : Room).slots) := by
  refine MetFree.of_bodySF (plainFor_of_name own_pn51) hisR ?_
  intro p e s m args below meth c s₁ Bd hml0 hP hK
  obtain ⟨rfl, hZ, hh⟩ := hP
  have hx := Bd.exec
  have hby := Bd.bytes
  have hml : c.maxLocals = 1 := hml0
  have hown : s.vm.findClass "com/example/delaunet/delaunet/space/HyperbolicSpace" = some m.cls := findClass_of_methodNamed Bd.named
  have hnm := (name_of_methodNamed Bd.named Bd.method).1
  have hlk := Bd.notSynchronized
  have hret := Bd.returns
  have X0 : Stand p l e ({ frames := 3, cells := 2, slots := 32, locals := 41 } : Room) (s.setVm s.vm) m #[(.ref a)] below meth c s₁ [] 0 0 := Stand.of_body Bd
  have e0 : s₁.heap = h0 := by rw [← hh, Bd.state]; rfl
  have N0 := Fr.nil n0
  have hS0 : s.Since s.vm 0 := (State.WarmedH.refl s).since 0
  have hk0 : 0 ≤ h0.size := Nat.zero_le _
  show GoesW p e below s (own_QI Z a h0 n0) ({ frames := 3, cells := 2, slots := 32, locals := 41 } : Room).cells ({ frames := 3, cells := 2, slots := 32, locals := 41 } : Room).slots _
  refine GoesW.cast (own_rmH_ef m a) ?_
  have K0 := Keep.refl h0 [a]
  show GoesW p e below s _ _ _ (s₁.setTop (mkF m 0 #[.val (.ref a)] []))
  refine GoesW.st (fun t_ k_ => XS.aloadN X0.here hx rfl (hb hby own_d_prog_139_1_0) rfl rfl k_) ?_
  show GoesW p e below s _ _ _ (s₁.setTop (mkF m 1 #[.val (.ref a)] [(.ref a)]))
  refine GoesW.st (fun t_ k_ => XS.iconst X0.here hx rfl (hb hby own_d_prog_139_1_1) k_) ?_
  show GoesW p e below s _ _ _ (s₁.setTop (mkF m 2 #[.val (.ref a)] [(.int (2 : Int32)), (.ref a)]))
  obtain ⟨_, _, ⟨T11, L11, k11, n11⟩, -, X11, hSS11, hG11, ⟨Lc11, hQ11, l11, y11, z11⟩, st11⟩ := X0.specialBackS hx (y := (⟨"com/example/delaunet/delaunet/space/VectorSpace", "<init>", "(I)V"⟩ : MethodName)) rfl hown (mvT hZ (hw _ (List.mem_of_getElem? (i := 7) rfl))) (mvT hZ (hw _ (List.mem_of_getElem? (i := 8) rfl))) (mvT hZ (hw _ (List.mem_of_getElem? (i := 11) rfl))) (by decide) (backOfS (W := 0) (own_rmW l Z a0 hw [] a 2 b h0 n0 Z0 rfl E_a F_d F_b S_m E_b g_a) hZ (hw _ (List.mem_of_getElem? (i := 11) rfl)) (hw _ (List.mem_of_getElem? (i := 10) rfl)) (by decide) (by decide)) (g := (mkF m 2 #[.val (.ref a)] [(.int (2 : Int32)), (.ref a)])) rfl (by rw [hml]; rfl) (Steps.refl _) (a := a) (argsL := [(.int (2 : Int32))]) (rest := []) (lenOf own_pd48 rfl) rfl (by show 2 * 0 + _ ≤ _; exact Nat.le_of_eq rfl) (hb hby own_d_prog_139_1_2) (fun _ _ => ⟨rfl, e0, (by decide : 0 + 2 ≤ _), (by decide : 0 + 32 ≤ _)⟩)
  dsimp only [Pt.U, Pt.locs, Pt.cells, Pt.slots] at X11 l11 y11 z11 st11 hQ11 hSS11 hG11
  obtain ⟨X11, hS11, hZ, hown⟩ := rebS hS0 (by rw [e0]; exact hk0 : _ ≤ s₁.heap.size) X11 hSS11 hG11 hZ hown
  subst l11 y11 z11
  obtain ⟨rfl, N11q, KV⟩ := hQ11
  have N11 := Fr.app N0 N11q
  refine GoesW.tr st11 ?_
  have Z0' := Nat.le_trans Z0 KV.1
  have hk0' := Nat.le_trans hk0 KV.1
  have K0 : Keep h0 _ _ := K0.trans KV (allS (Or.inl (List.mem_of_getElem? (i := 0) rfl)) all0)
  have hk11 : T11.heap.size ≤ T11.heap.size := Nat.le_refl _
  obtain ⟨k11z, ek11⟩ : ∃ z, z = T11.heap.size := ⟨_, rfl⟩
  rw [← ek11] at hS11
  have hk11 : k11z ≤ T11.heap.size := Nat.le_of_eq ek11
  show GoesW p e below s _ _ _ (T11.setTop (mkF m 5 #[.val (.ref a)] []))
  exact GoesW.ret0 X11 hS11 hk11 hx hret hlk (hb hby own_d_prog_139_1_5) (by decide) (by decide) (⟨rfl, N11, K0⟩)
theorem own_rmP_ef (m : MethodId) (a : Addr) (xs : Addr) : entryFrame m #[(.ref a), (.ref xs)] 7 = mkF m 0 #[.val (.ref a), .val (.ref xs), .unset, .unset, .unset, .unset, .unset] [] := by first | (simp [entryFrame, mkF, argsToLocals, Value.category]; done) | rfl
set_option maxRecDepth 65536 in
set_option maxHeartbeats 40000000 in
theorem own_rmP (l : Launch) (Z : State) (a0 : Array Value) (hw : ∀ d ∈ tables_1, d.before a0 Z = true) (ws : List Jvm.Cond) (a xs : Addr) (kk : ClassId) (u1 u2 : UInt64) (h0 : Heap) (n0 : Nat) (Z0 : n0 ≤ h0.size) (E_a : Exa Z h0 a "com/example/delaunet/delaunet/space/VectorPoint") (F_c : Fld Z h0 a "com/example/delaunet/delaunet/space/VectorPoint" "coordinates" "[D" .null) (E_x : Exa Z h0 xs "[D") (V_x : Arv Z h0 xs kk .double (2 : Int32) [(.double u1), (.double u2)] (.double (0 : UInt64))) (f1 : Jvm.Free.Fl.Fin64 u1) (f2 : Jvm.Free.Fl.Fin64 u2) (nax : a ≠ xs) (g_a : n0 ≤ a) :
    MetFree l (⟨"com/example/delaunet/delaunet/space/VectorPoint", "<init>", "([D)V"⟩ : MethodName) (head1 (Jvm.Cond.code (⟨"com/example/delaunet/delaunet/space/VectorPoint", "<init>", "([D)V"⟩ : MethodName) prog_154_method_1_code 7 none :: ws) ({ frames := 2, cells := 1, slots := 2, locals := 26 } : Room)) (fun aa_ U => aa_ = #[(.ref a), (.ref xs)] ∧ Z.Warmed39 U.vm ∧ U.heap = h0) (fun _ _ _ _ _ => True) (fun _ U oo_ U' => ∃ vv_ LL_, oo_ = .returned vv_ ∧ own_QI Z a h0 n0 vv_ U'.heap LL_ ∧ FrameEnd U oo_ U' LL_ ({ frames := 2, cells := 1, slots := 2, locals := 26 } : Room).cells ({ frames := 2, cells := 1, slots := 2, locals := 26 } : Room).slots) := by
  refine MetFree.of_bodySF (plainFor_of_name own_pn83) hisR ?_
  intro p e s m args below meth c s₁ Bd hml0 hP hK
  obtain ⟨rfl, hZ, hh⟩ := hP
  have hx := Bd.exec
  have hby := Bd.bytes
  have hml : c.maxLocals = 7 := hml0
  have hown : s.vm.findClass "com/example/delaunet/delaunet/space/VectorPoint" = some m.cls := findClass_of_methodNamed Bd.named
  have hnm := (name_of_methodNamed Bd.named Bd.method).1
  have hlk := Bd.notSynchronized
  have hret := Bd.returns
  have X0 : Stand p l e ({ frames := 2, cells := 1, slots := 2, locals := 26 } : Room) s m #[(.ref a), (.ref xs)] below meth c s₁ [] 0 0 := Stand.of_body Bd
  have e0 : s₁.heap = h0 := by rw [← hh, Bd.state]; rfl
  have N0 := Fr.nil n0
  show Goes p e below s (own_QI Z a h0 n0) ({ frames := 2, cells := 1, slots := 2, locals := 26 } : Room).cells ({ frames := 2, cells := 1, slots := 2, locals := 26 } : Room).slots _
  refine Goes.cast (own_rmP_ef m a xs) ?_
  have K0 := Keep.refl h0 [a]
  show Goes p e below s _ _ _ (s₁.setTop (mkF m 0 #[.val (.ref a), .val (.ref xs), .unset, .unset, .unset, .unset, .unset] []))
  refine Goes.st (fun t_ k_ => XS.aloadN X0.here hx rfl (hb hby own_d_prog_154_1_0) rfl rfl k_) ?_
  show Goes p e below s _ _ _ (s₁.setTop (mkF m 1 #[.val (.ref a), .val (.ref xs), .unset, .unset, .unset, .unset, .unset] [(.ref a)]))
  obtain ⟨T12, X12, e12, st12⟩ := initO X0 hx hZ hown (hw _ (List.mem_of_getElem? (i := 50) rfl)) (hw _ (List.mem_of_getElem? (i := 19) rfl)) (hw _ (List.mem_of_getElem? (i := 20) rfl)) e0 (g := (mkF m 1 #[.val (.ref a), .val (.ref xs), .unset, .unset, .unset, .unset, .unset] [(.ref a)])) rfl (by rw [hml]; rfl) rfl (hb hby own_d_prog_154_1_1) (by decide) (W := 0) (by show 2 * 0 + _ ≤ _; exact Nat.le_of_eq rfl) (by decide)
  refine Goes.st st12 ?_
  show Goes p e below s _ _ _ (T12.setTop (mkF m 4 #[.val (.ref a), .val (.ref xs), .unset, .unset, .unset, .unset, .unset] []))
  refine Goes.st (fun t_ k_ => XS.aloadN X12.here hx rfl (hb hby own_d_prog_154_1_4) rfl rfl k_) ?_
  show Goes p e below s _ _ _ (T12.setTop (mkF m 5 #[.val (.ref a), .val (.ref xs), .unset, .unset, .unset, .unset, .unset] [(.ref xs)]))
  have VV13 := V_x
  obtain ⟨cl13, Ar13, -, S13, M13, -, -⟩ := VV13
  refine Goes.st (fun t_ k_ => X12.arraylength hx (by rw [e12]; exact Ar13.1) (State.isArrayOf_alike hZ.alike Ar13.2.1) (g := (mkF m 5 #[.val (.ref a), .val (.ref xs), .unset, .unset, .unset, .unset, .unset] [(.ref xs)])) rfl rfl (hb hby own_d_prog_154_1_5) _ k_) ?_
  rw [len_of S13 M13]
  show Goes p e below s _ _ _ (T12.setTop (mkF m 6 #[.val (.ref a), .val (.ref xs), .unset, .unset, .unset, .unset, .unset] [(.int (2 : Int32))]))
  refine Goes.st (fun t_ k_ => XS.ifYes X12.here hx rfl (pc0 := 6) (pc' := 19) rfl (hb hby own_d_prog_154_1_6) rfl ((if0 _ _).trans (feq (by decide)).2) (by decide) (by decide) k_) ?_
  show Goes p e below s _ _ _ (T12.setTop (mkF m 19 #[.val (.ref a), .val (.ref xs), .unset, .unset, .unset, .unset, .unset] []))
  refine Goes.st (fun t_ k_ => XS.aloadN X12.here hx rfl (hb hby own_d_prog_154_1_19) rfl rfl k_) ?_
  show Goes p e below s _ _ _ (T12.setTop (mkF m 20 #[.val (.ref a), .val (.ref xs), .unset, .unset, .unset, .unset, .unset] [(.ref xs)]))
  refine Goes.st (fun t_ k_ => XS.astoreN X12.here hx rfl (hb hby own_d_prog_154_1_20) rfl rfl (l' := #[.val (.ref a), .val (.ref xs), .val (.ref xs), .unset, .unset, .unset, .unset]) rfl k_) ?_
  show Goes p e below s _ _ _ (T12.setTop (mkF m 21 #[.val (.ref a), .val (.ref xs), .val (.ref xs), .unset, .unset, .unset, .unset] []))
  refine Goes.st (fun t_ k_ => XS.aloadN X12.here hx rfl (hb hby own_d_prog_154_1_21) rfl rfl k_) ?_
  show Goes p e below s _ _ _ (T12.setTop (mkF m 22 #[.val (.ref a), .val (.ref xs), .val (.ref xs), .unset, .unset, .unset, .unset] [(.ref xs)]))
  have VV14 := V_x
  obtain ⟨cl14, Ar14, -, S14, M14, -, -⟩ := VV14
  refine Goes.st (fun t_ k_ => X12.arraylength hx (by rw [e12]; exact Ar14.1) (State.isArrayOf_alike hZ.alike Ar14.2.1) (g := (mkF m 22 #[.val (.ref a), .val (.ref xs), .val (.ref xs), .unset, .unset, .unset, .unset] [(.ref xs)])) rfl rfl (hb hby own_d_prog_154_1_22) _ k_) ?_
  rw [len_of S14 M14]
  show Goes p e below s _ _ _ (T12.setTop (mkF m 23 #[.val (.ref a), .val (.ref xs), .val (.ref xs), .unset, .unset, .unset, .unset] [(.int (2 : Int32))]))
  refine Goes.st (fun t_ k_ => XS.istoreN X12.here hx rfl (hb hby own_d_prog_154_1_23) rfl  (l' := #[.val (.ref a), .val (.ref xs), .val (.ref xs), .val (.int (2 : Int32)), .unset, .unset, .unset]) rfl k_) ?_
  show Goes p e below s _ _ _ (T12.setTop (mkF m 24 #[.val (.ref a), .val (.ref xs), .val (.ref xs), .val (.int (2 : Int32)), .unset, .unset, .unset] []))
  refine Goes.st (fun t_ k_ => XS.iconst X12.here hx rfl (hb hby own_d_prog_154_1_24) k_) ?_
  show Goes p e below s _ _ _ (T12.setTop (mkF m 25 #[.val (.ref a), .val (.ref xs), .val (.ref xs), .val (.int (2 : Int32)), .unset, .unset, .unset] [(.int (0 : Int32))]))
  refine Goes.st (fun t_ k_ => XS.istore X12.here hx rfl (hb hby own_d_prog_154_1_25) rfl  (l' := #[.val (.ref a), .val (.ref xs), .val (.ref xs), .val (.int (2 : Int32)), .val (.int (0 : Int32)), .unset, .unset]) rfl k_) ?_
  show Goes p e below s _ _ _ (T12.setTop (mkF m 27 #[.val (.ref a), .val (.ref xs), .val (.ref xs), .val (.int (2 : Int32)), .val (.int (0 : Int32)), .unset, .unset] []))
  refine Goes.st (fun t_ k_ => XS.iload X12.here hx rfl (hb hby own_d_prog_154_1_27) rfl  k_) ?_
  show Goes p e below s _ _ _ (T12.setTop (mkF m 29 #[.val (.ref a), .val (.ref xs), .val (.ref xs), .val (.int (2 : Int32)), .val (.int (0 : Int32)), .unset, .unset] [(.int (0 : Int32))]))
  refine Goes.st (fun t_ k_ => XS.iloadN X12.here hx rfl (hb hby own_d_prog_154_1_29) rfl  k_) ?_
  show Goes p e below s _ _ _ (T12.setTop (mkF m 30 #[.val (.ref a), .val (.ref xs), .val (.ref xs), .val (.int (2 : Int32)), .val (.int (0 : Int32)), .unset, .unset] [(.int (2 : Int32)), (.int (0 : Int32))]))
  refine Goes.st (fun t_ k_ => XS.icmpNo X12.here hx rfl (hb hby own_d_prog_154_1_30) rfl (tlt (by decide)).2.1 k_) ?_
  show Goes p e below s _ _ _ (T12.setTop (mkF m 33 #[.val (.ref a), .val (.ref xs), .val (.ref xs), .val (.int (2 : Int32)), .val (.int (0 : Int32)), .unset, .unset] []))
  refine Goes.st (fun t_ k_ => XS.aloadN X12.here hx rfl (hb hby own_d_prog_154_1_33) rfl rfl k_) ?_
  show Goes p e below s _ _ _ (T12.setTop (mkF m 34 #[.val (.ref a), .val (.ref xs), .val (.ref xs), .val (.int (2 : Int32)), .val (.int (0 : Int32)), .unset, .unset] [(.ref xs)]))
  refine Goes.st (fun t_ k_ => XS.iload X12.here hx rfl (hb hby own_d_prog_154_1_34) rfl  k_) ?_
  show Goes p e below s _ _ _ (T12.setTop (mkF m 36 #[.val (.ref a), .val (.ref xs), .val (.ref xs), .val (.int (2 : Int32)), .val (.int (0 : Int32)), .unset, .unset] [(.int (0 : Int32)), (.ref xs)]))
  have VV15 := V_x
  obtain ⟨cl15, Ar15, -, S15, M15, H15, -⟩ := VV15
  have hin15 := inb_of S15 (j := (0 : Int32)) ⟨by decide, by decide⟩
  refine Goes.st (fun t_ k_ => X12.daload hx (j := (0 : Int32)) (v := (.double u1)) (by rw [e12]; exact Ar15.1) (State.isArrayOf_alike hZ.alike Ar15.2.1) Ar15.2.2 hin15 (Has.at H15 hin15 rfl) (g := (mkF m 36 #[.val (.ref a), .val (.ref xs), .val (.ref xs), .val (.int (2 : Int32)), .val (.int (0 : Int32)), .unset, .unset] [(.int (0 : Int32)), (.ref xs)])) rfl rfl (hb hby own_d_prog_154_1_36) _ k_) ?_
  show Goes p e below s _ _ _ (T12.setTop (mkF m 37 #[.val (.ref a), .val (.ref xs), .val (.ref xs), .val (.int (2 : Int32)), .val (.int (0 : Int32)), .unset, .unset] [(.double u1)]))
  refine Goes.st (fun t_ k_ => XS.dstore X12.here hx rfl (hb hby own_d_prog_154_1_37) rfl  (l' := #[.val (.ref a), .val (.ref xs), .val (.ref xs), .val (.int (2 : Int32)), .val (.int (0 : Int32)), .val (.double u1), .second]) rfl k_) ?_
  show Goes p e below s _ _ _ (T12.setTop (mkF m 39 #[.val (.ref a), .val (.ref xs), .val (.ref xs), .val (.int (2 : Int32)), .val (.int (0 : Int32)), .val (.double u1), .second] []))
  refine Goes.st (fun t_ k_ => XS.dload X12.here hx rfl (hb hby own_d_prog_154_1_39) rfl  k_) ?_
  show Goes p e below s _ _ _ (T12.setTop (mkF m 41 #[.val (.ref a), .val (.ref xs), .val (.ref xs), .val (.int (2 : Int32)), .val (.int (0 : Int32)), .val (.double u1), .second] [(.double u1)]))
  obtain ⟨_, _, ⟨T16, L16, k16, n16⟩, -, X16, ⟨Lc16, hQ16, l16, y16, z16⟩, st16⟩ := Jvm.LawKit.callS X12 hx (y := (⟨"java/lang/Double", "isFinite", "(D)Z"⟩ : MethodName)) hown (mvT hZ (hw _ (List.mem_of_getElem? (i := 51) rfl))) (mvT hZ (hw _ (List.mem_of_getElem? (i := 52) rfl))) (mvT hZ (hw _ (List.mem_of_getElem? (i := 53) rfl))) (mvT hZ (hw _ (List.mem_of_getElem? (i := 54) rfl))) (by decide) (backOf (W := 0) (own_rmF l Z a0 hw [] u1 h0 n0 Z0 f1) hZ (hw _ (List.mem_of_getElem? (i := 54) rfl)) (hw _ (List.mem_of_getElem? (i := 53) rfl)) (by decide) (by decide)) (g := (mkF m 41 #[.val (.ref a), .val (.ref xs), .val (.ref xs), .val (.int (2 : Int32)), .val (.int (0 : Int32)), .val (.double u1), .second] [(.double u1)])) rfl (by rw [hml]; rfl) (argsL := [(.double u1)]) (rest := []) (lenOf own_pd72 rfl) rfl (by show 2 * 0 + _ ≤ _; exact Nat.le_of_eq rfl) (hb hby own_d_prog_154_1_41) (fun _ _ => ⟨rfl, e12, (by decide : 0 + 0 ≤ _), (by decide : 0 + 0 ≤ _)⟩)
  dsimp only [Pt.U, Pt.locs, Pt.cells, Pt.slots] at X16 l16 y16 z16 st16 hQ16
  subst l16 y16 z16
  obtain ⟨rfl, N16q, EQ1⟩ := hQ16
  have N16 := Fr.app N0 N16q
  refine Goes.st st16 ?_
  show Goes p e below s _ _ _ (T16.setTop (mkF m 44 #[.val (.ref a), .val (.ref xs), .val (.ref xs), .val (.int (2 : Int32)), .val (.int (0 : Int32)), .val (.double u1), .second] [(.int (1 : Int32))]))
  refine Goes.st (fun t_ k_ => XS.ifYes X16.here hx rfl (pc0 := 44) (pc' := 62) rfl (hb hby own_d_prog_154_1_44) rfl ((if0 _ _).trans (feq (by decide)).2) (by decide) (by decide) k_) ?_
  show Goes p e below s _ _ _ (T16.setTop (mkF m 62 #[.val (.ref a), .val (.ref xs), .val (.ref xs), .val (.int (2 : Int32)), .val (.int (0 : Int32)), .val (.double u1), .second] []))
  refine Goes.st (fun t_ k_ => XS.iinc X16.here hx rfl (hb hby own_d_prog_154_1_62) rfl (l' := #[.val (.ref a), .val (.ref xs), .val (.ref xs), .val (.int (2 : Int32)), .val (.int ((0 : Int32) + (1 : Int32))), .val (.double u1), .second]) rfl k_) ?_
  show Goes p e below s _ _ _ (T16.setTop (mkF m 65 #[.val (.ref a), .val (.ref xs), .val (.ref xs), .val (.int (2 : Int32)), .val (.int ((0 : Int32) + (1 : Int32))), .val (.double u1), .second] []))
  have lit17 : ((0 : Int32) + (1 : Int32)) = (1 : Int32) := by decide
  rw [lit17]
  show Goes p e below s _ _ _ (T16.setTop (mkF m 65 #[.val (.ref a), .val (.ref xs), .val (.ref xs), .val (.int (2 : Int32)), .val (.int (1 : Int32)), .val (.double u1), .second] []))
  show Goes p e below s _ _ _ (T16.setTop (mkF m 65 #[.val (.ref a), .val (.ref xs), .val (.ref xs), .val (.int (2 : Int32)), .val (.int (1 : Int32)), .val (.double u1), .second] []))
  refine Goes.st (fun t_ k_ => XS.goto X16.here hx rfl (pc0 := 65) (pc' := 27) rfl (hb hby own_d_prog_154_1_65) (by decide) (by decide) k_) ?_
  show Goes p e below s _ _ _ (T16.setTop (mkF m 27 #[.val (.ref a), .val (.ref xs), .val (.ref xs), .val (.int (2 : Int32)), .val (.int (1 : Int32)), .val (.double u1), .second] []))
  refine Goes.st (fun t_ k_ => XS.iload X16.here hx rfl (hb hby own_d_prog_154_1_27) rfl  k_) ?_
  show Goes p e below s _ _ _ (T16.setTop (mkF m 29 #[.val (.ref a), .val (.ref xs), .val (.ref xs), .val (.int (2 : Int32)), .val (.int (1 : Int32)), .val (.double u1), .second] [(.int (1 : Int32))]))
  refine Goes.st (fun t_ k_ => XS.iloadN X16.here hx rfl (hb hby own_d_prog_154_1_29) rfl  k_) ?_
  show Goes p e below s _ _ _ (T16.setTop (mkF m 30 #[.val (.ref a), .val (.ref xs), .val (.ref xs), .val (.int (2 : Int32)), .val (.int (1 : Int32)), .val (.double u1), .second] [(.int (2 : Int32)), (.int (1 : Int32))]))
  refine Goes.st (fun t_ k_ => XS.icmpNo X16.here hx rfl (hb hby own_d_prog_154_1_30) rfl (tlt (by decide)).2.1 k_) ?_
  show Goes p e below s _ _ _ (T16.setTop (mkF m 33 #[.val (.ref a), .val (.ref xs), .val (.ref xs), .val (.int (2 : Int32)), .val (.int (1 : Int32)), .val (.double u1), .second] []))
  refine Goes.st (fun t_ k_ => XS.aloadN X16.here hx rfl (hb hby own_d_prog_154_1_33) rfl rfl k_) ?_
  show Goes p e below s _ _ _ (T16.setTop (mkF m 34 #[.val (.ref a), .val (.ref xs), .val (.ref xs), .val (.int (2 : Int32)), .val (.int (1 : Int32)), .val (.double u1), .second] [(.ref xs)]))
  refine Goes.st (fun t_ k_ => XS.iload X16.here hx rfl (hb hby own_d_prog_154_1_34) rfl  k_) ?_
  show Goes p e below s _ _ _ (T16.setTop (mkF m 36 #[.val (.ref a), .val (.ref xs), .val (.ref xs), .val (.int (2 : Int32)), .val (.int (1 : Int32)), .val (.double u1), .second] [(.int (1 : Int32)), (.ref xs)]))
  have VV18 := V_x
  obtain ⟨cl18, Ar18, -, S18, M18, H18, -⟩ := VV18
  have hin18 := inb_of S18 (j := (1 : Int32)) ⟨by decide, by decide⟩
  refine Goes.st (fun t_ k_ => X16.daload hx (j := (1 : Int32)) (v := (.double u2)) (by rw [EQ1]; exact Ar18.1) (State.isArrayOf_alike hZ.alike Ar18.2.1) Ar18.2.2 hin18 (Has.at H18 hin18 rfl) (g := (mkF m 36 #[.val (.ref a), .val (.ref xs), .val (.ref xs), .val (.int (2 : Int32)), .val (.int (1 : Int32)), .val (.double u1), .second] [(.int (1 : Int32)), (.ref xs)])) rfl rfl (hb hby own_d_prog_154_1_36) _ k_) ?_
  show Goes p e below s _ _ _ (T16.setTop (mkF m 37 #[.val (.ref a), .val (.ref xs), .val (.ref xs), .val (.int (2 : Int32)), .val (.int (1 : Int32)), .val (.double u1), .second] [(.double u2)]))
  refine Goes.st (fun t_ k_ => XS.dstore X16.here hx rfl (hb hby own_d_prog_154_1_37) rfl  (l' := #[.val (.ref a), .val (.ref xs), .val (.ref xs), .val (.int (2 : Int32)), .val (.int (1 : Int32)), .val (.double u2), .second]) rfl k_) ?_
  show Goes p e below s _ _ _ (T16.setTop (mkF m 39 #[.val (.ref a), .val (.ref xs), .val (.ref xs), .val (.int (2 : Int32)), .val (.int (1 : Int32)), .val (.double u2), .second] []))
  refine Goes.st (fun t_ k_ => XS.dload X16.here hx rfl (hb hby own_d_prog_154_1_39) rfl  k_) ?_
  show Goes p e below s _ _ _ (T16.setTop (mkF m 41 #[.val (.ref a), .val (.ref xs), .val (.ref xs), .val (.int (2 : Int32)), .val (.int (1 : Int32)), .val (.double u2), .second] [(.double u2)]))
  obtain ⟨_, _, ⟨T19, L19, k19, n19⟩, -, X19, ⟨Lc19, hQ19, l19, y19, z19⟩, st19⟩ := Jvm.LawKit.callS X16 hx (y := (⟨"java/lang/Double", "isFinite", "(D)Z"⟩ : MethodName)) hown (mvT hZ (hw _ (List.mem_of_getElem? (i := 51) rfl))) (mvT hZ (hw _ (List.mem_of_getElem? (i := 52) rfl))) (mvT hZ (hw _ (List.mem_of_getElem? (i := 53) rfl))) (mvT hZ (hw _ (List.mem_of_getElem? (i := 54) rfl))) (by decide) (backOf (W := 0) (own_rmF l Z a0 hw [] u2 h0 n0 Z0 f2) hZ (hw _ (List.mem_of_getElem? (i := 54) rfl)) (hw _ (List.mem_of_getElem? (i := 53) rfl)) (by decide) (by decide)) (g := (mkF m 41 #[.val (.ref a), .val (.ref xs), .val (.ref xs), .val (.int (2 : Int32)), .val (.int (1 : Int32)), .val (.double u2), .second] [(.double u2)])) rfl (by rw [hml]; rfl) (argsL := [(.double u2)]) (rest := []) (lenOf own_pd72 rfl) rfl (by show 2 * 0 + _ ≤ _; exact Nat.le_of_eq rfl) (hb hby own_d_prog_154_1_41) (fun _ _ => ⟨rfl, EQ1, (by decide : 0 + 0 ≤ _), (by decide : 0 + 0 ≤ _)⟩)
  dsimp only [Pt.U, Pt.locs, Pt.cells, Pt.slots] at X19 l19 y19 z19 st19 hQ19
  subst l19 y19 z19
  obtain ⟨rfl, N19q, EQ2⟩ := hQ19
  have N19 := Fr.app N16 N19q
  refine Goes.st st19 ?_
  show Goes p e below s _ _ _ (T19.setTop (mkF m 44 #[.val (.ref a), .val (.ref xs), .val (.ref xs), .val (.int (2 : Int32)), .val (.int (1 : Int32)), .val (.double u2), .second] [(.int (1 : Int32))]))
  refine Goes.st (fun t_ k_ => XS.ifYes X19.here hx rfl (pc0 := 44) (pc' := 62) rfl (hb hby own_d_prog_154_1_44) rfl ((if0 _ _).trans (feq (by decide)).2) (by decide) (by decide) k_) ?_
  show Goes p e below s _ _ _ (T19.setTop (mkF m 62 #[.val (.ref a), .val (.ref xs), .val (.ref xs), .val (.int (2 : Int32)), .val (.int (1 : Int32)), .val (.double u2), .second] []))
  refine Goes.st (fun t_ k_ => XS.iinc X19.here hx rfl (hb hby own_d_prog_154_1_62) rfl (l' := #[.val (.ref a), .val (.ref xs), .val (.ref xs), .val (.int (2 : Int32)), .val (.int ((1 : Int32) + (1 : Int32))), .val (.double u2), .second]) rfl k_) ?_
  show Goes p e below s _ _ _ (T19.setTop (mkF m 65 #[.val (.ref a), .val (.ref xs), .val (.ref xs), .val (.int (2 : Int32)), .val (.int ((1 : Int32) + (1 : Int32))), .val (.double u2), .second] []))
  have lit20 : ((1 : Int32) + (1 : Int32)) = (2 : Int32) := by decide
  rw [lit20]
  show Goes p e below s _ _ _ (T19.setTop (mkF m 65 #[.val (.ref a), .val (.ref xs), .val (.ref xs), .val (.int (2 : Int32)), .val (.int (2 : Int32)), .val (.double u2), .second] []))
  show Goes p e below s _ _ _ (T19.setTop (mkF m 65 #[.val (.ref a), .val (.ref xs), .val (.ref xs), .val (.int (2 : Int32)), .val (.int (2 : Int32)), .val (.double u2), .second] []))
  refine Goes.st (fun t_ k_ => XS.goto X19.here hx rfl (pc0 := 65) (pc' := 27) rfl (hb hby own_d_prog_154_1_65) (by decide) (by decide) k_) ?_
  show Goes p e below s _ _ _ (T19.setTop (mkF m 27 #[.val (.ref a), .val (.ref xs), .val (.ref xs), .val (.int (2 : Int32)), .val (.int (2 : Int32)), .val (.double u2), .second] []))
  refine Goes.st (fun t_ k_ => XS.iload X19.here hx rfl (hb hby own_d_prog_154_1_27) rfl  k_) ?_
  show Goes p e below s _ _ _ (T19.setTop (mkF m 29 #[.val (.ref a), .val (.ref xs), .val (.ref xs), .val (.int (2 : Int32)), .val (.int (2 : Int32)), .val (.double u2), .second] [(.int (2 : Int32))]))
  refine Goes.st (fun t_ k_ => XS.iloadN X19.here hx rfl (hb hby own_d_prog_154_1_29) rfl  k_) ?_
  show Goes p e below s _ _ _ (T19.setTop (mkF m 30 #[.val (.ref a), .val (.ref xs), .val (.ref xs), .val (.int (2 : Int32)), .val (.int (2 : Int32)), .val (.double u2), .second] [(.int (2 : Int32)), (.int (2 : Int32))]))
  refine Goes.st (fun t_ k_ => XS.icmpYes X19.here hx rfl (pc0 := 30) (pc' := 68) rfl (hb hby own_d_prog_154_1_30) rfl (flt (by decide)).2.1 (by decide) (by decide) k_) ?_
  show Goes p e below s _ _ _ (T19.setTop (mkF m 68 #[.val (.ref a), .val (.ref xs), .val (.ref xs), .val (.int (2 : Int32)), .val (.int (2 : Int32)), .val (.double u2), .second] []))
  refine Goes.st (fun t_ k_ => XS.aloadN X19.here hx rfl (hb hby own_d_prog_154_1_68) rfl rfl k_) ?_
  show Goes p e below s _ _ _ (T19.setTop (mkF m 69 #[.val (.ref a), .val (.ref xs), .val (.ref xs), .val (.int (2 : Int32)), .val (.int (2 : Int32)), .val (.double u2), .second] [(.ref a)]))
  refine Goes.st (fun t_ k_ => XS.aloadN X19.here hx rfl (hb hby own_d_prog_154_1_69) rfl rfl k_) ?_
  show Goes p e below s _ _ _ (T19.setTop (mkF m 70 #[.val (.ref a), .val (.ref xs), .val (.ref xs), .val (.int (2 : Int32)), .val (.int (2 : Int32)), .val (.double u2), .second] [(.ref xs), (.ref a)]))
  have VV21 := V_x
  obtain ⟨cl21, Ar21, -, S21, M21, H21, G21⟩ := VV21
  obtain ⟨T21, h21, X21, e21, E21, -, Ea21, st21⟩ := cloneA X19 hx hZ (ad := "[D") hown (hw _ (List.mem_of_getElem? (i := 60) rfl)) (hw _ (List.mem_of_getElem? (i := 61) rfl)) (hw _ (List.mem_of_getElem? (i := 65) rfl)) (hw _ (List.mem_of_getElem? (i := 63) rfl)) (hw _ (List.mem_of_getElem? (i := 64) rfl)) (hw _ (List.mem_of_getElem? (i := 66) rfl)) EQ2 Ar21 E_x (fitC_of Ar21 fun i hi v hv => by rw [H21 i hi] at hv; cases hv; exact G21 i hi) (g := (mkF m 70 #[.val (.ref a), .val (.ref xs), .val (.ref xs), .val (.int (2 : Int32)), .val (.int (2 : Int32)), .val (.double u2), .second] [(.ref xs), (.ref a)])) rfl (by rw [hml]; rfl) rfl (hb hby own_d_prog_154_1_70) (by decide) (W := 1) (cap := 2) (by show 2 * 0 + _ ≤ _; exact Nat.le_of_eq rfl) (by decide) (by rw [S21]; decide) (by decide) (by decide)
  obtain ⟨b21, g21⟩ : ∃ z, z = h0.size := ⟨_, rfl⟩
  rw [← g21] at Ea21 st21
  have ne_a_b21 : a ≠ b21 := Nat.ne_of_lt (Nat.lt_of_lt_of_le E_a.lt (Nat.le_of_eq g21.symm))
  have ne_xs_b21 : xs ≠ b21 := Nat.ne_of_lt (Nat.lt_of_lt_of_le E_x.lt (Nat.le_of_eq g21.symm))
  have gn_b21 : n0 ≤ b21 := Nat.le_trans Z0 (Nat.le_of_eq g21.symm)
  have kn_b21 : h0.size ≤ b21 := Nat.le_trans K0.1 (Nat.le_of_eq g21.symm)
  refine Goes.st st21 ?_
  have E_a := E_a.ext E21
  have F_c := F_c.ext E21
  have E_x := E_x.ext E21
  have V_x := V_x.ext E21
  have Z0' := Nat.le_trans Z0 E21.1
  have K0 := K0.ext E21
  have Ex_b21 := Ea21
  show Goes p e below s _ _ _ (T21.setTop (mkF m 73 #[.val (.ref a), .val (.ref xs), .val (.ref xs), .val (.int (2 : Int32)), .val (.int (2 : Int32)), .val (.double u2), .second] [(.ref b21), (.ref a)]))
  obtain ⟨T22, X22, e22, st22⟩ := castY X21 hx hZ hown (hw _ (List.mem_of_getElem? (i := 67) rfl)) e21 (Ins.self Ex_b21) (g := (mkF m 73 #[.val (.ref a), .val (.ref xs), .val (.ref xs), .val (.int (2 : Int32)), .val (.int (2 : Int32)), .val (.double u2), .second] [(.ref b21), (.ref a)])) rfl rfl (hb hby own_d_prog_154_1_73)
  refine Goes.st st22 ?_
  show Goes p e below s _ _ _ (T22.setTop (mkF m 76 #[.val (.ref a), .val (.ref xs), .val (.ref xs), .val (.int (2 : Int32)), .val (.int (2 : Int32)), .val (.double u2), .second] [(.ref b21), (.ref a)]))
  obtain ⟨T23, h23, X23, e23, W23, st23⟩ := putF X22 hx hZ hown (host := "") (Or.inl (hw _ (List.mem_of_getElem? (i := 69) rfl))) Via.refl e22 F_c E_a (Or.inr ⟨(hw _ (List.mem_of_getElem? (i := 70) rfl)), rfl, hnm⟩) (hw _ (List.mem_of_getElem? (i := 44) rfl)) (ty := (.array .double)) (by decide) rfl rfl (g := (mkF m 76 #[.val (.ref a), .val (.ref xs), .val (.ref xs), .val (.int (2 : Int32)), .val (.int (2 : Int32)), .val (.double u2), .second] [(.ref b21), (.ref a)])) rfl rfl (hb hby own_d_prog_154_1_76)
  refine Goes.st st23 ?_
  have E_a := E_a.wr W23
  have F_c := F_c.same W23
  have E_x := E_x.wr W23
  have V_x := V_x.other W23 (Ne.symm nax)
  have Ex_b21 := Ex_b21.wr W23
  have N23 := Fr.snoc X23 N19 g_a
  have Z0'' := Nat.le_trans Z0' (Keep.of_wr W23).1
  have K0 := K0.wr W23 (Or.inl (List.mem_of_getElem? (i := 0) rfl))
  show Goes p e below s _ _ _ (T23.setTop (mkF m 79 #[.val (.ref a), .val (.ref xs), .val (.ref xs), .val (.int (2 : Int32)), .val (.int (2 : Int32)), .val (.double u2), .second] []))
  rw [← e23] at K0
  exact Goes.ret0 X23 hx hret hlk (hb hby own_d_prog_154_1_79) (by decide) (by decide) (⟨rfl, N23, K0⟩)
theorem own_rmB_ef (m : MethodId) (a : Addr) (b : Addr) : entryFrame m #[(.ref a), (.ref b)] 2 = mkF m 0 #[.val (.ref a), .val (.ref b)] [] := by first | (simp [entryFrame, mkF, argsToLocals, Value.category]; done) | rfl
set_option maxRecDepth 65536 in
set_option maxHeartbeats 40000000 in
theorem own_rmB (l : Launch) (Z : State) (a0 : Array Value) (hw : ∀ d ∈ tables_1, d.before a0 Z = true) (ws : List Jvm.Cond) (a b : Addr) (h0 : Heap) (n0 : Nat) (Z0 : n0 ≤ h0.size)  :
    MetFree l (⟨"com/example/delaunet/delaunet/space/HyperbolicSpace", "chartBox", "(Lcom/example/delaunet/delaunet/space/VectorPoint;)[[D"⟩ : MethodName) (head1 (Jvm.Cond.code (⟨"com/example/delaunet/delaunet/space/HyperbolicSpace", "chartBox", "(Lcom/example/delaunet/delaunet/space/VectorPoint;)[[D"⟩ : MethodName) prog_139_method_7_code 2 (some (.array (.array .double))) :: ws) ({ frames := 0, cells := 3, slots := 6, locals := 0 } : Room)) (fun aa_ U => aa_ = #[(.ref a), (.ref b)] ∧ Z.Warmed39 U.vm ∧ U.heap = h0) (fun _ _ _ _ _ => True) (fun _ U oo_ U' => ∃ vv_ LL_, oo_ = .returned vv_ ∧ own_QB Z  h0 n0 vv_ U'.heap LL_ ∧ FrameEnd U oo_ U' LL_ ({ frames := 0, cells := 3, slots := 6, locals := 0 } : Room).cells ({ frames := 0, cells := 3, slots := 6, locals := 0 } : Room).slots) := by
  refine MetFree.of_bodySF (plainFor_of_name own_pn51) hisR ?_
  intro p e s m args below meth c s₁ Bd hml0 hP hK
  obtain ⟨rfl, hZ, hh⟩ := hP
  have hx := Bd.exec
  have hby := Bd.bytes
  have hml : c.maxLocals = 2 := hml0
  have hown : s.vm.findClass "com/example/delaunet/delaunet/space/HyperbolicSpace" = some m.cls := findClass_of_methodNamed Bd.named
  have hnm := (name_of_methodNamed Bd.named Bd.method).1
  have hlk := Bd.notSynchronized
  have hret := Bd.returns
  have X0 : Stand p l e ({ frames := 0, cells := 3, slots := 6, locals := 0 } : Room) s m #[(.ref a), (.ref b)] below meth c s₁ [] 0 0 := Stand.of_body Bd
  have e0 : s₁.heap = h0 := by rw [← hh, Bd.state]; rfl
  have N0 := Fr.nil n0
  show Goes p e below s (own_QB Z  h0 n0) ({ frames := 0, cells := 3, slots := 6, locals := 0 } : Room).cells ({ frames := 0, cells := 3, slots := 6, locals := 0 } : Room).slots _
  refine Goes.cast (own_rmB_ef m a b) ?_
  have K0 := Keep.refl h0 []
  show Goes p e below s _ _ _ (s₁.setTop (mkF m 0 #[.val (.ref a), .val (.ref b)] []))
  refine Goes.st (fun t_ k_ => XS.iconst X0.here hx rfl (hb hby own_d_prog_139_7_0) k_) ?_
  show Goes p e below s _ _ _ (s₁.setTop (mkF m 1 #[.val (.ref a), .val (.ref b)] [(.int (2 : Int32))]))
  obtain ⟨T24, h24, k24, X24, e24, E24, A24, Ea24, O24, st24⟩ := newRA X0 hx hZ hown (ty := .double) (by first | rfl | decide +kernel) (hw _ (List.mem_of_getElem? (i := 76) rfl)) (hw _ (List.mem_of_getElem? (i := 77) rfl)) e0 (g := (mkF m 1 #[.val (.ref a), .val (.ref b)] [(.int (2 : Int32))])) rfl (hb hby own_d_prog_139_7_1) rfl (by decide) (cap := 2) (by decide) (by decide) (by decide) (by decide) (ad := "[[D") (by first | rfl | decide +kernel)
  obtain ⟨b24, g24⟩ : ∃ z, z = h0.size := ⟨_, rfl⟩
  rw [← g24] at A24 st24 Ea24
  have gn_b24 : n0 ≤ b24 := Nat.le_trans Z0 (Nat.le_of_eq g24.symm)
  have kn_b24 : h0.size ≤ b24 := Nat.le_trans K0.1 (Nat.le_of_eq g24.symm)
  refine Goes.st st24 ?_
  have Z0' := Nat.le_trans Z0 E24.1
  have K0 := K0.ext E24
  have Ex_b24 := Ea24
  have V_b24 : Arv Z h24 b24 k24 (.array .double) (2 : Int32) [.null, .null] .null := (Arv.new A24 (by decide)).pad (pad_rep [] .null 2)
  show Goes p e below s _ _ _ (T24.setTop (mkF m 4 #[.val (.ref a), .val (.ref b)] [(.ref b24)]))
  show Goes p e below s _ _ _ (T24.setTop (mkF m 4 #[.val (.ref a), .val (.ref b)] [(.ref b24)]))
  refine Goes.st (fun t_ k_ => XS.dup X24.here hx rfl (hb hby own_d_prog_139_7_4) rfl rfl k_) ?_
  show Goes p e below s _ _ _ (T24.setTop (mkF m 5 #[.val (.ref a), .val (.ref b)] [(.ref b24), (.ref b24)]))
  refine Goes.st (fun t_ k_ => XS.iconst X24.here hx rfl (hb hby own_d_prog_139_7_5) k_) ?_
  show Goes p e below s _ _ _ (T24.setTop (mkF m 6 #[.val (.ref a), .val (.ref b)] [(.int (0 : Int32)), (.ref b24), (.ref b24)]))
  refine Goes.st (fun t_ k_ => XS.iconst X24.here hx rfl (hb hby own_d_prog_139_7_6) k_) ?_
  show Goes p e below s _ _ _ (T24.setTop (mkF m 7 #[.val (.ref a), .val (.ref b)] [(.int (2 : Int32)), (.int (0 : Int32)), (.ref b24), (.ref b24)]))
  obtain ⟨T25, h25, k25, X25, e25, E25, A25, Ea25, st25⟩ := newPE X24 hx hZ (hw _ (List.mem_of_getElem? (i := 46) rfl)) e24 (g := (mkF m 7 #[.val (.ref a), .val (.ref b)] [(.int (2 : Int32)), (.int (0 : Int32)), (.ref b24), (.ref b24)])) rfl (hb hby own_d_prog_139_7_7) rfl (by decide) (cap := 2) (by decide) (by decide) (by decide) (by decide) (ad := "[D") (by first | rfl | decide +kernel)
  obtain ⟨b25, g25⟩ : ∃ z, z = h24.size := ⟨_, rfl⟩
  rw [← g25] at A25 st25 Ea25
  have ne_b24_b25 : b24 ≠ b25 := Nat.ne_of_lt (Nat.lt_of_lt_of_le Ex_b24.lt (Nat.le_of_eq g25.symm))
  have gn_b25 : n0 ≤ b25 := Nat.le_trans Z0' (Nat.le_of_eq g25.symm)
  have kn_b25 : h0.size ≤ b25 := Nat.le_trans K0.1 (Nat.le_of_eq g25.symm)
  refine Goes.st st25 ?_
  have Ex_b24 := Ex_b24.ext E25
  have V_b24 := V_b24.ext E25
  have Z0'' := Nat.le_trans Z0' E25.1
  have K0 := K0.ext E25
  have Ex_b25 := Ea25
  have V_b25 : Arv Z h25 b25 k25 .double (2 : Int32) [(.double (0 : UInt64)), (.double (0 : UInt64))] (.double (0 : UInt64)) := (Arv.new A25 (by decide)).pad (pad_rep [] (.double (0 : UInt64)) 2)
  show Goes p e below s _ _ _ (T25.setTop (mkF m 9 #[.val (.ref a), .val (.ref b)] [(.ref b25), (.int (0 : Int32)), (.ref b24), (.ref b24)]))
  show Goes p e below s _ _ _ (T25.setTop (mkF m 9 #[.val (.ref a), .val (.ref b)] [(.ref b25), (.int (0 : Int32)), (.ref b24), (.ref b24)]))
  refine Goes.st (fun t_ k_ => XS.dup X25.here hx rfl (hb hby own_d_prog_139_7_9) rfl rfl k_) ?_
  show Goes p e below s _ _ _ (T25.setTop (mkF m 10 #[.val (.ref a), .val (.ref b)] [(.ref b25), (.ref b25), (.int (0 : Int32)), (.ref b24), (.ref b24)]))
  refine Goes.st (fun t_ k_ => XS.iconst X25.here hx rfl (hb hby own_d_prog_139_7_10) k_) ?_
  show Goes p e below s _ _ _ (T25.setTop (mkF m 11 #[.val (.ref a), .val (.ref b)] [(.int (0 : Int32)), (.ref b25), (.ref b25), (.int (0 : Int32)), (.ref b24), (.ref b24)]))
  refine Goes.st (fun t_ k_ => X25.ldc2DoubleC hx hown (mvT hZ (hw _ (List.mem_of_getElem? (i := 78) rfl))) (g := (mkF m 11 #[.val (.ref a), .val (.ref b)] [(.int (0 : Int32)), (.ref b25), (.ref b25), (.int (0 : Int32)), (.ref b24), (.ref b24)])) rfl (hb hby own_d_prog_139_7_11) _ k_) ?_
  show Goes p e below s _ _ _ (T25.setTop (mkF m 14 #[.val (.ref a), .val (.ref b)] [(.double (13830554455654793216 : UInt64)), (.int (0 : Int32)), (.ref b25), (.ref b25), (.int (0 : Int32)), (.ref b24), (.ref b24)]))
  obtain ⟨cl26, Ar26, q26, S26, M26, H26, G26⟩ := V_b25
  obtain ⟨T26, h26, X26, e26, W26, st26⟩ := stD X25 hx hZ e25 Ar26 (j := (0 : Int32)) (inb_of S26 ⟨by decide, by decide⟩) (g := (mkF m 14 #[.val (.ref a), .val (.ref b)] [(.double (13830554455654793216 : UInt64)), (.int (0 : Int32)), (.ref b25), (.ref b25), (.int (0 : Int32)), (.ref b24), (.ref b24)])) rfl rfl (hb hby own_d_prog_139_7_14)
  have V_b25 := Arv.set Ar26 q26 S26 M26 H26 G26 rfl W26 0 rfl (Nat.le_of_ble_eq_true rfl)
  refine Goes.st st26 ?_
  have V_b25 : Arv Z h26 b25 k25 .double (2 : Int32) [(.double (13830554455654793216 : UInt64)), (.double (0 : UInt64))] (.double (0 : UInt64)) := V_b25
  have Ex_b24 := Ex_b24.wr W26
  have V_b24 := V_b24.other W26 ne_b24_b25
  have Ex_b25 := Ex_b25.wr W26
  have N26 := Fr.snoc X26 N0 gn_b25
  have Z0''' := Nat.le_trans Z0'' (Keep.of_wr W26).1
  have K0 := K0.wr W26 (Or.inr kn_b25)
  show Goes p e below s _ _ _ (T26.setTop (mkF m 15 #[.val (.ref a), .val (.ref b)] [(.ref b25), (.int (0 : Int32)), (.ref b24), (.ref b24)]))
  refine Goes.st (fun t_ k_ => XS.dup X26.here hx rfl (hb hby own_d_prog_139_7_15) rfl rfl k_) ?_
  show Goes p e below s _ _ _ (T26.setTop (mkF m 16 #[.val (.ref a), .val (.ref b)] [(.ref b25), (.ref b25), (.int (0 : Int32)), (.ref b24), (.ref b24)]))
  refine Goes.st (fun t_ k_ => XS.iconst X26.here hx rfl (hb hby own_d_prog_139_7_16) k_) ?_
  show Goes p e below s _ _ _ (T26.setTop (mkF m 17 #[.val (.ref a), .val (.ref b)] [(.int (1 : Int32)), (.ref b25), (.ref b25), (.int (0 : Int32)), (.ref b24), (.ref b24)]))
  refine Goes.st (fun t_ k_ => X26.ldc2DoubleC hx hown (mvT hZ (hw _ (List.mem_of_getElem? (i := 78) rfl))) (g := (mkF m 17 #[.val (.ref a), .val (.ref b)] [(.int (1 : Int32)), (.ref b25), (.ref b25), (.int (0 : Int32)), (.ref b24), (.ref b24)])) rfl (hb hby own_d_prog_139_7_17) _ k_) ?_
  show Goes p e below s _ _ _ (T26.setTop (mkF m 20 #[.val (.ref a), .val (.ref b)] [(.double (13830554455654793216 : UInt64)), (.int (1 : Int32)), (.ref b25), (.ref b25), (.int (0 : Int32)), (.ref b24), (.ref b24)]))
  obtain ⟨cl27, Ar27, q27, S27, M27, H27, G27⟩ := V_b25
  obtain ⟨T27, h27, X27, e27, W27, st27⟩ := stD X26 hx hZ e26 Ar27 (j := (1 : Int32)) (inb_of S27 ⟨by decide, by decide⟩) (g := (mkF m 20 #[.val (.ref a), .val (.ref b)] [(.double (13830554455654793216 : UInt64)), (.int (1 : Int32)), (.ref b25), (.ref b25), (.int (0 : Int32)), (.ref b24), (.ref b24)])) rfl rfl (hb hby own_d_prog_139_7_20)
  have V_b25 := Arv.set Ar27 q27 S27 M27 H27 G27 rfl W27 1 rfl (Nat.le_of_ble_eq_true rfl)
  refine Goes.st st27 ?_
  have V_b25 : Arv Z h27 b25 k25 .double (2 : Int32) [(.double (13830554455654793216 : UInt64)), (.double (13830554455654793216 : UInt64))] (.double (0 : UInt64)) := V_b25
  have Ex_b24 := Ex_b24.wr W27
  have V_b24 := V_b24.other W27 ne_b24_b25
  have Ex_b25 := Ex_b25.wr W27
  have N27 := Fr.snoc X27 N26 gn_b25
  have Z0'''' := Nat.le_trans Z0''' (Keep.of_wr W27).1
  have K0 := K0.wr W27 (Or.inr kn_b25)
  show Goes p e below s _ _ _ (T27.setTop (mkF m 21 #[.val (.ref a), .val (.ref b)] [(.ref b25), (.int (0 : Int32)), (.ref b24), (.ref b24)]))
  obtain ⟨cl28, Ar28, q28, S28, M28, H28, G28⟩ := V_b24
  obtain ⟨T28, h28, X28, e28, W28, st28⟩ := stR X27 hx hZ e27 Ar28 (j := (0 : Int32)) (inb_of S28 ⟨by decide, by decide⟩) rfl (Sto.ofVA Ar28 q28 O24 (Ins.self Ex_b25)) (g := (mkF m 21 #[.val (.ref a), .val (.ref b)] [(.ref b25), (.int (0 : Int32)), (.ref b24), (.ref b24)])) rfl rfl (hb hby own_d_prog_139_7_21)
  have V_b24 := Arv.set Ar28 q28 S28 M28 H28 G28 rfl W28 0 rfl (Nat.le_of_ble_eq_true rfl)
  refine Goes.st st28 ?_
  have V_b24 : Arv Z h28 b24 k24 (.array .double) (2 : Int32) [(.ref b25), .null] .null := V_b24
  have Ex_b24 := Ex_b24.wr W28
  have Ex_b25 := Ex_b25.wr W28
  have V_b25 := V_b25.other W28 (Ne.symm ne_b24_b25)
  have N28 := Fr.snoc X28 N27 gn_b24
  have Z0''''' := Nat.le_trans Z0'''' (Keep.of_wr W28).1
  have K0 := K0.wr W28 (Or.inr kn_b24)
  show Goes p e below s _ _ _ (T28.setTop (mkF m 22 #[.val (.ref a), .val (.ref b)] [(.ref b24)]))
  refine Goes.st (fun t_ k_ => XS.dup X28.here hx rfl (hb hby own_d_prog_139_7_22) rfl rfl k_) ?_
  show Goes p e below s _ _ _ (T28.setTop (mkF m 23 #[.val (.ref a), .val (.ref b)] [(.ref b24), (.ref b24)]))
  refine Goes.st (fun t_ k_ => XS.iconst X28.here hx rfl (hb hby own_d_prog_139_7_23) k_) ?_
  show Goes p e below s _ _ _ (T28.setTop (mkF m 24 #[.val (.ref a), .val (.ref b)] [(.int (1 : Int32)), (.ref b24), (.ref b24)]))
  refine Goes.st (fun t_ k_ => XS.iconst X28.here hx rfl (hb hby own_d_prog_139_7_24) k_) ?_
  show Goes p e below s _ _ _ (T28.setTop (mkF m 25 #[.val (.ref a), .val (.ref b)] [(.int (2 : Int32)), (.int (1 : Int32)), (.ref b24), (.ref b24)]))
  obtain ⟨T29, h29, k29, X29, e29, E29, A29, Ea29, st29⟩ := newPE X28 hx hZ (hw _ (List.mem_of_getElem? (i := 46) rfl)) e28 (g := (mkF m 25 #[.val (.ref a), .val (.ref b)] [(.int (2 : Int32)), (.int (1 : Int32)), (.ref b24), (.ref b24)])) rfl (hb hby own_d_prog_139_7_25) rfl (by decide) (cap := 2) (by decide) (by decide) (by decide) (by decide) (ad := "[D") (by first | rfl | decide +kernel)
  obtain ⟨b29, g29⟩ : ∃ z, z = h28.size := ⟨_, rfl⟩
  rw [← g29] at A29 st29 Ea29
  have ne_b24_b29 : b24 ≠ b29 := Nat.ne_of_lt (Nat.lt_of_lt_of_le Ex_b24.lt (Nat.le_of_eq g29.symm))
  have ne_b25_b29 : b25 ≠ b29 := Nat.ne_of_lt (Nat.lt_of_lt_of_le Ex_b25.lt (Nat.le_of_eq g29.symm))
  have gn_b29 : n0 ≤ b29 := Nat.le_trans Z0''''' (Nat.le_of_eq g29.symm)
  have kn_b29 : h0.size ≤ b29 := Nat.le_trans K0.1 (Nat.le_of_eq g29.symm)
  refine Goes.st st29 ?_
  have Ex_b24 := Ex_b24.ext E29
  have Ex_b25 := Ex_b25.ext E29
  have V_b25 := V_b25.ext E29
  have V_b24 := V_b24.ext E29
  have Z0'''''' := Nat.le_trans Z0''''' E29.1
  have K0 := K0.ext E29
  have Ex_b29 := Ea29
  have V_b29 : Arv Z h29 b29 k29 .double (2 : Int32) [(.double (0 : UInt64)), (.double (0 : UInt64))] (.double (0 : UInt64)) := (Arv.new A29 (by decide)).pad (pad_rep [] (.double (0 : UInt64)) 2)
  show Goes p e below s _ _ _ (T29.setTop (mkF m 27 #[.val (.ref a), .val (.ref b)] [(.ref b29), (.int (1 : Int32)), (.ref b24), (.ref b24)]))
  show Goes p e below s _ _ _ (T29.setTop (mkF m 27 #[.val (.ref a), .val (.ref b)] [(.ref b29), (.int (1 : Int32)), (.ref b24), (.ref b24)]))
  refine Goes.st (fun t_ k_ => XS.dup X29.here hx rfl (hb hby own_d_prog_139_7_27) rfl rfl k_) ?_
  show Goes p e below s _ _ _ (T29.setTop (mkF m 28 #[.val (.ref a), .val (.ref b)] [(.ref b29), (.ref b29), (.int (1 : Int32)), (.ref b24), (.ref b24)]))
  refine Goes.st (fun t_ k_ => XS.iconst X29.here hx rfl (hb hby own_d_prog_139_7_28) k_) ?_
  show Goes p e below s _ _ _ (T29.setTop (mkF m 29 #[.val (.ref a), .val (.ref b)] [(.int (0 : Int32)), (.ref b29), (.ref b29), (.int (1 : Int32)), (.ref b24), (.ref b24)]))
  refine Goes.st (fun t_ k_ => XS.dconst1 X29.here hx rfl (hb hby own_d_prog_139_7_29) (by first | rfl | decide +kernel) k_) ?_
  show Goes p e below s _ _ _ (T29.setTop (mkF m 30 #[.val (.ref a), .val (.ref b)] [(.double (4607182418800017408 : UInt64)), (.int (0 : Int32)), (.ref b29), (.ref b29), (.int (1 : Int32)), (.ref b24), (.ref b24)]))
  obtain ⟨cl30, Ar30, q30, S30, M30, H30, G30⟩ := V_b29
  obtain ⟨T30, h30, X30, e30, W30, st30⟩ := stD X29 hx hZ e29 Ar30 (j := (0 : Int32)) (inb_of S30 ⟨by decide, by decide⟩) (g := (mkF m 30 #[.val (.ref a), .val (.ref b)] [(.double (4607182418800017408 : UInt64)), (.int (0 : Int32)), (.ref b29), (.ref b29), (.int (1 : Int32)), (.ref b24), (.ref b24)])) rfl rfl (hb hby own_d_prog_139_7_30)
  have V_b29 := Arv.set Ar30 q30 S30 M30 H30 G30 rfl W30 0 rfl (Nat.le_of_ble_eq_true rfl)
  refine Goes.st st30 ?_
  have V_b29 : Arv Z h30 b29 k29 .double (2 : Int32) [(.double (4607182418800017408 : UInt64)), (.double (0 : UInt64))] (.double (0 : UInt64)) := V_b29
  have Ex_b24 := Ex_b24.wr W30
  have Ex_b25 := Ex_b25.wr W30
  have V_b25 := V_b25.other W30 ne_b25_b29
  have V_b24 := V_b24.other W30 ne_b24_b29
  have Ex_b29 := Ex_b29.wr W30
  have N30 := Fr.snoc X30 N28 gn_b29
  have Z0''''''' := Nat.le_trans Z0'''''' (Keep.of_wr W30).1
  have K0 := K0.wr W30 (Or.inr kn_b29)
  show Goes p e below s _ _ _ (T30.setTop (mkF m 31 #[.val (.ref a), .val (.ref b)] [(.ref b29), (.int (1 : Int32)), (.ref b24), (.ref b24)]))
  refine Goes.st (fun t_ k_ => XS.dup X30.here hx rfl (hb hby own_d_prog_139_7_31) rfl rfl k_) ?_
  show Goes p e below s _ _ _ (T30.setTop (mkF m 32 #[.val (.ref a), .val (.ref b)] [(.ref b29), (.ref b29), (.int (1 : Int32)), (.ref b24), (.ref b24)]))
  refine Goes.st (fun t_ k_ => XS.iconst X30.here hx rfl (hb hby own_d_prog_139_7_32) k_) ?_
  show Goes p e below s _ _ _ (T30.setTop (mkF m 33 #[.val (.ref a), .val (.ref b)] [(.int (1 : Int32)), (.ref b29), (.ref b29), (.int (1 : Int32)), (.ref b24), (.ref b24)]))
  refine Goes.st (fun t_ k_ => XS.dconst1 X30.here hx rfl (hb hby own_d_prog_139_7_33) (by first | rfl | decide +kernel) k_) ?_
  show Goes p e below s _ _ _ (T30.setTop (mkF m 34 #[.val (.ref a), .val (.ref b)] [(.double (4607182418800017408 : UInt64)), (.int (1 : Int32)), (.ref b29), (.ref b29), (.int (1 : Int32)), (.ref b24), (.ref b24)]))
  obtain ⟨cl31, Ar31, q31, S31, M31, H31, G31⟩ := V_b29
  obtain ⟨T31, h31, X31, e31, W31, st31⟩ := stD X30 hx hZ e30 Ar31 (j := (1 : Int32)) (inb_of S31 ⟨by decide, by decide⟩) (g := (mkF m 34 #[.val (.ref a), .val (.ref b)] [(.double (4607182418800017408 : UInt64)), (.int (1 : Int32)), (.ref b29), (.ref b29), (.int (1 : Int32)), (.ref b24), (.ref b24)])) rfl rfl (hb hby own_d_prog_139_7_34)
  have V_b29 := Arv.set Ar31 q31 S31 M31 H31 G31 rfl W31 1 rfl (Nat.le_of_ble_eq_true rfl)
  refine Goes.st st31 ?_
  have V_b29 : Arv Z h31 b29 k29 .double (2 : Int32) [(.double (4607182418800017408 : UInt64)), (.double (4607182418800017408 : UInt64))] (.double (0 : UInt64)) := V_b29
  have Ex_b24 := Ex_b24.wr W31
  have Ex_b25 := Ex_b25.wr W31
  have V_b25 := V_b25.other W31 ne_b25_b29
  have V_b24 := V_b24.other W31 ne_b24_b29
  have Ex_b29 := Ex_b29.wr W31
  have N31 := Fr.snoc X31 N30 gn_b29
  have Z0'''''''' := Nat.le_trans Z0''''''' (Keep.of_wr W31).1
  have K0 := K0.wr W31 (Or.inr kn_b29)
  show Goes p e below s _ _ _ (T31.setTop (mkF m 35 #[.val (.ref a), .val (.ref b)] [(.ref b29), (.int (1 : Int32)), (.ref b24), (.ref b24)]))
  obtain ⟨cl32, Ar32, q32, S32, M32, H32, G32⟩ := V_b24
  obtain ⟨T32, h32, X32, e32, W32, st32⟩ := stR X31 hx hZ e31 Ar32 (j := (1 : Int32)) (inb_of S32 ⟨by decide, by decide⟩) rfl (Sto.ofVA Ar32 q32 O24 (Ins.self Ex_b29)) (g := (mkF m 35 #[.val (.ref a), .val (.ref b)] [(.ref b29), (.int (1 : Int32)), (.ref b24), (.ref b24)])) rfl rfl (hb hby own_d_prog_139_7_35)
  have V_b24 := Arv.set Ar32 q32 S32 M32 H32 G32 rfl W32 1 rfl (Nat.le_of_ble_eq_true rfl)
  refine Goes.st st32 ?_
  have V_b24 : Arv Z h32 b24 k24 (.array .double) (2 : Int32) [(.ref b25), (.ref b29)] .null := V_b24
  have Ex_b24 := Ex_b24.wr W32
  have Ex_b25 := Ex_b25.wr W32
  have V_b25 := V_b25.other W32 (Ne.symm ne_b24_b25)
  have Ex_b29 := Ex_b29.wr W32
  have V_b29 := V_b29.other W32 (Ne.symm ne_b24_b29)
  have N32 := Fr.snoc X32 N31 gn_b24
  have Z0''''''''' := Nat.le_trans Z0'''''''' (Keep.of_wr W32).1
  have K0 := K0.wr W32 (Or.inr kn_b24)
  show Goes p e below s _ _ _ (T32.setTop (mkF m 36 #[.val (.ref a), .val (.ref b)] [(.ref b24)]))
  rw [← e32] at K0 V_b24 V_b25 V_b29
  exact Goes.retO X32 hx hret hlk rfl (Or.inr (Or.inr (Or.inr (Or.inr ⟨rfl, rfl, rfl⟩)))) (hb hby own_d_prog_139_7_36) (by decide) (by decide) (⟨b24, rfl, N32, K0, b25, b29, _, _, _, ⟨V_b24, V_b25, V_b29⟩, kn_b24, kn_b25, kn_b29, ne_b24_b25, ne_b24_b29, ne_b25_b29⟩)
theorem own_rmS_ef (m : MethodId) (x : Addr) : entryFrame m #[(.ref x)] 1 = mkF m 0 #[.val (.ref x)] [] := by first | (simp [entryFrame, mkF, argsToLocals, Value.category]; done) | rfl
set_option maxRecDepth 65536 in
set_option maxHeartbeats 40000000 in
theorem own_rmS (l : Launch) (Z : State) (a0 : Array Value) (hw : ∀ d ∈ tables_1, d.before a0 Z = true) (ws : List Jvm.Cond) (x r0 r1 : Addr) (kx_ k0_ k1_ : ClassId) (h0 : Heap) (n0 : Nat) (Z0 : n0 ≤ h0.size) (HB : own_box Z h0 x r0 r1 kx_ k0_ k1_) :
    MetFree l (⟨"com/example/delaunet/delaunet/space/HyperbolicSpaceChartBoxPinLaw", "isSquareShape", "([[D)Z"⟩ : MethodName) (head1 (Jvm.Cond.code (⟨"com/example/delaunet/delaunet/space/HyperbolicSpaceChartBoxPinLaw", "isSquareShape", "([[D)Z"⟩ : MethodName) method_2_code 1 (some .boolean) :: ws) ({ frames := 0, cells := 0, slots := 0, locals := 0 } : Room)) (fun aa_ U => aa_ = #[(.ref x)] ∧ Z.Warmed39 U.vm ∧ U.heap = h0) (fun _ _ _ _ _ => True) (fun _ U oo_ U' => ∃ vv_ LL_, oo_ = .returned vv_ ∧ own_QV Z (.int 1) h0 n0 vv_ U'.heap LL_ ∧ FrameEnd U oo_ U' LL_ ({ frames := 0, cells := 0, slots := 0, locals := 0 } : Room).cells ({ frames := 0, cells := 0, slots := 0, locals := 0 } : Room).slots) := by
  refine MetFree.of_bodySF (plainFor_of_name own_pn142) hisR ?_
  intro p e s m args below meth c s₁ Bd hml0 hP hK
  obtain ⟨rfl, hZ, hh⟩ := hP
  have hx := Bd.exec
  have hby := Bd.bytes
  have hml : c.maxLocals = 1 := hml0
  have hown : s.vm.findClass "com/example/delaunet/delaunet/space/HyperbolicSpaceChartBoxPinLaw" = some m.cls := findClass_of_methodNamed Bd.named
  have hnm := (name_of_methodNamed Bd.named Bd.method).1
  have hlk := Bd.notSynchronized
  have hret := Bd.returns
  have X0 : Stand p l e ({ frames := 0, cells := 0, slots := 0, locals := 0 } : Room) s m #[(.ref x)] below meth c s₁ [] 0 0 := Stand.of_body Bd
  have e0 : s₁.heap = h0 := by rw [← hh, Bd.state]; rfl
  have N0 := Fr.nil n0
  show Goes p e below s (own_QV Z (.int 1) h0 n0) ({ frames := 0, cells := 0, slots := 0, locals := 0 } : Room).cells ({ frames := 0, cells := 0, slots := 0, locals := 0 } : Room).slots _
  refine Goes.cast (own_rmS_ef m x) ?_
  obtain ⟨V_x, V_r0, V_r1⟩ := HB
  show Goes p e below s _ _ _ (s₁.setTop (mkF m 0 #[.val (.ref x)] []))
  refine Goes.st (fun t_ k_ => XS.aloadN X0.here hx rfl (hb hby own_d_method_2_0) rfl rfl k_) ?_
  show Goes p e below s _ _ _ (s₁.setTop (mkF m 1 #[.val (.ref x)] [(.ref x)]))
  refine Goes.st (fun t_ k_ => XS.ifnullNo X0.here hx rfl (hb hby own_d_method_2_1) rfl k_) ?_
  show Goes p e below s _ _ _ (s₁.setTop (mkF m 4 #[.val (.ref x)] []))
  refine Goes.st (fun t_ k_ => XS.aloadN X0.here hx rfl (hb hby own_d_method_2_4) rfl rfl k_) ?_
  show Goes p e below s _ _ _ (s₁.setTop (mkF m 5 #[.val (.ref x)] [(.ref x)]))
  have VV33 := V_x
  obtain ⟨cl33, Ar33, -, S33, M33, -, -⟩ := VV33
  refine Goes.st (fun t_ k_ => X0.arraylength hx (by rw [e0]; exact Ar33.1) (State.isArrayOf_alike hZ.alike Ar33.2.1) (g := (mkF m 5 #[.val (.ref x)] [(.ref x)])) rfl rfl (hb hby own_d_method_2_5) _ k_) ?_
  rw [len_of S33 M33]
  show Goes p e below s _ _ _ (s₁.setTop (mkF m 6 #[.val (.ref x)] [(.int (2 : Int32))]))
  refine Goes.st (fun t_ k_ => XS.iconst X0.here hx rfl (hb hby own_d_method_2_6) k_) ?_
  show Goes p e below s _ _ _ (s₁.setTop (mkF m 7 #[.val (.ref x)] [(.int (2 : Int32)), (.int (2 : Int32))]))
  refine Goes.st (fun t_ k_ => XS.icmpNo X0.here hx rfl (hb hby own_d_method_2_7) rfl (teq (by decide)).2 k_) ?_
  show Goes p e below s _ _ _ (s₁.setTop (mkF m 10 #[.val (.ref x)] []))
  refine Goes.st (fun t_ k_ => XS.aloadN X0.here hx rfl (hb hby own_d_method_2_10) rfl rfl k_) ?_
  show Goes p e below s _ _ _ (s₁.setTop (mkF m 11 #[.val (.ref x)] [(.ref x)]))
  refine Goes.st (fun t_ k_ => XS.iconst X0.here hx rfl (hb hby own_d_method_2_11) k_) ?_
  show Goes p e below s _ _ _ (s₁.setTop (mkF m 12 #[.val (.ref x)] [(.int (0 : Int32)), (.ref x)]))
  have VV34 := V_x
  obtain ⟨cl34, Ar34, -, S34, M34, H34, -⟩ := VV34
  have hin34 := inb_of S34 (j := (0 : Int32)) ⟨by decide, by decide⟩
  refine Goes.st (fun t_ k_ => X0.aaload hx (j := (0 : Int32)) (v := (.ref r0)) (by rw [e0]; exact Ar34.1) (State.isArrayOf_alike hZ.alike Ar34.2.1) rfl Ar34.2.2 hin34 (Has.at H34 hin34 rfl) (g := (mkF m 12 #[.val (.ref x)] [(.int (0 : Int32)), (.ref x)])) rfl rfl (hb hby own_d_method_2_12) _ k_) ?_
  show Goes p e below s _ _ _ (s₁.setTop (mkF m 13 #[.val (.ref x)] [(.ref r0)]))
  refine Goes.st (fun t_ k_ => XS.ifnullNo X0.here hx rfl (hb hby own_d_method_2_13) rfl k_) ?_
  show Goes p e below s _ _ _ (s₁.setTop (mkF m 16 #[.val (.ref x)] []))
  refine Goes.st (fun t_ k_ => XS.aloadN X0.here hx rfl (hb hby own_d_method_2_16) rfl rfl k_) ?_
  show Goes p e below s _ _ _ (s₁.setTop (mkF m 17 #[.val (.ref x)] [(.ref x)]))
  refine Goes.st (fun t_ k_ => XS.iconst X0.here hx rfl (hb hby own_d_method_2_17) k_) ?_
  show Goes p e below s _ _ _ (s₁.setTop (mkF m 18 #[.val (.ref x)] [(.int (1 : Int32)), (.ref x)]))
  have VV35 := V_x
  obtain ⟨cl35, Ar35, -, S35, M35, H35, -⟩ := VV35
  have hin35 := inb_of S35 (j := (1 : Int32)) ⟨by decide, by decide⟩
  refine Goes.st (fun t_ k_ => X0.aaload hx (j := (1 : Int32)) (v := (.ref r1)) (by rw [e0]; exact Ar35.1) (State.isArrayOf_alike hZ.alike Ar35.2.1) rfl Ar35.2.2 hin35 (Has.at H35 hin35 rfl) (g := (mkF m 18 #[.val (.ref x)] [(.int (1 : Int32)), (.ref x)])) rfl rfl (hb hby own_d_method_2_18) _ k_) ?_
  show Goes p e below s _ _ _ (s₁.setTop (mkF m 19 #[.val (.ref x)] [(.ref r1)]))
  refine Goes.st (fun t_ k_ => XS.ifnullNo X0.here hx rfl (hb hby own_d_method_2_19) rfl k_) ?_
  show Goes p e below s _ _ _ (s₁.setTop (mkF m 22 #[.val (.ref x)] []))
  refine Goes.st (fun t_ k_ => XS.aloadN X0.here hx rfl (hb hby own_d_method_2_22) rfl rfl k_) ?_
  show Goes p e below s _ _ _ (s₁.setTop (mkF m 23 #[.val (.ref x)] [(.ref x)]))
  refine Goes.st (fun t_ k_ => XS.iconst X0.here hx rfl (hb hby own_d_method_2_23) k_) ?_
  show Goes p e below s _ _ _ (s₁.setTop (mkF m 24 #[.val (.ref x)] [(.int (0 : Int32)), (.ref x)]))
  have VV36 := V_x
  obtain ⟨cl36, Ar36, -, S36, M36, H36, -⟩ := VV36
  have hin36 := inb_of S36 (j := (0 : Int32)) ⟨by decide, by decide⟩
  refine Goes.st (fun t_ k_ => X0.aaload hx (j := (0 : Int32)) (v := (.ref r0)) (by rw [e0]; exact Ar36.1) (State.isArrayOf_alike hZ.alike Ar36.2.1) rfl Ar36.2.2 hin36 (Has.at H36 hin36 rfl) (g := (mkF m 24 #[.val (.ref x)] [(.int (0 : Int32)), (.ref x)])) rfl rfl (hb hby own_d_method_2_24) _ k_) ?_
  show Goes p e below s _ _ _ (s₁.setTop (mkF m 25 #[.val (.ref x)] [(.ref r0)]))
  have VV37 := V_r0
  obtain ⟨cl37, Ar37, -, S37, M37, -, -⟩ := VV37
  refine Goes.st (fun t_ k_ => X0.arraylength hx (by rw [e0]; exact Ar37.1) (State.isArrayOf_alike hZ.alike Ar37.2.1) (g := (mkF m 25 #[.val (.ref x)] [(.ref r0)])) rfl rfl (hb hby own_d_method_2_25) _ k_) ?_
  rw [len_of S37 M37]
  show Goes p e below s _ _ _ (s₁.setTop (mkF m 26 #[.val (.ref x)] [(.int (2 : Int32))]))
  refine Goes.st (fun t_ k_ => XS.iconst X0.here hx rfl (hb hby own_d_method_2_26) k_) ?_
  show Goes p e below s _ _ _ (s₁.setTop (mkF m 27 #[.val (.ref x)] [(.int (2 : Int32)), (.int (2 : Int32))]))
  refine Goes.st (fun t_ k_ => XS.icmpNo X0.here hx rfl (hb hby own_d_method_2_27) rfl (teq (by decide)).2 k_) ?_
  show Goes p e below s _ _ _ (s₁.setTop (mkF m 30 #[.val (.ref x)] []))
  refine Goes.st (fun t_ k_ => XS.aloadN X0.here hx rfl (hb hby own_d_method_2_30) rfl rfl k_) ?_
  show Goes p e below s _ _ _ (s₁.setTop (mkF m 31 #[.val (.ref x)] [(.ref x)]))
  refine Goes.st (fun t_ k_ => XS.iconst X0.here hx rfl (hb hby own_d_method_2_31) k_) ?_
  show Goes p e below s _ _ _ (s₁.setTop (mkF m 32 #[.val (.ref x)] [(.int (1 : Int32)), (.ref x)]))
  have VV38 := V_x
  obtain ⟨cl38, Ar38, -, S38, M38, H38, -⟩ := VV38
  have hin38 := inb_of S38 (j := (1 : Int32)) ⟨by decide, by decide⟩
  refine Goes.st (fun t_ k_ => X0.aaload hx (j := (1 : Int32)) (v := (.ref r1)) (by rw [e0]; exact Ar38.1) (State.isArrayOf_alike hZ.alike Ar38.2.1) rfl Ar38.2.2 hin38 (Has.at H38 hin38 rfl) (g := (mkF m 32 #[.val (.ref x)] [(.int (1 : Int32)), (.ref x)])) rfl rfl (hb hby own_d_method_2_32) _ k_) ?_
  show Goes p e below s _ _ _ (s₁.setTop (mkF m 33 #[.val (.ref x)] [(.ref r1)]))
  have VV39 := V_r1
  obtain ⟨cl39, Ar39, -, S39, M39, -, -⟩ := VV39
  refine Goes.st (fun t_ k_ => X0.arraylength hx (by rw [e0]; exact Ar39.1) (State.isArrayOf_alike hZ.alike Ar39.2.1) (g := (mkF m 33 #[.val (.ref x)] [(.ref r1)])) rfl rfl (hb hby own_d_method_2_33) _ k_) ?_
  rw [len_of S39 M39]
  show Goes p e below s _ _ _ (s₁.setTop (mkF m 34 #[.val (.ref x)] [(.int (2 : Int32))]))
  refine Goes.st (fun t_ k_ => XS.iconst X0.here hx rfl (hb hby own_d_method_2_34) k_) ?_
  show Goes p e below s _ _ _ (s₁.setTop (mkF m 35 #[.val (.ref x)] [(.int (2 : Int32)), (.int (2 : Int32))]))
  refine Goes.st (fun t_ k_ => XS.icmpNo X0.here hx rfl (hb hby own_d_method_2_35) rfl (teq (by decide)).2 k_) ?_
  show Goes p e below s _ _ _ (s₁.setTop (mkF m 38 #[.val (.ref x)] []))
  refine Goes.st (fun t_ k_ => XS.iconst X0.here hx rfl (hb hby own_d_method_2_38) k_) ?_
  show Goes p e below s _ _ _ (s₁.setTop (mkF m 39 #[.val (.ref x)] [(.int (1 : Int32))]))
  refine Goes.st (fun t_ k_ => XS.goto X0.here hx rfl (pc0 := 39) (pc' := 43) rfl (hb hby own_d_method_2_39) (by decide) (by decide) k_) ?_
  show Goes p e below s _ _ _ (s₁.setTop (mkF m 43 #[.val (.ref x)] [(.int (1 : Int32))]))
  exact Goes.retN X0 hx (t := .boolean) hret hlk (by simp) (hb hby own_d_method_2_43) (by decide) (by decide) (⟨rfl, N0, e0⟩)
theorem own_rmU_ef (m : MethodId) (x : Addr) : entryFrame m #[(.ref x)] 1 = mkF m 0 #[.val (.ref x)] [] := by first | (simp [entryFrame, mkF, argsToLocals, Value.category]; done) | rfl
set_option maxRecDepth 65536 in
set_option maxHeartbeats 40000000 in
theorem own_rmU (l : Launch) (Z : State) (a0 : Array Value) (hw : ∀ d ∈ tables_1, d.before a0 Z = true) (ws : List Jvm.Cond) (x r0 r1 : Addr) (kx_ k0_ k1_ : ClassId) (h0 : Heap) (n0 : Nat) (Z0 : n0 ≤ h0.size) (HB : own_box Z h0 x r0 r1 kx_ k0_ k1_) :
    MetFree l (⟨"com/example/delaunet/delaunet/space/HyperbolicSpaceChartBoxPinLaw", "isUnitSquare", "([[D)Z"⟩ : MethodName) (head1 (Jvm.Cond.code (⟨"com/example/delaunet/delaunet/space/HyperbolicSpaceChartBoxPinLaw", "isUnitSquare", "([[D)Z"⟩ : MethodName) method_3_code 1 (some .boolean) :: ws) ({ frames := 0, cells := 0, slots := 0, locals := 0 } : Room)) (fun aa_ U => aa_ = #[(.ref x)] ∧ Z.Warmed39 U.vm ∧ U.heap = h0) (fun _ _ _ _ _ => True) (fun _ U oo_ U' => ∃ vv_ LL_, oo_ = .returned vv_ ∧ own_QV Z (.int 1) h0 n0 vv_ U'.heap LL_ ∧ FrameEnd U oo_ U' LL_ ({ frames := 0, cells := 0, slots := 0, locals := 0 } : Room).cells ({ frames := 0, cells := 0, slots := 0, locals := 0 } : Room).slots) := by
  refine MetFree.of_bodySF (plainFor_of_name own_pn142) hisR ?_
  intro p e s m args below meth c s₁ Bd hml0 hP hK
  obtain ⟨rfl, hZ, hh⟩ := hP
  have hx := Bd.exec
  have hby := Bd.bytes
  have hml : c.maxLocals = 1 := hml0
  have hown : s.vm.findClass "com/example/delaunet/delaunet/space/HyperbolicSpaceChartBoxPinLaw" = some m.cls := findClass_of_methodNamed Bd.named
  have hnm := (name_of_methodNamed Bd.named Bd.method).1
  have hlk := Bd.notSynchronized
  have hret := Bd.returns
  have X0 : Stand p l e ({ frames := 0, cells := 0, slots := 0, locals := 0 } : Room) s m #[(.ref x)] below meth c s₁ [] 0 0 := Stand.of_body Bd
  have e0 : s₁.heap = h0 := by rw [← hh, Bd.state]; rfl
  have N0 := Fr.nil n0
  show Goes p e below s (own_QV Z (.int 1) h0 n0) ({ frames := 0, cells := 0, slots := 0, locals := 0 } : Room).cells ({ frames := 0, cells := 0, slots := 0, locals := 0 } : Room).slots _
  refine Goes.cast (own_rmU_ef m x) ?_
  obtain ⟨V_x, V_r0, V_r1⟩ := HB
  show Goes p e below s _ _ _ (s₁.setTop (mkF m 0 #[.val (.ref x)] []))
  refine Goes.st (fun t_ k_ => XS.aloadN X0.here hx rfl (hb hby own_d_method_3_0) rfl rfl k_) ?_
  show Goes p e below s _ _ _ (s₁.setTop (mkF m 1 #[.val (.ref x)] [(.ref x)]))
  refine Goes.st (fun t_ k_ => XS.iconst X0.here hx rfl (hb hby own_d_method_3_1) k_) ?_
  show Goes p e below s _ _ _ (s₁.setTop (mkF m 2 #[.val (.ref x)] [(.int (0 : Int32)), (.ref x)]))
  have VV40 := V_x
  obtain ⟨cl40, Ar40, -, S40, M40, H40, -⟩ := VV40
  have hin40 := inb_of S40 (j := (0 : Int32)) ⟨by decide, by decide⟩
  refine Goes.st (fun t_ k_ => X0.aaload hx (j := (0 : Int32)) (v := (.ref r0)) (by rw [e0]; exact Ar40.1) (State.isArrayOf_alike hZ.alike Ar40.2.1) rfl Ar40.2.2 hin40 (Has.at H40 hin40 rfl) (g := (mkF m 2 #[.val (.ref x)] [(.int (0 : Int32)), (.ref x)])) rfl rfl (hb hby own_d_method_3_2) _ k_) ?_
  show Goes p e below s _ _ _ (s₁.setTop (mkF m 3 #[.val (.ref x)] [(.ref r0)]))
  refine Goes.st (fun t_ k_ => XS.iconst X0.here hx rfl (hb hby own_d_method_3_3) k_) ?_
  show Goes p e below s _ _ _ (s₁.setTop (mkF m 4 #[.val (.ref x)] [(.int (0 : Int32)), (.ref r0)]))
  have VV41 := V_r0
  obtain ⟨cl41, Ar41, -, S41, M41, H41, -⟩ := VV41
  have hin41 := inb_of S41 (j := (0 : Int32)) ⟨by decide, by decide⟩
  refine Goes.st (fun t_ k_ => X0.daload hx (j := (0 : Int32)) (v := (.double (13830554455654793216 : UInt64))) (by rw [e0]; exact Ar41.1) (State.isArrayOf_alike hZ.alike Ar41.2.1) Ar41.2.2 hin41 (Has.at H41 hin41 rfl) (g := (mkF m 4 #[.val (.ref x)] [(.int (0 : Int32)), (.ref r0)])) rfl rfl (hb hby own_d_method_3_4) _ k_) ?_
  show Goes p e below s _ _ _ (s₁.setTop (mkF m 5 #[.val (.ref x)] [(.double (13830554455654793216 : UInt64))]))
  refine Goes.st (fun t_ k_ => X0.ldc2DoubleC hx hown (mvT hZ (hw _ (List.mem_of_getElem? (i := 86) rfl))) (g := (mkF m 5 #[.val (.ref x)] [(.double (13830554455654793216 : UInt64))])) rfl (hb hby own_d_method_3_5) _ k_) ?_
  show Goes p e below s _ _ _ (s₁.setTop (mkF m 8 #[.val (.ref x)] [(.double (13830554455654793216 : UInt64)), (.double (13830554455654793216 : UInt64))]))
  refine Goes.st (fun t_ k_ => XS.dcmpS X0.here hx rfl (hb hby own_d_method_3_8) rfl rfl k_) ?_
  show Goes p e below s _ _ _ (s₁.setTop (mkF m 9 #[.val (.ref x)] [(.int (cmpValue (FP.dcmp (13830554455654793216 : UInt64) (13830554455654793216 : UInt64)) .l))]))
  refine Goes.st (fun t_ k_ => XS.ifNo X0.here hx rfl (hb hby own_d_method_3_9) rfl ((if0 _ _).trans (teq (by decide +kernel)).2) k_) ?_
  show Goes p e below s _ _ _ (s₁.setTop (mkF m 12 #[.val (.ref x)] []))
  refine Goes.st (fun t_ k_ => XS.aloadN X0.here hx rfl (hb hby own_d_method_3_12) rfl rfl k_) ?_
  show Goes p e below s _ _ _ (s₁.setTop (mkF m 13 #[.val (.ref x)] [(.ref x)]))
  refine Goes.st (fun t_ k_ => XS.iconst X0.here hx rfl (hb hby own_d_method_3_13) k_) ?_
  show Goes p e below s _ _ _ (s₁.setTop (mkF m 14 #[.val (.ref x)] [(.int (0 : Int32)), (.ref x)]))
  have VV42 := V_x
  obtain ⟨cl42, Ar42, -, S42, M42, H42, -⟩ := VV42
  have hin42 := inb_of S42 (j := (0 : Int32)) ⟨by decide, by decide⟩
  refine Goes.st (fun t_ k_ => X0.aaload hx (j := (0 : Int32)) (v := (.ref r0)) (by rw [e0]; exact Ar42.1) (State.isArrayOf_alike hZ.alike Ar42.2.1) rfl Ar42.2.2 hin42 (Has.at H42 hin42 rfl) (g := (mkF m 14 #[.val (.ref x)] [(.int (0 : Int32)), (.ref x)])) rfl rfl (hb hby own_d_method_3_14) _ k_) ?_
  show Goes p e below s _ _ _ (s₁.setTop (mkF m 15 #[.val (.ref x)] [(.ref r0)]))
  refine Goes.st (fun t_ k_ => XS.iconst X0.here hx rfl (hb hby own_d_method_3_15) k_) ?_
  show Goes p e below s _ _ _ (s₁.setTop (mkF m 16 #[.val (.ref x)] [(.int (1 : Int32)), (.ref r0)]))
  have VV43 := V_r0
  obtain ⟨cl43, Ar43, -, S43, M43, H43, -⟩ := VV43
  have hin43 := inb_of S43 (j := (1 : Int32)) ⟨by decide, by decide⟩
  refine Goes.st (fun t_ k_ => X0.daload hx (j := (1 : Int32)) (v := (.double (13830554455654793216 : UInt64))) (by rw [e0]; exact Ar43.1) (State.isArrayOf_alike hZ.alike Ar43.2.1) Ar43.2.2 hin43 (Has.at H43 hin43 rfl) (g := (mkF m 16 #[.val (.ref x)] [(.int (1 : Int32)), (.ref r0)])) rfl rfl (hb hby own_d_method_3_16) _ k_) ?_
  show Goes p e below s _ _ _ (s₁.setTop (mkF m 17 #[.val (.ref x)] [(.double (13830554455654793216 : UInt64))]))
  refine Goes.st (fun t_ k_ => X0.ldc2DoubleC hx hown (mvT hZ (hw _ (List.mem_of_getElem? (i := 86) rfl))) (g := (mkF m 17 #[.val (.ref x)] [(.double (13830554455654793216 : UInt64))])) rfl (hb hby own_d_method_3_17) _ k_) ?_
  show Goes p e below s _ _ _ (s₁.setTop (mkF m 20 #[.val (.ref x)] [(.double (13830554455654793216 : UInt64)), (.double (13830554455654793216 : UInt64))]))
  refine Goes.st (fun t_ k_ => XS.dcmpS X0.here hx rfl (hb hby own_d_method_3_20) rfl rfl k_) ?_
  show Goes p e below s _ _ _ (s₁.setTop (mkF m 21 #[.val (.ref x)] [(.int (cmpValue (FP.dcmp (13830554455654793216 : UInt64) (13830554455654793216 : UInt64)) .l))]))
  refine Goes.st (fun t_ k_ => XS.ifNo X0.here hx rfl (hb hby own_d_method_3_21) rfl ((if0 _ _).trans (teq (by decide +kernel)).2) k_) ?_
  show Goes p e below s _ _ _ (s₁.setTop (mkF m 24 #[.val (.ref x)] []))
  refine Goes.st (fun t_ k_ => XS.aloadN X0.here hx rfl (hb hby own_d_method_3_24) rfl rfl k_) ?_
  show Goes p e below s _ _ _ (s₁.setTop (mkF m 25 #[.val (.ref x)] [(.ref x)]))
  refine Goes.st (fun t_ k_ => XS.iconst X0.here hx rfl (hb hby own_d_method_3_25) k_) ?_
  show Goes p e below s _ _ _ (s₁.setTop (mkF m 26 #[.val (.ref x)] [(.int (1 : Int32)), (.ref x)]))
  have VV44 := V_x
  obtain ⟨cl44, Ar44, -, S44, M44, H44, -⟩ := VV44
  have hin44 := inb_of S44 (j := (1 : Int32)) ⟨by decide, by decide⟩
  refine Goes.st (fun t_ k_ => X0.aaload hx (j := (1 : Int32)) (v := (.ref r1)) (by rw [e0]; exact Ar44.1) (State.isArrayOf_alike hZ.alike Ar44.2.1) rfl Ar44.2.2 hin44 (Has.at H44 hin44 rfl) (g := (mkF m 26 #[.val (.ref x)] [(.int (1 : Int32)), (.ref x)])) rfl rfl (hb hby own_d_method_3_26) _ k_) ?_
  show Goes p e below s _ _ _ (s₁.setTop (mkF m 27 #[.val (.ref x)] [(.ref r1)]))
  refine Goes.st (fun t_ k_ => XS.iconst X0.here hx rfl (hb hby own_d_method_3_27) k_) ?_
  show Goes p e below s _ _ _ (s₁.setTop (mkF m 28 #[.val (.ref x)] [(.int (0 : Int32)), (.ref r1)]))
  have VV45 := V_r1
  obtain ⟨cl45, Ar45, -, S45, M45, H45, -⟩ := VV45
  have hin45 := inb_of S45 (j := (0 : Int32)) ⟨by decide, by decide⟩
  refine Goes.st (fun t_ k_ => X0.daload hx (j := (0 : Int32)) (v := (.double (4607182418800017408 : UInt64))) (by rw [e0]; exact Ar45.1) (State.isArrayOf_alike hZ.alike Ar45.2.1) Ar45.2.2 hin45 (Has.at H45 hin45 rfl) (g := (mkF m 28 #[.val (.ref x)] [(.int (0 : Int32)), (.ref r1)])) rfl rfl (hb hby own_d_method_3_28) _ k_) ?_
  show Goes p e below s _ _ _ (s₁.setTop (mkF m 29 #[.val (.ref x)] [(.double (4607182418800017408 : UInt64))]))
  refine Goes.st (fun t_ k_ => XS.dconst1 X0.here hx rfl (hb hby own_d_method_3_29) (by first | rfl | decide +kernel) k_) ?_
  show Goes p e below s _ _ _ (s₁.setTop (mkF m 30 #[.val (.ref x)] [(.double (4607182418800017408 : UInt64)), (.double (4607182418800017408 : UInt64))]))
  refine Goes.st (fun t_ k_ => XS.dcmpS X0.here hx rfl (hb hby own_d_method_3_30) rfl rfl k_) ?_
  show Goes p e below s _ _ _ (s₁.setTop (mkF m 31 #[.val (.ref x)] [(.int (cmpValue (FP.dcmp (4607182418800017408 : UInt64) (4607182418800017408 : UInt64)) .l))]))
  refine Goes.st (fun t_ k_ => XS.ifNo X0.here hx rfl (hb hby own_d_method_3_31) rfl ((if0 _ _).trans (teq (by decide +kernel)).2) k_) ?_
  show Goes p e below s _ _ _ (s₁.setTop (mkF m 34 #[.val (.ref x)] []))
  refine Goes.st (fun t_ k_ => XS.aloadN X0.here hx rfl (hb hby own_d_method_3_34) rfl rfl k_) ?_
  show Goes p e below s _ _ _ (s₁.setTop (mkF m 35 #[.val (.ref x)] [(.ref x)]))
  refine Goes.st (fun t_ k_ => XS.iconst X0.here hx rfl (hb hby own_d_method_3_35) k_) ?_
  show Goes p e below s _ _ _ (s₁.setTop (mkF m 36 #[.val (.ref x)] [(.int (1 : Int32)), (.ref x)]))
  have VV46 := V_x
  obtain ⟨cl46, Ar46, -, S46, M46, H46, -⟩ := VV46
  have hin46 := inb_of S46 (j := (1 : Int32)) ⟨by decide, by decide⟩
  refine Goes.st (fun t_ k_ => X0.aaload hx (j := (1 : Int32)) (v := (.ref r1)) (by rw [e0]; exact Ar46.1) (State.isArrayOf_alike hZ.alike Ar46.2.1) rfl Ar46.2.2 hin46 (Has.at H46 hin46 rfl) (g := (mkF m 36 #[.val (.ref x)] [(.int (1 : Int32)), (.ref x)])) rfl rfl (hb hby own_d_method_3_36) _ k_) ?_
  show Goes p e below s _ _ _ (s₁.setTop (mkF m 37 #[.val (.ref x)] [(.ref r1)]))
  refine Goes.st (fun t_ k_ => XS.iconst X0.here hx rfl (hb hby own_d_method_3_37) k_) ?_
  show Goes p e below s _ _ _ (s₁.setTop (mkF m 38 #[.val (.ref x)] [(.int (1 : Int32)), (.ref r1)]))
  have VV47 := V_r1
  obtain ⟨cl47, Ar47, -, S47, M47, H47, -⟩ := VV47
  have hin47 := inb_of S47 (j := (1 : Int32)) ⟨by decide, by decide⟩
  refine Goes.st (fun t_ k_ => X0.daload hx (j := (1 : Int32)) (v := (.double (4607182418800017408 : UInt64))) (by rw [e0]; exact Ar47.1) (State.isArrayOf_alike hZ.alike Ar47.2.1) Ar47.2.2 hin47 (Has.at H47 hin47 rfl) (g := (mkF m 38 #[.val (.ref x)] [(.int (1 : Int32)), (.ref r1)])) rfl rfl (hb hby own_d_method_3_38) _ k_) ?_
  show Goes p e below s _ _ _ (s₁.setTop (mkF m 39 #[.val (.ref x)] [(.double (4607182418800017408 : UInt64))]))
  refine Goes.st (fun t_ k_ => XS.dconst1 X0.here hx rfl (hb hby own_d_method_3_39) (by first | rfl | decide +kernel) k_) ?_
  show Goes p e below s _ _ _ (s₁.setTop (mkF m 40 #[.val (.ref x)] [(.double (4607182418800017408 : UInt64)), (.double (4607182418800017408 : UInt64))]))
  refine Goes.st (fun t_ k_ => XS.dcmpS X0.here hx rfl (hb hby own_d_method_3_40) rfl rfl k_) ?_
  show Goes p e below s _ _ _ (s₁.setTop (mkF m 41 #[.val (.ref x)] [(.int (cmpValue (FP.dcmp (4607182418800017408 : UInt64) (4607182418800017408 : UInt64)) .l))]))
  refine Goes.st (fun t_ k_ => XS.ifNo X0.here hx rfl (hb hby own_d_method_3_41) rfl ((if0 _ _).trans (teq (by decide +kernel)).2) k_) ?_
  show Goes p e below s _ _ _ (s₁.setTop (mkF m 44 #[.val (.ref x)] []))
  refine Goes.st (fun t_ k_ => XS.iconst X0.here hx rfl (hb hby own_d_method_3_44) k_) ?_
  show Goes p e below s _ _ _ (s₁.setTop (mkF m 45 #[.val (.ref x)] [(.int (1 : Int32))]))
  refine Goes.st (fun t_ k_ => XS.goto X0.here hx rfl (pc0 := 45) (pc' := 49) rfl (hb hby own_d_method_3_45) (by decide) (by decide) k_) ?_
  show Goes p e below s _ _ _ (s₁.setTop (mkF m 49 #[.val (.ref x)] [(.int (1 : Int32))]))
  exact Goes.retN X0 hx (t := .boolean) hret hlk (by simp) (hb hby own_d_method_3_49) (by decide) (by decide) (⟨rfl, N0, e0⟩)
theorem own_rm0_ef (m : MethodId) (qa : Int32) (qb : Int32) : entryFrame m #[(.int qa), (.int qb)] maxLocals = mkF m 0 #[.val (.int qa), .val (.int qb), .unset, .unset, .unset, .unset, .unset, .unset, .unset, .unset, .unset, .unset, .unset, .unset, .unset, .unset, .unset, .unset, .unset] [] := by first | (simp [entryFrame, mkF, argsToLocals, Value.category, maxLocals]; done) | rfl
set_option maxRecDepth 65536 in
set_option maxHeartbeats 40000000 in
theorem own_rm0 (l : Launch) (Z : State) (a0 : Array Value) (hw : ∀ d ∈ tables_1, d.before a0 Z = true) (ws : List Jvm.Cond) (qa qb : Int32) (ab : Addr) (h0 : Heap) (n0 : Nat) (Z0 : n0 ≤ h0.size) (O0 : Old Z n0 h0) (S_m : Sta Z Z.heap "com/example/delaunet/delaunet/space/Borders" "MIDPOINT" "Lcom/example/delaunet/delaunet/space/Borders;" (.ref ab)) (E_b : Exa Z Z.heap ab "com/example/delaunet/delaunet/space/Borders") :
    MetFree l x (head1 (Jvm.Cond.code x code maxLocals ret :: ws) room_1) (fun aa_ U => aa_ = #[(.int qa), (.int qb)] ∧ Z.Warmed39 U.vm ∧ U.heap = h0) (fun _ _ _ _ _ => True) (fun _ U oo_ U' => ∃ vv_ LL_, oo_ = .returned vv_ ∧ own_Q0 Z  h0 n0 vv_ U'.heap LL_ ∧ ReturnedEndW U oo_ U' LL_ 12 51) := by
  refine MetFree.of_bodySF (plainFor_of_name own_pn142) hisR ?_
  intro p e s m args below meth c s₁ Bd hml0 hP hK
  obtain ⟨rfl, hZ, hh⟩ := hP
  have hx := Bd.exec
  have hby := Bd.bytes
  have hml : c.maxLocals = 19 := hml0
  have hown : s.vm.findClass "com/example/delaunet/delaunet/space/HyperbolicSpaceChartBoxPinLaw" = some m.cls := findClass_of_methodNamed Bd.named
  have hnm := (name_of_methodNamed Bd.named Bd.method).1
  have hlk := Bd.notSynchronized
  have hret := Bd.returns
  have X0 : Stand p l e room_1 (s.setVm s.vm) m #[(.int qa), (.int qb)] below meth c s₁ [] 0 0 := Stand.of_body Bd
  have e0 : s₁.heap = h0 := by rw [← hh, Bd.state]; rfl
  have N0 := Fr.nil n0
  have hS0 : s.Since s.vm 0 := (State.WarmedH.refl s).since 0
  have hk0 : 0 ≤ h0.size := Nat.zero_le _
  show GoesW p e below s (own_Q0 Z  h0 n0) (12) (51) _
  refine GoesW.cast (own_rm0_ef m qa qb) ?_
  show GoesW p e below s _ _ _ (s₁.setTop (mkF m 0 #[.val (.int qa), .val (.int qb), .unset, .unset, .unset, .unset, .unset, .unset, .unset, .unset, .unset, .unset, .unset, .unset, .unset, .unset, .unset, .unset, .unset] []))
  refine GoesW.st (fun t_ k_ => XS.iloadN X0.here hx rfl (hb hby at_0) rfl  k_) ?_
  show GoesW p e below s _ _ _ (s₁.setTop (mkF m 1 #[.val (.int qa), .val (.int qb), .unset, .unset, .unset, .unset, .unset, .unset, .unset, .unset, .unset, .unset, .unset, .unset, .unset, .unset, .unset, .unset, .unset] [(.int qa)]))
  refine GoesW.st (fun t_ k_ => XS.sipush X0.here hx rfl (hb hby at_1) k_) ?_
  show GoesW p e below s _ _ _ (s₁.setTop (mkF m 4 #[.val (.int qa), .val (.int qb), .unset, .unset, .unset, .unset, .unset, .unset, .unset, .unset, .unset, .unset, .unset, .unset, .unset, .unset, .unset, .unset, .unset] [(.int (1000 : Int32)), (.int qa)]))
  refine GoesW.st (fun t_ k_ => iremM (g := (mkF m 4 #[.val (.int qa), .val (.int qb), .unset, .unset, .unset, .unset, .unset, .unset, .unset, .unset, .unset, .unset, .unset, .unset, .unset, .unset, .unset, .unset, .unset] [(.int (1000 : Int32)), (.int qa)])) X0 hx rfl (hb hby at_4) rfl (by decide) k_) ?_
  show GoesW p e below s _ _ _ (s₁.setTop (mkF m 5 #[.val (.int qa), .val (.int qb), .unset, .unset, .unset, .unset, .unset, .unset, .unset, .unset, .unset, .unset, .unset, .unset, .unset, .unset, .unset, .unset, .unset] [(.int (qa % (1000 : Int32)))]))
  refine GoesW.st (fun t_ k_ => XS.i2dS X0.here hx rfl (hb hby at_5) rfl rfl k_) ?_
  show GoesW p e below s _ _ _ (s₁.setTop (mkF m 6 #[.val (.int qa), .val (.int qb), .unset, .unset, .unset, .unset, .unset, .unset, .unset, .unset, .unset, .unset, .unset, .unset, .unset, .unset, .unset, .unset, .unset] [(.double (FP.i2d (qa % (1000 : Int32))))]))
  refine GoesW.st (fun t_ k_ => X0.ldc2DoubleC hx hown (mvT hZ (hw _ (List.mem_of_getElem? (i := 0) rfl))) (g := (mkF m 6 #[.val (.int qa), .val (.int qb), .unset, .unset, .unset, .unset, .unset, .unset, .unset, .unset, .unset, .unset, .unset, .unset, .unset, .unset, .unset, .unset, .unset] [(.double (FP.i2d (qa % (1000 : Int32))))])) rfl (hb hby at_6) _ k_) ?_
  show GoesW p e below s _ _ _ (s₁.setTop (mkF m 9 #[.val (.int qa), .val (.int qb), .unset, .unset, .unset, .unset, .unset, .unset, .unset, .unset, .unset, .unset, .unset, .unset, .unset, .unset, .unset, .unset, .unset] [(.double (4654311885213007872 : UInt64)), (.double (FP.i2d (qa % (1000 : Int32))))]))
  refine GoesW.st (fun t_ k_ => XS.ddivS X0.here hx rfl (hb hby at_9) rfl (Jvm.OwnNum.own_nan (Jvm.OwnNum.own_arg qa).1) rfl k_) ?_
  show GoesW p e below s _ _ _ (s₁.setTop (mkF m 10 #[.val (.int qa), .val (.int qb), .unset, .unset, .unset, .unset, .unset, .unset, .unset, .unset, .unset, .unset, .unset, .unset, .unset, .unset, .unset, .unset, .unset] [(.double (FP.ddiv (FP.i2d (qa % (1000 : Int32))) (4654311885213007872 : UInt64)))]))
  obtain ⟨xx, hd_xx⟩ : ∃ z : UInt64, z = (FP.ddiv (FP.i2d (qa % (1000 : Int32))) (4654311885213007872 : UInt64)) := ⟨_, rfl⟩
  have hb_xx : Jvm.FP.Core.DFin xx ∧ Jvm.OwnNum.zm xx ≤ Jvm.OwnNum.zm Jvm.OwnNum.c067 := by rw [hd_xx]; exact Jvm.OwnNum.own_arg qa
  rw [← hd_xx]
  show GoesW p e below s _ _ _ (s₁.setTop (mkF m 10 #[.val (.int qa), .val (.int qb), .unset, .unset, .unset, .unset, .unset, .unset, .unset, .unset, .unset, .unset, .unset, .unset, .unset, .unset, .unset, .unset, .unset] [(.double xx)]))
  clear hd_xx
  show GoesW p e below s _ _ _ (s₁.setTop (mkF m 10 #[.val (.int qa), .val (.int qb), .unset, .unset, .unset, .unset, .unset, .unset, .unset, .unset, .unset, .unset, .unset, .unset, .unset, .unset, .unset, .unset, .unset] [(.double xx)]))
  refine GoesW.st (fun t_ k_ => XS.dstoreN X0.here hx rfl (hb hby at_10) rfl  (l' := #[.val (.int qa), .val (.int qb), .val (.double xx), .second, .unset, .unset, .unset, .unset, .unset, .unset, .unset, .unset, .unset, .unset, .unset, .unset, .unset, .unset, .unset]) rfl k_) ?_
  show GoesW p e below s _ _ _ (s₁.setTop (mkF m 11 #[.val (.int qa), .val (.int qb), .val (.double xx), .second, .unset, .unset, .unset, .unset, .unset, .unset, .unset, .unset, .unset, .unset, .unset, .unset, .unset, .unset, .unset] []))
  refine GoesW.st (fun t_ k_ => XS.iloadN X0.here hx rfl (hb hby at_11) rfl  k_) ?_
  show GoesW p e below s _ _ _ (s₁.setTop (mkF m 12 #[.val (.int qa), .val (.int qb), .val (.double xx), .second, .unset, .unset, .unset, .unset, .unset, .unset, .unset, .unset, .unset, .unset, .unset, .unset, .unset, .unset, .unset] [(.int qb)]))
  refine GoesW.st (fun t_ k_ => XS.sipush X0.here hx rfl (hb hby at_12) k_) ?_
  show GoesW p e below s _ _ _ (s₁.setTop (mkF m 15 #[.val (.int qa), .val (.int qb), .val (.double xx), .second, .unset, .unset, .unset, .unset, .unset, .unset, .unset, .unset, .unset, .unset, .unset, .unset, .unset, .unset, .unset] [(.int (1000 : Int32)), (.int qb)]))
  refine GoesW.st (fun t_ k_ => iremM (g := (mkF m 15 #[.val (.int qa), .val (.int qb), .val (.double xx), .second, .unset, .unset, .unset, .unset, .unset, .unset, .unset, .unset, .unset, .unset, .unset, .unset, .unset, .unset, .unset] [(.int (1000 : Int32)), (.int qb)])) X0 hx rfl (hb hby at_15) rfl (by decide) k_) ?_
  show GoesW p e below s _ _ _ (s₁.setTop (mkF m 16 #[.val (.int qa), .val (.int qb), .val (.double xx), .second, .unset, .unset, .unset, .unset, .unset, .unset, .unset, .unset, .unset, .unset, .unset, .unset, .unset, .unset, .unset] [(.int (qb % (1000 : Int32)))]))
  refine GoesW.st (fun t_ k_ => XS.i2dS X0.here hx rfl (hb hby at_16) rfl rfl k_) ?_
  show GoesW p e below s _ _ _ (s₁.setTop (mkF m 17 #[.val (.int qa), .val (.int qb), .val (.double xx), .second, .unset, .unset, .unset, .unset, .unset, .unset, .unset, .unset, .unset, .unset, .unset, .unset, .unset, .unset, .unset] [(.double (FP.i2d (qb % (1000 : Int32))))]))
  refine GoesW.st (fun t_ k_ => X0.ldc2DoubleC hx hown (mvT hZ (hw _ (List.mem_of_getElem? (i := 0) rfl))) (g := (mkF m 17 #[.val (.int qa), .val (.int qb), .val (.double xx), .second, .unset, .unset, .unset, .unset, .unset, .unset, .unset, .unset, .unset, .unset, .unset, .unset, .unset, .unset, .unset] [(.double (FP.i2d (qb % (1000 : Int32))))])) rfl (hb hby at_17) _ k_) ?_
  show GoesW p e below s _ _ _ (s₁.setTop (mkF m 20 #[.val (.int qa), .val (.int qb), .val (.double xx), .second, .unset, .unset, .unset, .unset, .unset, .unset, .unset, .unset, .unset, .unset, .unset, .unset, .unset, .unset, .unset] [(.double (4654311885213007872 : UInt64)), (.double (FP.i2d (qb % (1000 : Int32))))]))
  refine GoesW.st (fun t_ k_ => XS.ddivS X0.here hx rfl (hb hby at_20) rfl (Jvm.OwnNum.own_nan (Jvm.OwnNum.own_arg qb).1) rfl k_) ?_
  show GoesW p e below s _ _ _ (s₁.setTop (mkF m 21 #[.val (.int qa), .val (.int qb), .val (.double xx), .second, .unset, .unset, .unset, .unset, .unset, .unset, .unset, .unset, .unset, .unset, .unset, .unset, .unset, .unset, .unset] [(.double (FP.ddiv (FP.i2d (qb % (1000 : Int32))) (4654311885213007872 : UInt64)))]))
  obtain ⟨yy, hd_yy⟩ : ∃ z : UInt64, z = (FP.ddiv (FP.i2d (qb % (1000 : Int32))) (4654311885213007872 : UInt64)) := ⟨_, rfl⟩
  have hb_yy : Jvm.FP.Core.DFin yy ∧ Jvm.OwnNum.zm yy ≤ Jvm.OwnNum.zm Jvm.OwnNum.c067 := by rw [hd_yy]; exact Jvm.OwnNum.own_arg qb
  rw [← hd_yy]
  show GoesW p e below s _ _ _ (s₁.setTop (mkF m 21 #[.val (.int qa), .val (.int qb), .val (.double xx), .second, .unset, .unset, .unset, .unset, .unset, .unset, .unset, .unset, .unset, .unset, .unset, .unset, .unset, .unset, .unset] [(.double yy)]))
  clear hd_yy
  show GoesW p e below s _ _ _ (s₁.setTop (mkF m 21 #[.val (.int qa), .val (.int qb), .val (.double xx), .second, .unset, .unset, .unset, .unset, .unset, .unset, .unset, .unset, .unset, .unset, .unset, .unset, .unset, .unset, .unset] [(.double yy)]))
  refine GoesW.st (fun t_ k_ => XS.dstore X0.here hx rfl (hb hby at_21) rfl  (l' := #[.val (.int qa), .val (.int qb), .val (.double xx), .second, .val (.double yy), .second, .unset, .unset, .unset, .unset, .unset, .unset, .unset, .unset, .unset, .unset, .unset, .unset, .unset]) rfl k_) ?_
  show GoesW p e below s _ _ _ (s₁.setTop (mkF m 23 #[.val (.int qa), .val (.int qb), .val (.double xx), .second, .val (.double yy), .second, .unset, .unset, .unset, .unset, .unset, .unset, .unset, .unset, .unset, .unset, .unset, .unset, .unset] []))
  obtain ⟨T48, h48, X48, e48, E48, A48, D48, -, st48⟩ := newO X0 hx hZ hown (hw _ (List.mem_of_getElem? (i := 1) rfl)) (hw _ (List.mem_of_getElem? (i := 2) rfl)) (hw _ (List.mem_of_getElem? (i := 3) rfl)) e0 (g := (mkF m 23 #[.val (.int qa), .val (.int qb), .val (.double xx), .second, .val (.double yy), .second, .unset, .unset, .unset, .unset, .unset, .unset, .unset, .unset, .unset, .unset, .unset, .unset, .unset] [])) rfl (hb hby at_23) (by decide) (by decide)
  obtain ⟨b48, g48⟩ : ∃ z, z = h0.size := ⟨_, rfl⟩
  rw [← g48] at A48 D48 st48
  have gn_b48 : n0 ≤ b48 := Nat.le_trans Z0 (Nat.le_of_eq g48.symm)
  refine GoesW.st st48 ?_
  have Z0' := Nat.le_trans Z0 E48.1
  have hk0' := Nat.le_trans hk0 E48.1
  have O0 := O0.ext E48
  have Ex_b48 := A48
  have F_dims_b48 : Fld Z h48 b48 "com/example/delaunet/delaunet/space/VectorSpace" "dims" "I" (.int (0 : Int32)) := D48 (Or.inr (hw _ (List.mem_of_getElem? (i := 26) rfl))) (ty := .int) (by decide)
  have F_borders_b48 : Fld Z h48 b48 "com/example/delaunet/delaunet/space/VectorSpace" "borders" "Lcom/example/delaunet/delaunet/space/Borders;" .null := D48 (Or.inr (hw _ (List.mem_of_getElem? (i := 42) rfl))) (ty := (.object "com/example/delaunet/delaunet/space/Borders")) (by decide)
  show GoesW p e below s _ _ _ (T48.setTop (mkF m 26 #[.val (.int qa), .val (.int qb), .val (.double xx), .second, .val (.double yy), .second, .unset, .unset, .unset, .unset, .unset, .unset, .unset, .unset, .unset, .unset, .unset, .unset, .unset] [(.ref b48)]))
  refine GoesW.st (fun t_ k_ => XS.dup X48.here hx rfl (hb hby at_26) rfl rfl k_) ?_
  show GoesW p e below s _ _ _ (T48.setTop (mkF m 27 #[.val (.int qa), .val (.int qb), .val (.double xx), .second, .val (.double yy), .second, .unset, .unset, .unset, .unset, .unset, .unset, .unset, .unset, .unset, .unset, .unset, .unset, .unset] [(.ref b48), (.ref b48)]))
  obtain ⟨_, _, ⟨T49, L49, k49, n49⟩, -, X49, hSS49, hG49, ⟨Lc49, hQ49, l49, y49, z49⟩, st49⟩ := X48.specialBackS hx (y := (⟨"com/example/delaunet/delaunet/space/HyperbolicSpace", "<init>", "()V"⟩ : MethodName)) rfl hown (mvT hZ (hw _ (List.mem_of_getElem? (i := 4) rfl))) (mvT hZ (hw _ (List.mem_of_getElem? (i := 5) rfl))) (mvT hZ (hw _ (List.mem_of_getElem? (i := 6) rfl))) (by decide) (backOfS (W := 1) (own_rmH l Z a0 hw [] b48 ab h48 n0 Z0' Ex_b48 F_dims_b48 F_borders_b48 (S_m.ext O0.2) (E_b.ext O0.2) gn_b48) hZ (hw _ (List.mem_of_getElem? (i := 6) rfl)) (hw _ (List.mem_of_getElem? (i := 3) rfl)) (by decide) (by decide)) (g := (mkF m 27 #[.val (.int qa), .val (.int qb), .val (.double xx), .second, .val (.double yy), .second, .unset, .unset, .unset, .unset, .unset, .unset, .unset, .unset, .unset, .unset, .unset, .unset, .unset] [(.ref b48), (.ref b48)])) rfl (by rw [hml]; rfl) (Steps.refl _) (a := b48) (argsL := []) (rest := [(.ref b48)]) (lenOf own_pd178 rfl) rfl (by show 2 * 0 + _ ≤ _; exact Nat.le_of_eq rfl) (hb hby at_27) (fun _ _ => ⟨rfl, e48, (by decide : 1 + 2 ≤ _), (by decide : 2 + 32 ≤ _)⟩)
  dsimp only [Pt.U, Pt.locs, Pt.cells, Pt.slots] at X49 l49 y49 z49 st49 hQ49 hSS49 hG49
  obtain ⟨X49, hS49, hZ, hown⟩ := rebS hS0 (by rw [e48]; exact hk0' : _ ≤ T48.heap.size) X49 hSS49 hG49 hZ hown
  subst l49 y49 z49
  obtain ⟨rfl, N49q, KH⟩ := hQ49
  have N49 := Fr.app N0 N49q
  refine GoesW.tr st49 ?_
  have Ex_b48 := Ex_b48.keep KH
  have Z0'' := Nat.le_trans Z0' KH.1
  have hk0'' := Nat.le_trans hk0' KH.1
  have O0 := O0.keep KH (allS gn_b48 all0)
  have hk49 : T49.heap.size ≤ T49.heap.size := Nat.le_refl _
  obtain ⟨k49z, ek49⟩ : ∃ z, z = T49.heap.size := ⟨_, rfl⟩
  rw [← ek49] at hS49
  have hk49 : k49z ≤ T49.heap.size := Nat.le_of_eq ek49
  show GoesW p e below s _ _ _ (T49.setTop (mkF m 30 #[.val (.int qa), .val (.int qb), .val (.double xx), .second, .val (.double yy), .second, .unset, .unset, .unset, .unset, .unset, .unset, .unset, .unset, .unset, .unset, .unset, .unset, .unset] [(.ref b48)]))
  refine GoesW.st (fun t_ k_ => XS.astore X49.here hx rfl (hb hby at_30) rfl rfl (l' := #[.val (.int qa), .val (.int qb), .val (.double xx), .second, .val (.double yy), .second, .val (.ref b48), .unset, .unset, .unset, .unset, .unset, .unset, .unset, .unset, .unset, .unset, .unset, .unset]) rfl k_) ?_
  show GoesW p e below s _ _ _ (T49.setTop (mkF m 32 #[.val (.int qa), .val (.int qb), .val (.double xx), .second, .val (.double yy), .second, .val (.ref b48), .unset, .unset, .unset, .unset, .unset, .unset, .unset, .unset, .unset, .unset, .unset, .unset] []))
  show GoesW p e below s _ _ _ (T49.setTop (mkF m 32 #[.val (.int qa), .val (.int qb), .val (.double xx), .second, .val (.double yy), .second, .val (.ref b48), .unset, .unset, .unset, .unset, .unset, .unset, .unset, .unset, .unset, .unset, .unset, .unset] []))
  obtain ⟨T50, h50, X50, e50, E50, A50, D50, -, st50⟩ := newO X49 hx hZ hown (hw _ (List.mem_of_getElem? (i := 43) rfl)) (hw _ (List.mem_of_getElem? (i := 44) rfl)) (hw _ (List.mem_of_getElem? (i := 45) rfl)) rfl (g := (mkF m 32 #[.val (.int qa), .val (.int qb), .val (.double xx), .second, .val (.double yy), .second, .val (.ref b48), .unset, .unset, .unset, .unset, .unset, .unset, .unset, .unset, .unset, .unset, .unset, .unset] [])) rfl (hb hby at_32) (by decide) (by decide)
  obtain ⟨b50, g50⟩ : ∃ z, z = T49.heap.size := ⟨_, rfl⟩
  rw [← g50] at A50 D50 st50
  have ne_b48_b50 : b48 ≠ b50 := Nat.ne_of_lt (Nat.lt_of_lt_of_le Ex_b48.lt (Nat.le_of_eq g50.symm))
  have gn_b50 : n0 ≤ b50 := Nat.le_trans Z0'' (Nat.le_of_eq g50.symm)
  refine GoesW.st st50 ?_
  have Ex_b48 := Ex_b48.ext E50
  have Z0''' := Nat.le_trans Z0'' E50.1
  have hk49' := Nat.le_trans hk49 E50.1
  have O0 := O0.ext E50
  have Ex_b50 := A50
  have F_coordinates_b50 : Fld Z h50 b50 "com/example/delaunet/delaunet/space/VectorPoint" "coordinates" "[D" .null := D50 (Or.inr (hw _ (List.mem_of_getElem? (i := 70) rfl))) (ty := (.array .double)) (by decide)
  show GoesW p e below s _ _ _ (T50.setTop (mkF m 35 #[.val (.int qa), .val (.int qb), .val (.double xx), .second, .val (.double yy), .second, .val (.ref b48), .unset, .unset, .unset, .unset, .unset, .unset, .unset, .unset, .unset, .unset, .unset, .unset] [(.ref b50)]))
  refine GoesW.st (fun t_ k_ => XS.dup X50.here hx rfl (hb hby at_35) rfl rfl k_) ?_
  show GoesW p e below s _ _ _ (T50.setTop (mkF m 36 #[.val (.int qa), .val (.int qb), .val (.double xx), .second, .val (.double yy), .second, .val (.ref b48), .unset, .unset, .unset, .unset, .unset, .unset, .unset, .unset, .unset, .unset, .unset, .unset] [(.ref b50), (.ref b50)]))
  refine GoesW.st (fun t_ k_ => XS.iconst X50.here hx rfl (hb hby at_36) k_) ?_
  show GoesW p e below s _ _ _ (T50.setTop (mkF m 37 #[.val (.int qa), .val (.int qb), .val (.double xx), .second, .val (.double yy), .second, .val (.ref b48), .unset, .unset, .unset, .unset, .unset, .unset, .unset, .unset, .unset, .unset, .unset, .unset] [(.int (2 : Int32)), (.ref b50), (.ref b50)]))
  show GoesW p e below s _ _ _ (T50.setTop (mkF m 37 #[.val (.int qa), .val (.int qb), .val (.double xx), .second, .val (.double yy), .second, .val (.ref b48), .unset, .unset, .unset, .unset, .unset, .unset, .unset, .unset, .unset, .unset, .unset, .unset] [(.int (2 : Int32)), (.ref b50), (.ref b50)]))
  obtain ⟨T51, h51, k51, X51, e51, E51, A51, Ea51, st51⟩ := newPE X50 hx hZ (hw _ (List.mem_of_getElem? (i := 46) rfl)) e50 (g := (mkF m 37 #[.val (.int qa), .val (.int qb), .val (.double xx), .second, .val (.double yy), .second, .val (.ref b48), .unset, .unset, .unset, .unset, .unset, .unset, .unset, .unset, .unset, .unset, .unset, .unset] [(.int (2 : Int32)), (.ref b50), (.ref b50)])) rfl (hb hby at_37) rfl (by decide) (cap := 2) (by decide) (by decide) (by decide) (by decide) (ad := "[D") (by first | rfl | decide +kernel)
  obtain ⟨b51, g51⟩ : ∃ z, z = h50.size := ⟨_, rfl⟩
  rw [← g51] at A51 st51 Ea51
  have ne_b48_b51 : b48 ≠ b51 := Nat.ne_of_lt (Nat.lt_of_lt_of_le Ex_b48.lt (Nat.le_of_eq g51.symm))
  have ne_b50_b51 : b50 ≠ b51 := Nat.ne_of_lt (Nat.lt_of_lt_of_le Ex_b50.lt (Nat.le_of_eq g51.symm))
  have gn_b51 : n0 ≤ b51 := Nat.le_trans Z0''' (Nat.le_of_eq g51.symm)
  refine GoesW.st st51 ?_
  have Ex_b48 := Ex_b48.ext E51
  have Ex_b50 := Ex_b50.ext E51
  have F_coordinates_b50 := F_coordinates_b50.ext E51
  have Z0'''' := Nat.le_trans Z0''' E51.1
  have hk49'' := Nat.le_trans hk49' E51.1
  have O0 := O0.ext E51
  have Ex_b51 := Ea51
  have V_b51 : Arv Z h51 b51 k51 .double (2 : Int32) [(.double (0 : UInt64)), (.double (0 : UInt64))] (.double (0 : UInt64)) := (Arv.new A51 (by decide)).pad (pad_rep [] (.double (0 : UInt64)) 2)
  show GoesW p e below s _ _ _ (T51.setTop (mkF m 39 #[.val (.int qa), .val (.int qb), .val (.double xx), .second, .val (.double yy), .second, .val (.ref b48), .unset, .unset, .unset, .unset, .unset, .unset, .unset, .unset, .unset, .unset, .unset, .unset] [(.ref b51), (.ref b50), (.ref b50)]))
  show GoesW p e below s _ _ _ (T51.setTop (mkF m 39 #[.val (.int qa), .val (.int qb), .val (.double xx), .second, .val (.double yy), .second, .val (.ref b48), .unset, .unset, .unset, .unset, .unset, .unset, .unset, .unset, .unset, .unset, .unset, .unset] [(.ref b51), (.ref b50), (.ref b50)]))
  refine GoesW.st (fun t_ k_ => XS.dup X51.here hx rfl (hb hby at_39) rfl rfl k_) ?_
  show GoesW p e below s _ _ _ (T51.setTop (mkF m 40 #[.val (.int qa), .val (.int qb), .val (.double xx), .second, .val (.double yy), .second, .val (.ref b48), .unset, .unset, .unset, .unset, .unset, .unset, .unset, .unset, .unset, .unset, .unset, .unset] [(.ref b51), (.ref b51), (.ref b50), (.ref b50)]))
  refine GoesW.st (fun t_ k_ => XS.iconst X51.here hx rfl (hb hby at_40) k_) ?_
  show GoesW p e below s _ _ _ (T51.setTop (mkF m 41 #[.val (.int qa), .val (.int qb), .val (.double xx), .second, .val (.double yy), .second, .val (.ref b48), .unset, .unset, .unset, .unset, .unset, .unset, .unset, .unset, .unset, .unset, .unset, .unset] [(.int (0 : Int32)), (.ref b51), (.ref b51), (.ref b50), (.ref b50)]))
  refine GoesW.st (fun t_ k_ => XS.dloadN X51.here hx rfl (hb hby at_41) rfl  k_) ?_
  show GoesW p e below s _ _ _ (T51.setTop (mkF m 42 #[.val (.int qa), .val (.int qb), .val (.double xx), .second, .val (.double yy), .second, .val (.ref b48), .unset, .unset, .unset, .unset, .unset, .unset, .unset, .unset, .unset, .unset, .unset, .unset] [(.double xx), (.int (0 : Int32)), (.ref b51), (.ref b51), (.ref b50), (.ref b50)]))
  obtain ⟨cl52, Ar52, q52, S52, M52, H52, G52⟩ := V_b51
  obtain ⟨T52, h52, X52, e52, W52, st52⟩ := stD X51 hx hZ e51 Ar52 (j := (0 : Int32)) (inb_of S52 ⟨by decide, by decide⟩) (g := (mkF m 42 #[.val (.int qa), .val (.int qb), .val (.double xx), .second, .val (.double yy), .second, .val (.ref b48), .unset, .unset, .unset, .unset, .unset, .unset, .unset, .unset, .unset, .unset, .unset, .unset] [(.double xx), (.int (0 : Int32)), (.ref b51), (.ref b51), (.ref b50), (.ref b50)])) rfl rfl (hb hby at_42)
  have V_b51 := Arv.set Ar52 q52 S52 M52 H52 G52 rfl W52 0 rfl (Nat.le_of_ble_eq_true rfl)
  refine GoesW.st st52 ?_
  have V_b51 : Arv Z h52 b51 k51 .double (2 : Int32) [(.double xx), (.double (0 : UInt64))] (.double (0 : UInt64)) := V_b51
  have Ex_b48 := Ex_b48.wr W52
  have Ex_b50 := Ex_b50.wr W52
  have F_coordinates_b50 := F_coordinates_b50.other W52 (Or.inl ne_b50_b51)
  have Ex_b51 := Ex_b51.wr W52
  have N52 := Fr.snoc X52 N49 gn_b51
  have Z0''''' := Nat.le_trans Z0'''' (Keep.of_wr W52).1
  have hk49''' := Nat.le_trans hk49'' (Keep.of_wr W52).1
  have O0 := O0.wr W52 gn_b51
  show GoesW p e below s _ _ _ (T52.setTop (mkF m 43 #[.val (.int qa), .val (.int qb), .val (.double xx), .second, .val (.double yy), .second, .val (.ref b48), .unset, .unset, .unset, .unset, .unset, .unset, .unset, .unset, .unset, .unset, .unset, .unset] [(.ref b51), (.ref b50), (.ref b50)]))
  refine GoesW.st (fun t_ k_ => XS.dup X52.here hx rfl (hb hby at_43) rfl rfl k_) ?_
  show GoesW p e below s _ _ _ (T52.setTop (mkF m 44 #[.val (.int qa), .val (.int qb), .val (.double xx), .second, .val (.double yy), .second, .val (.ref b48), .unset, .unset, .unset, .unset, .unset, .unset, .unset, .unset, .unset, .unset, .unset, .unset] [(.ref b51), (.ref b51), (.ref b50), (.ref b50)]))
  refine GoesW.st (fun t_ k_ => XS.iconst X52.here hx rfl (hb hby at_44) k_) ?_
  show GoesW p e below s _ _ _ (T52.setTop (mkF m 45 #[.val (.int qa), .val (.int qb), .val (.double xx), .second, .val (.double yy), .second, .val (.ref b48), .unset, .unset, .unset, .unset, .unset, .unset, .unset, .unset, .unset, .unset, .unset, .unset] [(.int (1 : Int32)), (.ref b51), (.ref b51), (.ref b50), (.ref b50)]))
  refine GoesW.st (fun t_ k_ => XS.dload X52.here hx rfl (hb hby at_45) rfl  k_) ?_
  show GoesW p e below s _ _ _ (T52.setTop (mkF m 47 #[.val (.int qa), .val (.int qb), .val (.double xx), .second, .val (.double yy), .second, .val (.ref b48), .unset, .unset, .unset, .unset, .unset, .unset, .unset, .unset, .unset, .unset, .unset, .unset] [(.double yy), (.int (1 : Int32)), (.ref b51), (.ref b51), (.ref b50), (.ref b50)]))
  obtain ⟨cl53, Ar53, q53, S53, M53, H53, G53⟩ := V_b51
  obtain ⟨T53, h53, X53, e53, W53, st53⟩ := stD X52 hx hZ e52 Ar53 (j := (1 : Int32)) (inb_of S53 ⟨by decide, by decide⟩) (g := (mkF m 47 #[.val (.int qa), .val (.int qb), .val (.double xx), .second, .val (.double yy), .second, .val (.ref b48), .unset, .unset, .unset, .unset, .unset, .unset, .unset, .unset, .unset, .unset, .unset, .unset] [(.double yy), (.int (1 : Int32)), (.ref b51), (.ref b51), (.ref b50), (.ref b50)])) rfl rfl (hb hby at_47)
  have V_b51 := Arv.set Ar53 q53 S53 M53 H53 G53 rfl W53 1 rfl (Nat.le_of_ble_eq_true rfl)
  refine GoesW.st st53 ?_
  have V_b51 : Arv Z h53 b51 k51 .double (2 : Int32) [(.double xx), (.double yy)] (.double (0 : UInt64)) := V_b51
  have Ex_b48 := Ex_b48.wr W53
  have Ex_b50 := Ex_b50.wr W53
  have F_coordinates_b50 := F_coordinates_b50.other W53 (Or.inl ne_b50_b51)
  have Ex_b51 := Ex_b51.wr W53
  have N53 := Fr.snoc X53 N52 gn_b51
  have Z0'''''' := Nat.le_trans Z0''''' (Keep.of_wr W53).1
  have hk49'''' := Nat.le_trans hk49''' (Keep.of_wr W53).1
  have O0 := O0.wr W53 gn_b51
  show GoesW p e below s _ _ _ (T53.setTop (mkF m 48 #[.val (.int qa), .val (.int qb), .val (.double xx), .second, .val (.double yy), .second, .val (.ref b48), .unset, .unset, .unset, .unset, .unset, .unset, .unset, .unset, .unset, .unset, .unset, .unset] [(.ref b51), (.ref b50), (.ref b50)]))
  obtain ⟨_, _, ⟨T54, L54, k54, n54⟩, -, X54, ⟨Lc54, hQ54, l54, y54, z54⟩, st54⟩ := X53.specialBack hx (y := (⟨"com/example/delaunet/delaunet/space/VectorPoint", "<init>", "([D)V"⟩ : MethodName)) rfl hown (mvT hZ (hw _ (List.mem_of_getElem? (i := 47) rfl))) (mvT hZ (hw _ (List.mem_of_getElem? (i := 48) rfl))) (mvT hZ (hw _ (List.mem_of_getElem? (i := 49) rfl))) (by decide) (backOf (W := 1) (own_rmP l Z a0 hw [] b50 b51 _ xx yy h53 n0 Z0'''''' Ex_b50 F_coordinates_b50 Ex_b51 V_b51 (Jvm.Free.Fl.fin64_core.mpr hb_xx.1) (Jvm.Free.Fl.fin64_core.mpr hb_yy.1) ne_b50_b51 gn_b50) hZ (hw _ (List.mem_of_getElem? (i := 49) rfl)) (hw _ (List.mem_of_getElem? (i := 45) rfl)) (by decide) (by decide)) (g := (mkF m 48 #[.val (.int qa), .val (.int qb), .val (.double xx), .second, .val (.double yy), .second, .val (.ref b48), .unset, .unset, .unset, .unset, .unset, .unset, .unset, .unset, .unset, .unset, .unset, .unset] [(.ref b51), (.ref b50), (.ref b50)])) rfl (by rw [hml]; rfl) (Steps.refl _) (a := b50) (argsL := [(.ref b51)]) (rest := [(.ref b50)]) (lenOf own_pd179 rfl) rfl (by show 2 * 0 + _ ≤ _; exact Nat.le_of_eq rfl) (hb hby at_48) (fun _ _ => ⟨rfl, e53, (by decide : 5 + 1 ≤ _), (by decide : 37 + 2 ≤ _)⟩)
  dsimp only [Pt.U, Pt.locs, Pt.cells, Pt.slots] at X54 l54 y54 z54 st54 hQ54
  subst l54 y54 z54
  obtain ⟨rfl, N54q, KP⟩ := hQ54
  have N54 := Fr.app N53 N54q
  refine GoesW.tr st54 ?_
  have Ex_b48 := Ex_b48.keep KP
  have Z0''''''' := Nat.le_trans Z0'''''' KP.1
  have hk49''''' := Nat.le_trans hk49'''' KP.1
  have O0 := O0.keep KP (allS gn_b50 all0)
  show GoesW p e below s _ _ _ (T54.setTop (mkF m 51 #[.val (.int qa), .val (.int qb), .val (.double xx), .second, .val (.double yy), .second, .val (.ref b48), .unset, .unset, .unset, .unset, .unset, .unset, .unset, .unset, .unset, .unset, .unset, .unset] [(.ref b50)]))
  refine GoesW.st (fun t_ k_ => XS.astore X54.here hx rfl (hb hby at_51) rfl rfl (l' := #[.val (.int qa), .val (.int qb), .val (.double xx), .second, .val (.double yy), .second, .val (.ref b48), .val (.ref b50), .unset, .unset, .unset, .unset, .unset, .unset, .unset, .unset, .unset, .unset, .unset]) rfl k_) ?_
  show GoesW p e below s _ _ _ (T54.setTop (mkF m 53 #[.val (.int qa), .val (.int qb), .val (.double xx), .second, .val (.double yy), .second, .val (.ref b48), .val (.ref b50), .unset, .unset, .unset, .unset, .unset, .unset, .unset, .unset, .unset, .unset, .unset] []))
  refine GoesW.st (fun t_ k_ => XS.aload X54.here hx rfl (hb hby at_53) rfl rfl k_) ?_
  show GoesW p e below s _ _ _ (T54.setTop (mkF m 55 #[.val (.int qa), .val (.int qb), .val (.double xx), .second, .val (.double yy), .second, .val (.ref b48), .val (.ref b50), .unset, .unset, .unset, .unset, .unset, .unset, .unset, .unset, .unset, .unset, .unset] [(.ref b48)]))
  refine GoesW.st (fun t_ k_ => XS.aload X54.here hx rfl (hb hby at_55) rfl rfl k_) ?_
  show GoesW p e below s _ _ _ (T54.setTop (mkF m 57 #[.val (.int qa), .val (.int qb), .val (.double xx), .second, .val (.double yy), .second, .val (.ref b48), .val (.ref b50), .unset, .unset, .unset, .unset, .unset, .unset, .unset, .unset, .unset, .unset, .unset] [(.ref b50), (.ref b48)]))
  have ZZ := Z0'''''''
  obtain ⟨cq55, kq55, q55a, q55b, q55c⟩ := isOf hZ rfl Ex_b48
  obtain ⟨_, _, ⟨T55, L55, k55, n55⟩, -, X55, ⟨Lc55, hQ55, l55, y55, z55⟩, st55⟩ := X54.virtualBack hx (y := (⟨"com/example/delaunet/delaunet/space/HyperbolicSpace", "chartBox", "(Lcom/example/delaunet/delaunet/space/VectorPoint;)[[D"⟩ : MethodName)) (z := (⟨"com/example/delaunet/delaunet/space/HyperbolicSpace", "chartBox", "(Lcom/example/delaunet/delaunet/space/VectorPoint;)[[D"⟩ : MethodName)) hown (mvT hZ (hw _ (List.mem_of_getElem? (i := 71) rfl))) (mvT hZ (hw _ (List.mem_of_getElem? (i := 72) rfl))) (notFace_of_selects (args := #[]) (mvT hZ (hw _ (List.mem_of_getElem? (i := 74) rfl)))) (mvT hZ (hw _ (List.mem_of_getElem? (i := 74) rfl))) (mvT hZ (hw _ (List.mem_of_getElem? (i := 73) rfl))) (by decide) (backOf (W := 0) (own_rmB l Z a0 hw [] b48 b50 T54.heap n0 Z0''''''' ) hZ (hw _ (List.mem_of_getElem? (i := 75) rfl)) (hw _ (List.mem_of_getElem? (i := 3) rfl)) (by decide) (by decide)) q55a q55c (g := (mkF m 57 #[.val (.int qa), .val (.int qb), .val (.double xx), .second, .val (.double yy), .second, .val (.ref b48), .val (.ref b50), .unset, .unset, .unset, .unset, .unset, .unset, .unset, .unset, .unset, .unset, .unset] [(.ref b50), (.ref b48)])) rfl (by rw [hml]; rfl) (Steps.refl _) (argsL := [(.ref b50)]) (rest := []) (lenOf own_pd180 rfl) rfl (by show 2 * 0 + _ ≤ _; exact Nat.le_of_eq rfl) (hb hby at_57) (fun _ _ => ⟨rfl, rfl, (by decide : 6 + 3 ≤ _), (by decide : 39 + 6 ≤ _)⟩)
  dsimp only [Pt.U, Pt.locs, Pt.cells, Pt.slots] at X55 l55 y55 z55 st55 hQ55
  subst l55 y55 z55
  obtain ⟨x, rfl, N55q, KB, r0, r1, kx_, k0_, k1_, HB, gx, gr0, gr1, n1, n2, n3⟩ := hQ55
  have N55 := Fr.app N54 N55q
  refine GoesW.tr st55 ?_
  have Ex_b48 := Ex_b48.keep KB
  have Z0'''''''' := Nat.le_trans Z0''''''' KB.1
  have hk49'''''' := Nat.le_trans hk49''''' KB.1
  have O0 := O0.keep KB all0
  have HB' := HB
  obtain ⟨V_x, V_r0, V_r1⟩ := HB'
  have gn_x := Nat.le_trans ZZ gx
  have gn_r0 := Nat.le_trans ZZ gr0
  have gn_r1 := Nat.le_trans ZZ gr1
  show GoesW p e below s _ _ _ (T55.setTop (mkF m 60 #[.val (.int qa), .val (.int qb), .val (.double xx), .second, .val (.double yy), .second, .val (.ref b48), .val (.ref b50), .unset, .unset, .unset, .unset, .unset, .unset, .unset, .unset, .unset, .unset, .unset] [(.ref x)]))
  refine GoesW.st (fun t_ k_ => XS.astore X55.here hx rfl (hb hby at_60) rfl rfl (l' := #[.val (.int qa), .val (.int qb), .val (.double xx), .second, .val (.double yy), .second, .val (.ref b48), .val (.ref b50), .val (.ref x), .unset, .unset, .unset, .unset, .unset, .unset, .unset, .unset, .unset, .unset]) rfl k_) ?_
  show GoesW p e below s _ _ _ (T55.setTop (mkF m 62 #[.val (.int qa), .val (.int qb), .val (.double xx), .second, .val (.double yy), .second, .val (.ref b48), .val (.ref b50), .val (.ref x), .unset, .unset, .unset, .unset, .unset, .unset, .unset, .unset, .unset, .unset] []))
  refine GoesW.st (fun t_ k_ => XS.aload X55.here hx rfl (hb hby at_62) rfl rfl k_) ?_
  show GoesW p e below s _ _ _ (T55.setTop (mkF m 64 #[.val (.int qa), .val (.int qb), .val (.double xx), .second, .val (.double yy), .second, .val (.ref b48), .val (.ref b50), .val (.ref x), .unset, .unset, .unset, .unset, .unset, .unset, .unset, .unset, .unset, .unset] [(.ref x)]))
  obtain ⟨_, _, ⟨T56, L56, k56, n56⟩, -, X56, ⟨Lc56, hQ56, l56, y56, z56⟩, st56⟩ := Jvm.LawKit.callS X55 hx (y := (⟨"com/example/delaunet/delaunet/space/HyperbolicSpaceChartBoxPinLaw", "isSquareShape", "([[D)Z"⟩ : MethodName)) hown (mvT hZ (hw _ (List.mem_of_getElem? (i := 79) rfl))) (mvT hZ (hw _ (List.mem_of_getElem? (i := 80) rfl))) (mvT hZ (hw _ (List.mem_of_getElem? (i := 81) rfl))) (mvT hZ (hw _ (List.mem_of_getElem? (i := 82) rfl))) (by decide) (backOf (W := 0) (own_rmS l Z a0 hw [] x r0 r1 _ _ _ T55.heap n0 Z0'''''''' ⟨V_x, V_r0, V_r1⟩) hZ (hw _ (List.mem_of_getElem? (i := 82) rfl)) (hw _ (List.mem_of_getElem? (i := 81) rfl)) (by decide) (by decide)) (g := (mkF m 64 #[.val (.int qa), .val (.int qb), .val (.double xx), .second, .val (.double yy), .second, .val (.ref b48), .val (.ref b50), .val (.ref x), .unset, .unset, .unset, .unset, .unset, .unset, .unset, .unset, .unset, .unset] [(.ref x)])) rfl (by rw [hml]; rfl) (argsL := [(.ref x)]) (rest := []) (lenOf own_pd181 rfl) rfl (by show 2 * 0 + _ ≤ _; exact Nat.le_of_eq rfl) (hb hby at_64) (fun _ _ => ⟨rfl, rfl, (by decide : 9 + 0 ≤ _), (by decide : 45 + 0 ≤ _)⟩)
  dsimp only [Pt.U, Pt.locs, Pt.cells, Pt.slots] at X56 l56 y56 z56 st56 hQ56
  subst l56 y56 z56
  obtain ⟨rfl, N56q, EQ1⟩ := hQ56
  have N56 := Fr.app N55 N56q
  refine GoesW.st st56 ?_
  show GoesW p e below s _ _ _ (T56.setTop (mkF m 67 #[.val (.int qa), .val (.int qb), .val (.double xx), .second, .val (.double yy), .second, .val (.ref b48), .val (.ref b50), .val (.ref x), .unset, .unset, .unset, .unset, .unset, .unset, .unset, .unset, .unset, .unset] [(.int (1 : Int32))]))
  refine GoesW.st (fun t_ k_ => XS.ifYes X56.here hx rfl (pc0 := 67) (pc' := 72) rfl (hb hby at_67) rfl ((if0 _ _).trans (feq (by decide)).2) (by decide) (by decide) k_) ?_
  show GoesW p e below s _ _ _ (T56.setTop (mkF m 72 #[.val (.int qa), .val (.int qb), .val (.double xx), .second, .val (.double yy), .second, .val (.ref b48), .val (.ref b50), .val (.ref x), .unset, .unset, .unset, .unset, .unset, .unset, .unset, .unset, .unset, .unset] []))
  refine GoesW.st (fun t_ k_ => XS.aload X56.here hx rfl (hb hby at_72) rfl rfl k_) ?_
  show GoesW p e below s _ _ _ (T56.setTop (mkF m 74 #[.val (.int qa), .val (.int qb), .val (.double xx), .second, .val (.double yy), .second, .val (.ref b48), .val (.ref b50), .val (.ref x), .unset, .unset, .unset, .unset, .unset, .unset, .unset, .unset, .unset, .unset] [(.ref x)]))
  obtain ⟨_, _, ⟨T57, L57, k57, n57⟩, -, X57, ⟨Lc57, hQ57, l57, y57, z57⟩, st57⟩ := Jvm.LawKit.callS X56 hx (y := (⟨"com/example/delaunet/delaunet/space/HyperbolicSpaceChartBoxPinLaw", "isUnitSquare", "([[D)Z"⟩ : MethodName)) hown (mvT hZ (hw _ (List.mem_of_getElem? (i := 83) rfl))) (mvT hZ (hw _ (List.mem_of_getElem? (i := 84) rfl))) (mvT hZ (hw _ (List.mem_of_getElem? (i := 81) rfl))) (mvT hZ (hw _ (List.mem_of_getElem? (i := 85) rfl))) (by decide) (backOf (W := 0) (own_rmU l Z a0 hw [] x r0 r1 _ _ _ T55.heap n0 Z0'''''''' ⟨V_x, V_r0, V_r1⟩) hZ (hw _ (List.mem_of_getElem? (i := 85) rfl)) (hw _ (List.mem_of_getElem? (i := 81) rfl)) (by decide) (by decide)) (g := (mkF m 74 #[.val (.int qa), .val (.int qb), .val (.double xx), .second, .val (.double yy), .second, .val (.ref b48), .val (.ref b50), .val (.ref x), .unset, .unset, .unset, .unset, .unset, .unset, .unset, .unset, .unset, .unset] [(.ref x)])) rfl (by rw [hml]; rfl) (argsL := [(.ref x)]) (rest := []) (lenOf own_pd181 rfl) rfl (by show 2 * 0 + _ ≤ _; exact Nat.le_of_eq rfl) (hb hby at_74) (fun _ _ => ⟨rfl, EQ1, (by decide : 9 + 0 ≤ _), (by decide : 45 + 0 ≤ _)⟩)
  dsimp only [Pt.U, Pt.locs, Pt.cells, Pt.slots] at X57 l57 y57 z57 st57 hQ57
  subst l57 y57 z57
  obtain ⟨rfl, N57q, EQ2⟩ := hQ57
  have N57 := Fr.app N56 N57q
  refine GoesW.st st57 ?_
  obtain ⟨f1, f2, f3, f4, f5, f6, ⟨f7, c1, c2⟩, ⟨f8, c3, c4⟩⟩ := Jvm.OwnNum.own_all hb_xx.1 hb_xx.2 hb_yy.1 hb_yy.2
  show GoesW p e below s _ _ _ (T57.setTop (mkF m 77 #[.val (.int qa), .val (.int qb), .val (.double xx), .second, .val (.double yy), .second, .val (.ref b48), .val (.ref b50), .val (.ref x), .unset, .unset, .unset, .unset, .unset, .unset, .unset, .unset, .unset, .unset] [(.int (1 : Int32))]))
  refine GoesW.st (fun t_ k_ => XS.istore X57.here hx rfl (hb hby at_77) rfl  (l' := #[.val (.int qa), .val (.int qb), .val (.double xx), .second, .val (.double yy), .second, .val (.ref b48), .val (.ref b50), .val (.ref x), .val (.int (1 : Int32)), .unset, .unset, .unset, .unset, .unset, .unset, .unset, .unset, .unset]) rfl k_) ?_
  show GoesW p e below s _ _ _ (T57.setTop (mkF m 79 #[.val (.int qa), .val (.int qb), .val (.double xx), .second, .val (.double yy), .second, .val (.ref b48), .val (.ref b50), .val (.ref x), .val (.int (1 : Int32)), .unset, .unset, .unset, .unset, .unset, .unset, .unset, .unset, .unset] []))
  refine GoesW.st (fun t_ k_ => XS.dloadN X57.here hx rfl (hb hby at_79) rfl  k_) ?_
  show GoesW p e below s _ _ _ (T57.setTop (mkF m 80 #[.val (.int qa), .val (.int qb), .val (.double xx), .second, .val (.double yy), .second, .val (.ref b48), .val (.ref b50), .val (.ref x), .val (.int (1 : Int32)), .unset, .unset, .unset, .unset, .unset, .unset, .unset, .unset, .unset] [(.double xx)]))
  refine GoesW.st (fun t_ k_ => XS.dloadN X57.here hx rfl (hb hby at_80) rfl  k_) ?_
  show GoesW p e below s _ _ _ (T57.setTop (mkF m 81 #[.val (.int qa), .val (.int qb), .val (.double xx), .second, .val (.double yy), .second, .val (.ref b48), .val (.ref b50), .val (.ref x), .val (.int (1 : Int32)), .unset, .unset, .unset, .unset, .unset, .unset, .unset, .unset, .unset] [(.double xx), (.double xx)]))
  refine GoesW.st (fun t_ k_ => XS.dmulS X57.here hx rfl (hb hby at_81) rfl (Jvm.OwnNum.own_nan f1) rfl k_) ?_
  show GoesW p e below s _ _ _ (T57.setTop (mkF m 82 #[.val (.int qa), .val (.int qb), .val (.double xx), .second, .val (.double yy), .second, .val (.ref b48), .val (.ref b50), .val (.ref x), .val (.int (1 : Int32)), .unset, .unset, .unset, .unset, .unset, .unset, .unset, .unset, .unset] [(.double (FP.dmul xx xx))]))
  refine GoesW.st (fun t_ k_ => XS.dload X57.here hx rfl (hb hby at_82) rfl  k_) ?_
  show GoesW p e below s _ _ _ (T57.setTop (mkF m 84 #[.val (.int qa), .val (.int qb), .val (.double xx), .second, .val (.double yy), .second, .val (.ref b48), .val (.ref b50), .val (.ref x), .val (.int (1 : Int32)), .unset, .unset, .unset, .unset, .unset, .unset, .unset, .unset, .unset] [(.double yy), (.double (FP.dmul xx xx))]))
  refine GoesW.st (fun t_ k_ => XS.dload X57.here hx rfl (hb hby at_84) rfl  k_) ?_
  show GoesW p e below s _ _ _ (T57.setTop (mkF m 86 #[.val (.int qa), .val (.int qb), .val (.double xx), .second, .val (.double yy), .second, .val (.ref b48), .val (.ref b50), .val (.ref x), .val (.int (1 : Int32)), .unset, .unset, .unset, .unset, .unset, .unset, .unset, .unset, .unset] [(.double yy), (.double yy), (.double (FP.dmul xx xx))]))
  refine GoesW.st (fun t_ k_ => XS.dmulS X57.here hx rfl (hb hby at_86) rfl (Jvm.OwnNum.own_nan f2) rfl k_) ?_
  show GoesW p e below s _ _ _ (T57.setTop (mkF m 87 #[.val (.int qa), .val (.int qb), .val (.double xx), .second, .val (.double yy), .second, .val (.ref b48), .val (.ref b50), .val (.ref x), .val (.int (1 : Int32)), .unset, .unset, .unset, .unset, .unset, .unset, .unset, .unset, .unset] [(.double (FP.dmul yy yy)), (.double (FP.dmul xx xx))]))
  refine GoesW.st (fun t_ k_ => XS.daddS X57.here hx rfl (hb hby at_87) rfl (Jvm.OwnNum.own_nan f3) rfl k_) ?_
  show GoesW p e below s _ _ _ (T57.setTop (mkF m 88 #[.val (.int qa), .val (.int qb), .val (.double xx), .second, .val (.double yy), .second, .val (.ref b48), .val (.ref b50), .val (.ref x), .val (.int (1 : Int32)), .unset, .unset, .unset, .unset, .unset, .unset, .unset, .unset, .unset] [(.double (FP.dadd (FP.dmul xx xx) (FP.dmul yy yy)))]))
  refine GoesW.st (fun t_ k_ => XS.dstore X57.here hx rfl (hb hby at_88) rfl  (l' := #[.val (.int qa), .val (.int qb), .val (.double xx), .second, .val (.double yy), .second, .val (.ref b48), .val (.ref b50), .val (.ref x), .val (.int (1 : Int32)), .val (.double (FP.dadd (FP.dmul xx xx) (FP.dmul yy yy))), .second, .unset, .unset, .unset, .unset, .unset, .unset, .unset]) rfl k_) ?_
  show GoesW p e below s _ _ _ (T57.setTop (mkF m 90 #[.val (.int qa), .val (.int qb), .val (.double xx), .second, .val (.double yy), .second, .val (.ref b48), .val (.ref b50), .val (.ref x), .val (.int (1 : Int32)), .val (.double (FP.dadd (FP.dmul xx xx) (FP.dmul yy yy))), .second, .unset, .unset, .unset, .unset, .unset, .unset, .unset] []))
  refine GoesW.st (fun t_ k_ => X57.ldc2DoubleC hx hown (mvT hZ (hw _ (List.mem_of_getElem? (i := 87) rfl))) (g := (mkF m 90 #[.val (.int qa), .val (.int qb), .val (.double xx), .second, .val (.double yy), .second, .val (.ref b48), .val (.ref b50), .val (.ref x), .val (.int (1 : Int32)), .val (.double (FP.dadd (FP.dmul xx xx) (FP.dmul yy yy))), .second, .unset, .unset, .unset, .unset, .unset, .unset, .unset] [])) rfl (hb hby at_90) _ k_) ?_
  show GoesW p e below s _ _ _ (T57.setTop (mkF m 93 #[.val (.int qa), .val (.int qb), .val (.double xx), .second, .val (.double yy), .second, .val (.ref b48), .val (.ref b50), .val (.ref x), .val (.int (1 : Int32)), .val (.double (FP.dadd (FP.dmul xx xx) (FP.dmul yy yy))), .second, .unset, .unset, .unset, .unset, .unset, .unset, .unset] [(.double (4611686018427387904 : UInt64))]))
  refine GoesW.st (fun t_ k_ => XS.dloadN X57.here hx rfl (hb hby at_93) rfl  k_) ?_
  show GoesW p e below s _ _ _ (T57.setTop (mkF m 94 #[.val (.int qa), .val (.int qb), .val (.double xx), .second, .val (.double yy), .second, .val (.ref b48), .val (.ref b50), .val (.ref x), .val (.int (1 : Int32)), .val (.double (FP.dadd (FP.dmul xx xx) (FP.dmul yy yy))), .second, .unset, .unset, .unset, .unset, .unset, .unset, .unset] [(.double xx), (.double (4611686018427387904 : UInt64))]))
  refine GoesW.st (fun t_ k_ => XS.dmulS X57.here hx rfl (hb hby at_94) rfl (Jvm.OwnNum.own_nan f5) rfl k_) ?_
  show GoesW p e below s _ _ _ (T57.setTop (mkF m 95 #[.val (.int qa), .val (.int qb), .val (.double xx), .second, .val (.double yy), .second, .val (.ref b48), .val (.ref b50), .val (.ref x), .val (.int (1 : Int32)), .val (.double (FP.dadd (FP.dmul xx xx) (FP.dmul yy yy))), .second, .unset, .unset, .unset, .unset, .unset, .unset, .unset] [(.double (FP.dmul (4611686018427387904 : UInt64) xx))]))
  refine GoesW.st (fun t_ k_ => XS.dconst1 X57.here hx rfl (hb hby at_95) (by first | rfl | decide +kernel) k_) ?_
  show GoesW p e below s _ _ _ (T57.setTop (mkF m 96 #[.val (.int qa), .val (.int qb), .val (.double xx), .second, .val (.double yy), .second, .val (.ref b48), .val (.ref b50), .val (.ref x), .val (.int (1 : Int32)), .val (.double (FP.dadd (FP.dmul xx xx) (FP.dmul yy yy))), .second, .unset, .unset, .unset, .unset, .unset, .unset, .unset] [(.double (4607182418800017408 : UInt64)), (.double (FP.dmul (4611686018427387904 : UInt64) xx))]))
  refine GoesW.st (fun t_ k_ => XS.dload X57.here hx rfl (hb hby at_96) rfl  k_) ?_
  show GoesW p e below s _ _ _ (T57.setTop (mkF m 98 #[.val (.int qa), .val (.int qb), .val (.double xx), .second, .val (.double yy), .second, .val (.ref b48), .val (.ref b50), .val (.ref x), .val (.int (1 : Int32)), .val (.double (FP.dadd (FP.dmul xx xx) (FP.dmul yy yy))), .second, .unset, .unset, .unset, .unset, .unset, .unset, .unset] [(.double (FP.dadd (FP.dmul xx xx) (FP.dmul yy yy))), (.double (4607182418800017408 : UInt64)), (.double (FP.dmul (4611686018427387904 : UInt64) xx))]))
  refine GoesW.st (fun t_ k_ => XS.daddS X57.here hx rfl (hb hby at_98) rfl (Jvm.OwnNum.own_nan f4) rfl k_) ?_
  show GoesW p e below s _ _ _ (T57.setTop (mkF m 99 #[.val (.int qa), .val (.int qb), .val (.double xx), .second, .val (.double yy), .second, .val (.ref b48), .val (.ref b50), .val (.ref x), .val (.int (1 : Int32)), .val (.double (FP.dadd (FP.dmul xx xx) (FP.dmul yy yy))), .second, .unset, .unset, .unset, .unset, .unset, .unset, .unset] [(.double (FP.dadd (4607182418800017408 : UInt64) (FP.dadd (FP.dmul xx xx) (FP.dmul yy yy)))), (.double (FP.dmul (4611686018427387904 : UInt64) xx))]))
  refine GoesW.st (fun t_ k_ => XS.ddivS X57.here hx rfl (hb hby at_99) rfl (Jvm.OwnNum.own_nan f7) rfl k_) ?_
  show GoesW p e below s _ _ _ (T57.setTop (mkF m 100 #[.val (.int qa), .val (.int qb), .val (.double xx), .second, .val (.double yy), .second, .val (.ref b48), .val (.ref b50), .val (.ref x), .val (.int (1 : Int32)), .val (.double (FP.dadd (FP.dmul xx xx) (FP.dmul yy yy))), .second, .unset, .unset, .unset, .unset, .unset, .unset, .unset] [(.double (FP.ddiv (FP.dmul (4611686018427387904 : UInt64) xx) (FP.dadd (4607182418800017408 : UInt64) (FP.dadd (FP.dmul xx xx) (FP.dmul yy yy)))))]))
  refine GoesW.st (fun t_ k_ => XS.dstore X57.here hx rfl (hb hby at_100) rfl  (l' := #[.val (.int qa), .val (.int qb), .val (.double xx), .second, .val (.double yy), .second, .val (.ref b48), .val (.ref b50), .val (.ref x), .val (.int (1 : Int32)), .val (.double (FP.dadd (FP.dmul xx xx) (FP.dmul yy yy))), .second, .val (.double (FP.ddiv (FP.dmul (4611686018427387904 : UInt64) xx) (FP.dadd (4607182418800017408 : UInt64) (FP.dadd (FP.dmul xx xx) (FP.dmul yy yy))))), .second, .unset, .unset, .unset, .unset, .unset]) rfl k_) ?_
  show GoesW p e below s _ _ _ (T57.setTop (mkF m 102 #[.val (.int qa), .val (.int qb), .val (.double xx), .second, .val (.double yy), .second, .val (.ref b48), .val (.ref b50), .val (.ref x), .val (.int (1 : Int32)), .val (.double (FP.dadd (FP.dmul xx xx) (FP.dmul yy yy))), .second, .val (.double (FP.ddiv (FP.dmul (4611686018427387904 : UInt64) xx) (FP.dadd (4607182418800017408 : UInt64) (FP.dadd (FP.dmul xx xx) (FP.dmul yy yy))))), .second, .unset, .unset, .unset, .unset, .unset] []))
  refine GoesW.st (fun t_ k_ => X57.ldc2DoubleC hx hown (mvT hZ (hw _ (List.mem_of_getElem? (i := 87) rfl))) (g := (mkF m 102 #[.val (.int qa), .val (.int qb), .val (.double xx), .second, .val (.double yy), .second, .val (.ref b48), .val (.ref b50), .val (.ref x), .val (.int (1 : Int32)), .val (.double (FP.dadd (FP.dmul xx xx) (FP.dmul yy yy))), .second, .val (.double (FP.ddiv (FP.dmul (4611686018427387904 : UInt64) xx) (FP.dadd (4607182418800017408 : UInt64) (FP.dadd (FP.dmul xx xx) (FP.dmul yy yy))))), .second, .unset, .unset, .unset, .unset, .unset] [])) rfl (hb hby at_102) _ k_) ?_
  show GoesW p e below s _ _ _ (T57.setTop (mkF m 105 #[.val (.int qa), .val (.int qb), .val (.double xx), .second, .val (.double yy), .second, .val (.ref b48), .val (.ref b50), .val (.ref x), .val (.int (1 : Int32)), .val (.double (FP.dadd (FP.dmul xx xx) (FP.dmul yy yy))), .second, .val (.double (FP.ddiv (FP.dmul (4611686018427387904 : UInt64) xx) (FP.dadd (4607182418800017408 : UInt64) (FP.dadd (FP.dmul xx xx) (FP.dmul yy yy))))), .second, .unset, .unset, .unset, .unset, .unset] [(.double (4611686018427387904 : UInt64))]))
  refine GoesW.st (fun t_ k_ => XS.dload X57.here hx rfl (hb hby at_105) rfl  k_) ?_
  show GoesW p e below s _ _ _ (T57.setTop (mkF m 107 #[.val (.int qa), .val (.int qb), .val (.double xx), .second, .val (.double yy), .second, .val (.ref b48), .val (.ref b50), .val (.ref x), .val (.int (1 : Int32)), .val (.double (FP.dadd (FP.dmul xx xx) (FP.dmul yy yy))), .second, .val (.double (FP.ddiv (FP.dmul (4611686018427387904 : UInt64) xx) (FP.dadd (4607182418800017408 : UInt64) (FP.dadd (FP.dmul xx xx) (FP.dmul yy yy))))), .second, .unset, .unset, .unset, .unset, .unset] [(.double yy), (.double (4611686018427387904 : UInt64))]))
  refine GoesW.st (fun t_ k_ => XS.dmulS X57.here hx rfl (hb hby at_107) rfl (Jvm.OwnNum.own_nan f6) rfl k_) ?_
  show GoesW p e below s _ _ _ (T57.setTop (mkF m 108 #[.val (.int qa), .val (.int qb), .val (.double xx), .second, .val (.double yy), .second, .val (.ref b48), .val (.ref b50), .val (.ref x), .val (.int (1 : Int32)), .val (.double (FP.dadd (FP.dmul xx xx) (FP.dmul yy yy))), .second, .val (.double (FP.ddiv (FP.dmul (4611686018427387904 : UInt64) xx) (FP.dadd (4607182418800017408 : UInt64) (FP.dadd (FP.dmul xx xx) (FP.dmul yy yy))))), .second, .unset, .unset, .unset, .unset, .unset] [(.double (FP.dmul (4611686018427387904 : UInt64) yy))]))
  refine GoesW.st (fun t_ k_ => XS.dconst1 X57.here hx rfl (hb hby at_108) (by first | rfl | decide +kernel) k_) ?_
  show GoesW p e below s _ _ _ (T57.setTop (mkF m 109 #[.val (.int qa), .val (.int qb), .val (.double xx), .second, .val (.double yy), .second, .val (.ref b48), .val (.ref b50), .val (.ref x), .val (.int (1 : Int32)), .val (.double (FP.dadd (FP.dmul xx xx) (FP.dmul yy yy))), .second, .val (.double (FP.ddiv (FP.dmul (4611686018427387904 : UInt64) xx) (FP.dadd (4607182418800017408 : UInt64) (FP.dadd (FP.dmul xx xx) (FP.dmul yy yy))))), .second, .unset, .unset, .unset, .unset, .unset] [(.double (4607182418800017408 : UInt64)), (.double (FP.dmul (4611686018427387904 : UInt64) yy))]))
  refine GoesW.st (fun t_ k_ => XS.dload X57.here hx rfl (hb hby at_109) rfl  k_) ?_
  show GoesW p e below s _ _ _ (T57.setTop (mkF m 111 #[.val (.int qa), .val (.int qb), .val (.double xx), .second, .val (.double yy), .second, .val (.ref b48), .val (.ref b50), .val (.ref x), .val (.int (1 : Int32)), .val (.double (FP.dadd (FP.dmul xx xx) (FP.dmul yy yy))), .second, .val (.double (FP.ddiv (FP.dmul (4611686018427387904 : UInt64) xx) (FP.dadd (4607182418800017408 : UInt64) (FP.dadd (FP.dmul xx xx) (FP.dmul yy yy))))), .second, .unset, .unset, .unset, .unset, .unset] [(.double (FP.dadd (FP.dmul xx xx) (FP.dmul yy yy))), (.double (4607182418800017408 : UInt64)), (.double (FP.dmul (4611686018427387904 : UInt64) yy))]))
  refine GoesW.st (fun t_ k_ => XS.daddS X57.here hx rfl (hb hby at_111) rfl (Jvm.OwnNum.own_nan f4) rfl k_) ?_
  show GoesW p e below s _ _ _ (T57.setTop (mkF m 112 #[.val (.int qa), .val (.int qb), .val (.double xx), .second, .val (.double yy), .second, .val (.ref b48), .val (.ref b50), .val (.ref x), .val (.int (1 : Int32)), .val (.double (FP.dadd (FP.dmul xx xx) (FP.dmul yy yy))), .second, .val (.double (FP.ddiv (FP.dmul (4611686018427387904 : UInt64) xx) (FP.dadd (4607182418800017408 : UInt64) (FP.dadd (FP.dmul xx xx) (FP.dmul yy yy))))), .second, .unset, .unset, .unset, .unset, .unset] [(.double (FP.dadd (4607182418800017408 : UInt64) (FP.dadd (FP.dmul xx xx) (FP.dmul yy yy)))), (.double (FP.dmul (4611686018427387904 : UInt64) yy))]))
  refine GoesW.st (fun t_ k_ => XS.ddivS X57.here hx rfl (hb hby at_112) rfl (Jvm.OwnNum.own_nan f8) rfl k_) ?_
  show GoesW p e below s _ _ _ (T57.setTop (mkF m 113 #[.val (.int qa), .val (.int qb), .val (.double xx), .second, .val (.double yy), .second, .val (.ref b48), .val (.ref b50), .val (.ref x), .val (.int (1 : Int32)), .val (.double (FP.dadd (FP.dmul xx xx) (FP.dmul yy yy))), .second, .val (.double (FP.ddiv (FP.dmul (4611686018427387904 : UInt64) xx) (FP.dadd (4607182418800017408 : UInt64) (FP.dadd (FP.dmul xx xx) (FP.dmul yy yy))))), .second, .unset, .unset, .unset, .unset, .unset] [(.double (FP.ddiv (FP.dmul (4611686018427387904 : UInt64) yy) (FP.dadd (4607182418800017408 : UInt64) (FP.dadd (FP.dmul xx xx) (FP.dmul yy yy)))))]))
  refine GoesW.st (fun t_ k_ => XS.dstore X57.here hx rfl (hb hby at_113) rfl  (l' := #[.val (.int qa), .val (.int qb), .val (.double xx), .second, .val (.double yy), .second, .val (.ref b48), .val (.ref b50), .val (.ref x), .val (.int (1 : Int32)), .val (.double (FP.dadd (FP.dmul xx xx) (FP.dmul yy yy))), .second, .val (.double (FP.ddiv (FP.dmul (4611686018427387904 : UInt64) xx) (FP.dadd (4607182418800017408 : UInt64) (FP.dadd (FP.dmul xx xx) (FP.dmul yy yy))))), .second, .val (.double (FP.ddiv (FP.dmul (4611686018427387904 : UInt64) yy) (FP.dadd (4607182418800017408 : UInt64) (FP.dadd (FP.dmul xx xx) (FP.dmul yy yy))))), .second, .unset, .unset, .unset]) rfl k_) ?_
  show GoesW p e below s _ _ _ (T57.setTop (mkF m 115 #[.val (.int qa), .val (.int qb), .val (.double xx), .second, .val (.double yy), .second, .val (.ref b48), .val (.ref b50), .val (.ref x), .val (.int (1 : Int32)), .val (.double (FP.dadd (FP.dmul xx xx) (FP.dmul yy yy))), .second, .val (.double (FP.ddiv (FP.dmul (4611686018427387904 : UInt64) xx) (FP.dadd (4607182418800017408 : UInt64) (FP.dadd (FP.dmul xx xx) (FP.dmul yy yy))))), .second, .val (.double (FP.ddiv (FP.dmul (4611686018427387904 : UInt64) yy) (FP.dadd (4607182418800017408 : UInt64) (FP.dadd (FP.dmul xx xx) (FP.dmul yy yy))))), .second, .unset, .unset, .unset] []))
  obtain ⟨kkx, hd_kkx⟩ : ∃ z : UInt64, z = (FP.ddiv (FP.dmul (4611686018427387904 : UInt64) xx) (FP.dadd (4607182418800017408 : UInt64) (FP.dadd (FP.dmul xx xx) (FP.dmul yy yy)))) := ⟨_, rfl⟩
  have hb_kkx : ¬ (0 : Int32) < cmpValue (FP.dcmp (13830554455654793216 : UInt64) kkx) .g ∧ ¬ (0 : Int32) < cmpValue (FP.dcmp kkx (4607182418800017408 : UInt64)) .g := by rw [hd_kkx]; exact ⟨c1, c2⟩
  rw [← hd_kkx]
  show GoesW p e below s _ _ _ (T57.setTop (mkF m 115 #[.val (.int qa), .val (.int qb), .val (.double xx), .second, .val (.double yy), .second, .val (.ref b48), .val (.ref b50), .val (.ref x), .val (.int (1 : Int32)), .val (.double (FP.dadd (FP.dmul xx xx) (FP.dmul yy yy))), .second, .val (.double kkx), .second, .val (.double (FP.ddiv (FP.dmul (4611686018427387904 : UInt64) yy) (FP.dadd (4607182418800017408 : UInt64) (FP.dadd (FP.dmul xx xx) (FP.dmul yy yy))))), .second, .unset, .unset, .unset] []))
  obtain ⟨kky, hd_kky⟩ : ∃ z : UInt64, z = (FP.ddiv (FP.dmul (4611686018427387904 : UInt64) yy) (FP.dadd (4607182418800017408 : UInt64) (FP.dadd (FP.dmul xx xx) (FP.dmul yy yy)))) := ⟨_, rfl⟩
  have hb_kky : ¬ (0 : Int32) < cmpValue (FP.dcmp (13830554455654793216 : UInt64) kky) .g ∧ ¬ (0 : Int32) < cmpValue (FP.dcmp kky (4607182418800017408 : UInt64)) .g := by rw [hd_kky]; exact ⟨c3, c4⟩
  rw [← hd_kky]
  show GoesW p e below s _ _ _ (T57.setTop (mkF m 115 #[.val (.int qa), .val (.int qb), .val (.double xx), .second, .val (.double yy), .second, .val (.ref b48), .val (.ref b50), .val (.ref x), .val (.int (1 : Int32)), .val (.double (FP.dadd (FP.dmul xx xx) (FP.dmul yy yy))), .second, .val (.double kkx), .second, .val (.double kky), .second, .unset, .unset, .unset] []))
  clear hd_kkx hd_kky f7 f8 c1 c2 c3 c4
  show GoesW p e below s _ _ _ (T57.setTop (mkF m 115 #[.val (.int qa), .val (.int qb), .val (.double xx), .second, .val (.double yy), .second, .val (.ref b48), .val (.ref b50), .val (.ref x), .val (.int (1 : Int32)), .val (.double (FP.dadd (FP.dmul xx xx) (FP.dmul yy yy))), .second, .val (.double kkx), .second, .val (.double kky), .second, .unset, .unset, .unset] []))
  refine GoesW.st (fun t_ k_ => XS.aload X57.here hx rfl (hb hby at_115) rfl rfl k_) ?_
  show GoesW p e below s _ _ _ (T57.setTop (mkF m 117 #[.val (.int qa), .val (.int qb), .val (.double xx), .second, .val (.double yy), .second, .val (.ref b48), .val (.ref b50), .val (.ref x), .val (.int (1 : Int32)), .val (.double (FP.dadd (FP.dmul xx xx) (FP.dmul yy yy))), .second, .val (.double kkx), .second, .val (.double kky), .second, .unset, .unset, .unset] [(.ref x)]))
  refine GoesW.st (fun t_ k_ => XS.iconst X57.here hx rfl (hb hby at_117) k_) ?_
  show GoesW p e below s _ _ _ (T57.setTop (mkF m 118 #[.val (.int qa), .val (.int qb), .val (.double xx), .second, .val (.double yy), .second, .val (.ref b48), .val (.ref b50), .val (.ref x), .val (.int (1 : Int32)), .val (.double (FP.dadd (FP.dmul xx xx) (FP.dmul yy yy))), .second, .val (.double kkx), .second, .val (.double kky), .second, .unset, .unset, .unset] [(.int (0 : Int32)), (.ref x)]))
  have VV58 := V_x
  obtain ⟨cl58, Ar58, -, S58, M58, H58, -⟩ := VV58
  have hin58 := inb_of S58 (j := (0 : Int32)) ⟨by decide, by decide⟩
  refine GoesW.st (fun t_ k_ => X57.aaload hx (j := (0 : Int32)) (v := (.ref r0)) (by rw [EQ2]; exact Ar58.1) (State.isArrayOf_alike hZ.alike Ar58.2.1) rfl Ar58.2.2 hin58 (Has.at H58 hin58 rfl) (g := (mkF m 118 #[.val (.int qa), .val (.int qb), .val (.double xx), .second, .val (.double yy), .second, .val (.ref b48), .val (.ref b50), .val (.ref x), .val (.int (1 : Int32)), .val (.double (FP.dadd (FP.dmul xx xx) (FP.dmul yy yy))), .second, .val (.double kkx), .second, .val (.double kky), .second, .unset, .unset, .unset] [(.int (0 : Int32)), (.ref x)])) rfl rfl (hb hby at_118) _ k_) ?_
  show GoesW p e below s _ _ _ (T57.setTop (mkF m 119 #[.val (.int qa), .val (.int qb), .val (.double xx), .second, .val (.double yy), .second, .val (.ref b48), .val (.ref b50), .val (.ref x), .val (.int (1 : Int32)), .val (.double (FP.dadd (FP.dmul xx xx) (FP.dmul yy yy))), .second, .val (.double kkx), .second, .val (.double kky), .second, .unset, .unset, .unset] [(.ref r0)]))
  refine GoesW.st (fun t_ k_ => XS.iconst X57.here hx rfl (hb hby at_119) k_) ?_
  show GoesW p e below s _ _ _ (T57.setTop (mkF m 120 #[.val (.int qa), .val (.int qb), .val (.double xx), .second, .val (.double yy), .second, .val (.ref b48), .val (.ref b50), .val (.ref x), .val (.int (1 : Int32)), .val (.double (FP.dadd (FP.dmul xx xx) (FP.dmul yy yy))), .second, .val (.double kkx), .second, .val (.double kky), .second, .unset, .unset, .unset] [(.int (0 : Int32)), (.ref r0)]))
  have VV59 := V_r0
  obtain ⟨cl59, Ar59, -, S59, M59, H59, -⟩ := VV59
  have hin59 := inb_of S59 (j := (0 : Int32)) ⟨by decide, by decide⟩
  refine GoesW.st (fun t_ k_ => X57.daload hx (j := (0 : Int32)) (v := (.double (13830554455654793216 : UInt64))) (by rw [EQ2]; exact Ar59.1) (State.isArrayOf_alike hZ.alike Ar59.2.1) Ar59.2.2 hin59 (Has.at H59 hin59 rfl) (g := (mkF m 120 #[.val (.int qa), .val (.int qb), .val (.double xx), .second, .val (.double yy), .second, .val (.ref b48), .val (.ref b50), .val (.ref x), .val (.int (1 : Int32)), .val (.double (FP.dadd (FP.dmul xx xx) (FP.dmul yy yy))), .second, .val (.double kkx), .second, .val (.double kky), .second, .unset, .unset, .unset] [(.int (0 : Int32)), (.ref r0)])) rfl rfl (hb hby at_120) _ k_) ?_
  show GoesW p e below s _ _ _ (T57.setTop (mkF m 121 #[.val (.int qa), .val (.int qb), .val (.double xx), .second, .val (.double yy), .second, .val (.ref b48), .val (.ref b50), .val (.ref x), .val (.int (1 : Int32)), .val (.double (FP.dadd (FP.dmul xx xx) (FP.dmul yy yy))), .second, .val (.double kkx), .second, .val (.double kky), .second, .unset, .unset, .unset] [(.double (13830554455654793216 : UInt64))]))
  refine GoesW.st (fun t_ k_ => XS.dload X57.here hx rfl (hb hby at_121) rfl  k_) ?_
  show GoesW p e below s _ _ _ (T57.setTop (mkF m 123 #[.val (.int qa), .val (.int qb), .val (.double xx), .second, .val (.double yy), .second, .val (.ref b48), .val (.ref b50), .val (.ref x), .val (.int (1 : Int32)), .val (.double (FP.dadd (FP.dmul xx xx) (FP.dmul yy yy))), .second, .val (.double kkx), .second, .val (.double kky), .second, .unset, .unset, .unset] [(.double kkx), (.double (13830554455654793216 : UInt64))]))
  refine GoesW.st (fun t_ k_ => XS.dcmpS X57.here hx rfl (hb hby at_123) rfl rfl k_) ?_
  show GoesW p e below s _ _ _ (T57.setTop (mkF m 124 #[.val (.int qa), .val (.int qb), .val (.double xx), .second, .val (.double yy), .second, .val (.ref b48), .val (.ref b50), .val (.ref x), .val (.int (1 : Int32)), .val (.double (FP.dadd (FP.dmul xx xx) (FP.dmul yy yy))), .second, .val (.double kkx), .second, .val (.double kky), .second, .unset, .unset, .unset] [(.int (cmpValue (FP.dcmp (13830554455654793216 : UInt64) kkx) .g))]))
  refine GoesW.st (fun t_ k_ => XS.ifNo X57.here hx rfl (hb hby at_124) rfl ((if0 _ _).trans (flt hb_kkx.1).2.2.1) k_) ?_
  show GoesW p e below s _ _ _ (T57.setTop (mkF m 127 #[.val (.int qa), .val (.int qb), .val (.double xx), .second, .val (.double yy), .second, .val (.ref b48), .val (.ref b50), .val (.ref x), .val (.int (1 : Int32)), .val (.double (FP.dadd (FP.dmul xx xx) (FP.dmul yy yy))), .second, .val (.double kkx), .second, .val (.double kky), .second, .unset, .unset, .unset] []))
  refine GoesW.st (fun t_ k_ => XS.dload X57.here hx rfl (hb hby at_127) rfl  k_) ?_
  show GoesW p e below s _ _ _ (T57.setTop (mkF m 129 #[.val (.int qa), .val (.int qb), .val (.double xx), .second, .val (.double yy), .second, .val (.ref b48), .val (.ref b50), .val (.ref x), .val (.int (1 : Int32)), .val (.double (FP.dadd (FP.dmul xx xx) (FP.dmul yy yy))), .second, .val (.double kkx), .second, .val (.double kky), .second, .unset, .unset, .unset] [(.double kkx)]))
  refine GoesW.st (fun t_ k_ => XS.aload X57.here hx rfl (hb hby at_129) rfl rfl k_) ?_
  show GoesW p e below s _ _ _ (T57.setTop (mkF m 131 #[.val (.int qa), .val (.int qb), .val (.double xx), .second, .val (.double yy), .second, .val (.ref b48), .val (.ref b50), .val (.ref x), .val (.int (1 : Int32)), .val (.double (FP.dadd (FP.dmul xx xx) (FP.dmul yy yy))), .second, .val (.double kkx), .second, .val (.double kky), .second, .unset, .unset, .unset] [(.ref x), (.double kkx)]))
  refine GoesW.st (fun t_ k_ => XS.iconst X57.here hx rfl (hb hby at_131) k_) ?_
  show GoesW p e below s _ _ _ (T57.setTop (mkF m 132 #[.val (.int qa), .val (.int qb), .val (.double xx), .second, .val (.double yy), .second, .val (.ref b48), .val (.ref b50), .val (.ref x), .val (.int (1 : Int32)), .val (.double (FP.dadd (FP.dmul xx xx) (FP.dmul yy yy))), .second, .val (.double kkx), .second, .val (.double kky), .second, .unset, .unset, .unset] [(.int (1 : Int32)), (.ref x), (.double kkx)]))
  have VV60 := V_x
  obtain ⟨cl60, Ar60, -, S60, M60, H60, -⟩ := VV60
  have hin60 := inb_of S60 (j := (1 : Int32)) ⟨by decide, by decide⟩
  refine GoesW.st (fun t_ k_ => X57.aaload hx (j := (1 : Int32)) (v := (.ref r1)) (by rw [EQ2]; exact Ar60.1) (State.isArrayOf_alike hZ.alike Ar60.2.1) rfl Ar60.2.2 hin60 (Has.at H60 hin60 rfl) (g := (mkF m 132 #[.val (.int qa), .val (.int qb), .val (.double xx), .second, .val (.double yy), .second, .val (.ref b48), .val (.ref b50), .val (.ref x), .val (.int (1 : Int32)), .val (.double (FP.dadd (FP.dmul xx xx) (FP.dmul yy yy))), .second, .val (.double kkx), .second, .val (.double kky), .second, .unset, .unset, .unset] [(.int (1 : Int32)), (.ref x), (.double kkx)])) rfl rfl (hb hby at_132) _ k_) ?_
  show GoesW p e below s _ _ _ (T57.setTop (mkF m 133 #[.val (.int qa), .val (.int qb), .val (.double xx), .second, .val (.double yy), .second, .val (.ref b48), .val (.ref b50), .val (.ref x), .val (.int (1 : Int32)), .val (.double (FP.dadd (FP.dmul xx xx) (FP.dmul yy yy))), .second, .val (.double kkx), .second, .val (.double kky), .second, .unset, .unset, .unset] [(.ref r1), (.double kkx)]))
  refine GoesW.st (fun t_ k_ => XS.iconst X57.here hx rfl (hb hby at_133) k_) ?_
  show GoesW p e below s _ _ _ (T57.setTop (mkF m 134 #[.val (.int qa), .val (.int qb), .val (.double xx), .second, .val (.double yy), .second, .val (.ref b48), .val (.ref b50), .val (.ref x), .val (.int (1 : Int32)), .val (.double (FP.dadd (FP.dmul xx xx) (FP.dmul yy yy))), .second, .val (.double kkx), .second, .val (.double kky), .second, .unset, .unset, .unset] [(.int (0 : Int32)), (.ref r1), (.double kkx)]))
  have VV61 := V_r1
  obtain ⟨cl61, Ar61, -, S61, M61, H61, -⟩ := VV61
  have hin61 := inb_of S61 (j := (0 : Int32)) ⟨by decide, by decide⟩
  refine GoesW.st (fun t_ k_ => X57.daload hx (j := (0 : Int32)) (v := (.double (4607182418800017408 : UInt64))) (by rw [EQ2]; exact Ar61.1) (State.isArrayOf_alike hZ.alike Ar61.2.1) Ar61.2.2 hin61 (Has.at H61 hin61 rfl) (g := (mkF m 134 #[.val (.int qa), .val (.int qb), .val (.double xx), .second, .val (.double yy), .second, .val (.ref b48), .val (.ref b50), .val (.ref x), .val (.int (1 : Int32)), .val (.double (FP.dadd (FP.dmul xx xx) (FP.dmul yy yy))), .second, .val (.double kkx), .second, .val (.double kky), .second, .unset, .unset, .unset] [(.int (0 : Int32)), (.ref r1), (.double kkx)])) rfl rfl (hb hby at_134) _ k_) ?_
  show GoesW p e below s _ _ _ (T57.setTop (mkF m 135 #[.val (.int qa), .val (.int qb), .val (.double xx), .second, .val (.double yy), .second, .val (.ref b48), .val (.ref b50), .val (.ref x), .val (.int (1 : Int32)), .val (.double (FP.dadd (FP.dmul xx xx) (FP.dmul yy yy))), .second, .val (.double kkx), .second, .val (.double kky), .second, .unset, .unset, .unset] [(.double (4607182418800017408 : UInt64)), (.double kkx)]))
  refine GoesW.st (fun t_ k_ => XS.dcmpS X57.here hx rfl (hb hby at_135) rfl rfl k_) ?_
  show GoesW p e below s _ _ _ (T57.setTop (mkF m 136 #[.val (.int qa), .val (.int qb), .val (.double xx), .second, .val (.double yy), .second, .val (.ref b48), .val (.ref b50), .val (.ref x), .val (.int (1 : Int32)), .val (.double (FP.dadd (FP.dmul xx xx) (FP.dmul yy yy))), .second, .val (.double kkx), .second, .val (.double kky), .second, .unset, .unset, .unset] [(.int (cmpValue (FP.dcmp kkx (4607182418800017408 : UInt64)) .g))]))
  refine GoesW.st (fun t_ k_ => XS.ifNo X57.here hx rfl (hb hby at_136) rfl ((if0 _ _).trans (flt hb_kkx.2).2.2.1) k_) ?_
  show GoesW p e below s _ _ _ (T57.setTop (mkF m 139 #[.val (.int qa), .val (.int qb), .val (.double xx), .second, .val (.double yy), .second, .val (.ref b48), .val (.ref b50), .val (.ref x), .val (.int (1 : Int32)), .val (.double (FP.dadd (FP.dmul xx xx) (FP.dmul yy yy))), .second, .val (.double kkx), .second, .val (.double kky), .second, .unset, .unset, .unset] []))
  refine GoesW.st (fun t_ k_ => XS.aload X57.here hx rfl (hb hby at_139) rfl rfl k_) ?_
  show GoesW p e below s _ _ _ (T57.setTop (mkF m 141 #[.val (.int qa), .val (.int qb), .val (.double xx), .second, .val (.double yy), .second, .val (.ref b48), .val (.ref b50), .val (.ref x), .val (.int (1 : Int32)), .val (.double (FP.dadd (FP.dmul xx xx) (FP.dmul yy yy))), .second, .val (.double kkx), .second, .val (.double kky), .second, .unset, .unset, .unset] [(.ref x)]))
  refine GoesW.st (fun t_ k_ => XS.iconst X57.here hx rfl (hb hby at_141) k_) ?_
  show GoesW p e below s _ _ _ (T57.setTop (mkF m 142 #[.val (.int qa), .val (.int qb), .val (.double xx), .second, .val (.double yy), .second, .val (.ref b48), .val (.ref b50), .val (.ref x), .val (.int (1 : Int32)), .val (.double (FP.dadd (FP.dmul xx xx) (FP.dmul yy yy))), .second, .val (.double kkx), .second, .val (.double kky), .second, .unset, .unset, .unset] [(.int (0 : Int32)), (.ref x)]))
  have VV62 := V_x
  obtain ⟨cl62, Ar62, -, S62, M62, H62, -⟩ := VV62
  have hin62 := inb_of S62 (j := (0 : Int32)) ⟨by decide, by decide⟩
  refine GoesW.st (fun t_ k_ => X57.aaload hx (j := (0 : Int32)) (v := (.ref r0)) (by rw [EQ2]; exact Ar62.1) (State.isArrayOf_alike hZ.alike Ar62.2.1) rfl Ar62.2.2 hin62 (Has.at H62 hin62 rfl) (g := (mkF m 142 #[.val (.int qa), .val (.int qb), .val (.double xx), .second, .val (.double yy), .second, .val (.ref b48), .val (.ref b50), .val (.ref x), .val (.int (1 : Int32)), .val (.double (FP.dadd (FP.dmul xx xx) (FP.dmul yy yy))), .second, .val (.double kkx), .second, .val (.double kky), .second, .unset, .unset, .unset] [(.int (0 : Int32)), (.ref x)])) rfl rfl (hb hby at_142) _ k_) ?_
  show GoesW p e below s _ _ _ (T57.setTop (mkF m 143 #[.val (.int qa), .val (.int qb), .val (.double xx), .second, .val (.double yy), .second, .val (.ref b48), .val (.ref b50), .val (.ref x), .val (.int (1 : Int32)), .val (.double (FP.dadd (FP.dmul xx xx) (FP.dmul yy yy))), .second, .val (.double kkx), .second, .val (.double kky), .second, .unset, .unset, .unset] [(.ref r0)]))
  refine GoesW.st (fun t_ k_ => XS.iconst X57.here hx rfl (hb hby at_143) k_) ?_
  show GoesW p e below s _ _ _ (T57.setTop (mkF m 144 #[.val (.int qa), .val (.int qb), .val (.double xx), .second, .val (.double yy), .second, .val (.ref b48), .val (.ref b50), .val (.ref x), .val (.int (1 : Int32)), .val (.double (FP.dadd (FP.dmul xx xx) (FP.dmul yy yy))), .second, .val (.double kkx), .second, .val (.double kky), .second, .unset, .unset, .unset] [(.int (1 : Int32)), (.ref r0)]))
  have VV63 := V_r0
  obtain ⟨cl63, Ar63, -, S63, M63, H63, -⟩ := VV63
  have hin63 := inb_of S63 (j := (1 : Int32)) ⟨by decide, by decide⟩
  refine GoesW.st (fun t_ k_ => X57.daload hx (j := (1 : Int32)) (v := (.double (13830554455654793216 : UInt64))) (by rw [EQ2]; exact Ar63.1) (State.isArrayOf_alike hZ.alike Ar63.2.1) Ar63.2.2 hin63 (Has.at H63 hin63 rfl) (g := (mkF m 144 #[.val (.int qa), .val (.int qb), .val (.double xx), .second, .val (.double yy), .second, .val (.ref b48), .val (.ref b50), .val (.ref x), .val (.int (1 : Int32)), .val (.double (FP.dadd (FP.dmul xx xx) (FP.dmul yy yy))), .second, .val (.double kkx), .second, .val (.double kky), .second, .unset, .unset, .unset] [(.int (1 : Int32)), (.ref r0)])) rfl rfl (hb hby at_144) _ k_) ?_
  show GoesW p e below s _ _ _ (T57.setTop (mkF m 145 #[.val (.int qa), .val (.int qb), .val (.double xx), .second, .val (.double yy), .second, .val (.ref b48), .val (.ref b50), .val (.ref x), .val (.int (1 : Int32)), .val (.double (FP.dadd (FP.dmul xx xx) (FP.dmul yy yy))), .second, .val (.double kkx), .second, .val (.double kky), .second, .unset, .unset, .unset] [(.double (13830554455654793216 : UInt64))]))
  refine GoesW.st (fun t_ k_ => XS.dload X57.here hx rfl (hb hby at_145) rfl  k_) ?_
  show GoesW p e below s _ _ _ (T57.setTop (mkF m 147 #[.val (.int qa), .val (.int qb), .val (.double xx), .second, .val (.double yy), .second, .val (.ref b48), .val (.ref b50), .val (.ref x), .val (.int (1 : Int32)), .val (.double (FP.dadd (FP.dmul xx xx) (FP.dmul yy yy))), .second, .val (.double kkx), .second, .val (.double kky), .second, .unset, .unset, .unset] [(.double kky), (.double (13830554455654793216 : UInt64))]))
  refine GoesW.st (fun t_ k_ => XS.dcmpS X57.here hx rfl (hb hby at_147) rfl rfl k_) ?_
  show GoesW p e below s _ _ _ (T57.setTop (mkF m 148 #[.val (.int qa), .val (.int qb), .val (.double xx), .second, .val (.double yy), .second, .val (.ref b48), .val (.ref b50), .val (.ref x), .val (.int (1 : Int32)), .val (.double (FP.dadd (FP.dmul xx xx) (FP.dmul yy yy))), .second, .val (.double kkx), .second, .val (.double kky), .second, .unset, .unset, .unset] [(.int (cmpValue (FP.dcmp (13830554455654793216 : UInt64) kky) .g))]))
  refine GoesW.st (fun t_ k_ => XS.ifNo X57.here hx rfl (hb hby at_148) rfl ((if0 _ _).trans (flt hb_kky.1).2.2.1) k_) ?_
  show GoesW p e below s _ _ _ (T57.setTop (mkF m 151 #[.val (.int qa), .val (.int qb), .val (.double xx), .second, .val (.double yy), .second, .val (.ref b48), .val (.ref b50), .val (.ref x), .val (.int (1 : Int32)), .val (.double (FP.dadd (FP.dmul xx xx) (FP.dmul yy yy))), .second, .val (.double kkx), .second, .val (.double kky), .second, .unset, .unset, .unset] []))
  refine GoesW.st (fun t_ k_ => XS.dload X57.here hx rfl (hb hby at_151) rfl  k_) ?_
  show GoesW p e below s _ _ _ (T57.setTop (mkF m 153 #[.val (.int qa), .val (.int qb), .val (.double xx), .second, .val (.double yy), .second, .val (.ref b48), .val (.ref b50), .val (.ref x), .val (.int (1 : Int32)), .val (.double (FP.dadd (FP.dmul xx xx) (FP.dmul yy yy))), .second, .val (.double kkx), .second, .val (.double kky), .second, .unset, .unset, .unset] [(.double kky)]))
  refine GoesW.st (fun t_ k_ => XS.aload X57.here hx rfl (hb hby at_153) rfl rfl k_) ?_
  show GoesW p e below s _ _ _ (T57.setTop (mkF m 155 #[.val (.int qa), .val (.int qb), .val (.double xx), .second, .val (.double yy), .second, .val (.ref b48), .val (.ref b50), .val (.ref x), .val (.int (1 : Int32)), .val (.double (FP.dadd (FP.dmul xx xx) (FP.dmul yy yy))), .second, .val (.double kkx), .second, .val (.double kky), .second, .unset, .unset, .unset] [(.ref x), (.double kky)]))
  refine GoesW.st (fun t_ k_ => XS.iconst X57.here hx rfl (hb hby at_155) k_) ?_
  show GoesW p e below s _ _ _ (T57.setTop (mkF m 156 #[.val (.int qa), .val (.int qb), .val (.double xx), .second, .val (.double yy), .second, .val (.ref b48), .val (.ref b50), .val (.ref x), .val (.int (1 : Int32)), .val (.double (FP.dadd (FP.dmul xx xx) (FP.dmul yy yy))), .second, .val (.double kkx), .second, .val (.double kky), .second, .unset, .unset, .unset] [(.int (1 : Int32)), (.ref x), (.double kky)]))
  have VV64 := V_x
  obtain ⟨cl64, Ar64, -, S64, M64, H64, -⟩ := VV64
  have hin64 := inb_of S64 (j := (1 : Int32)) ⟨by decide, by decide⟩
  refine GoesW.st (fun t_ k_ => X57.aaload hx (j := (1 : Int32)) (v := (.ref r1)) (by rw [EQ2]; exact Ar64.1) (State.isArrayOf_alike hZ.alike Ar64.2.1) rfl Ar64.2.2 hin64 (Has.at H64 hin64 rfl) (g := (mkF m 156 #[.val (.int qa), .val (.int qb), .val (.double xx), .second, .val (.double yy), .second, .val (.ref b48), .val (.ref b50), .val (.ref x), .val (.int (1 : Int32)), .val (.double (FP.dadd (FP.dmul xx xx) (FP.dmul yy yy))), .second, .val (.double kkx), .second, .val (.double kky), .second, .unset, .unset, .unset] [(.int (1 : Int32)), (.ref x), (.double kky)])) rfl rfl (hb hby at_156) _ k_) ?_
  show GoesW p e below s _ _ _ (T57.setTop (mkF m 157 #[.val (.int qa), .val (.int qb), .val (.double xx), .second, .val (.double yy), .second, .val (.ref b48), .val (.ref b50), .val (.ref x), .val (.int (1 : Int32)), .val (.double (FP.dadd (FP.dmul xx xx) (FP.dmul yy yy))), .second, .val (.double kkx), .second, .val (.double kky), .second, .unset, .unset, .unset] [(.ref r1), (.double kky)]))
  refine GoesW.st (fun t_ k_ => XS.iconst X57.here hx rfl (hb hby at_157) k_) ?_
  show GoesW p e below s _ _ _ (T57.setTop (mkF m 158 #[.val (.int qa), .val (.int qb), .val (.double xx), .second, .val (.double yy), .second, .val (.ref b48), .val (.ref b50), .val (.ref x), .val (.int (1 : Int32)), .val (.double (FP.dadd (FP.dmul xx xx) (FP.dmul yy yy))), .second, .val (.double kkx), .second, .val (.double kky), .second, .unset, .unset, .unset] [(.int (1 : Int32)), (.ref r1), (.double kky)]))
  have VV65 := V_r1
  obtain ⟨cl65, Ar65, -, S65, M65, H65, -⟩ := VV65
  have hin65 := inb_of S65 (j := (1 : Int32)) ⟨by decide, by decide⟩
  refine GoesW.st (fun t_ k_ => X57.daload hx (j := (1 : Int32)) (v := (.double (4607182418800017408 : UInt64))) (by rw [EQ2]; exact Ar65.1) (State.isArrayOf_alike hZ.alike Ar65.2.1) Ar65.2.2 hin65 (Has.at H65 hin65 rfl) (g := (mkF m 158 #[.val (.int qa), .val (.int qb), .val (.double xx), .second, .val (.double yy), .second, .val (.ref b48), .val (.ref b50), .val (.ref x), .val (.int (1 : Int32)), .val (.double (FP.dadd (FP.dmul xx xx) (FP.dmul yy yy))), .second, .val (.double kkx), .second, .val (.double kky), .second, .unset, .unset, .unset] [(.int (1 : Int32)), (.ref r1), (.double kky)])) rfl rfl (hb hby at_158) _ k_) ?_
  show GoesW p e below s _ _ _ (T57.setTop (mkF m 159 #[.val (.int qa), .val (.int qb), .val (.double xx), .second, .val (.double yy), .second, .val (.ref b48), .val (.ref b50), .val (.ref x), .val (.int (1 : Int32)), .val (.double (FP.dadd (FP.dmul xx xx) (FP.dmul yy yy))), .second, .val (.double kkx), .second, .val (.double kky), .second, .unset, .unset, .unset] [(.double (4607182418800017408 : UInt64)), (.double kky)]))
  refine GoesW.st (fun t_ k_ => XS.dcmpS X57.here hx rfl (hb hby at_159) rfl rfl k_) ?_
  show GoesW p e below s _ _ _ (T57.setTop (mkF m 160 #[.val (.int qa), .val (.int qb), .val (.double xx), .second, .val (.double yy), .second, .val (.ref b48), .val (.ref b50), .val (.ref x), .val (.int (1 : Int32)), .val (.double (FP.dadd (FP.dmul xx xx) (FP.dmul yy yy))), .second, .val (.double kkx), .second, .val (.double kky), .second, .unset, .unset, .unset] [(.int (cmpValue (FP.dcmp kky (4607182418800017408 : UInt64)) .g))]))
  refine GoesW.st (fun t_ k_ => XS.ifNo X57.here hx rfl (hb hby at_160) rfl ((if0 _ _).trans (flt hb_kky.2).2.2.1) k_) ?_
  show GoesW p e below s _ _ _ (T57.setTop (mkF m 163 #[.val (.int qa), .val (.int qb), .val (.double xx), .second, .val (.double yy), .second, .val (.ref b48), .val (.ref b50), .val (.ref x), .val (.int (1 : Int32)), .val (.double (FP.dadd (FP.dmul xx xx) (FP.dmul yy yy))), .second, .val (.double kkx), .second, .val (.double kky), .second, .unset, .unset, .unset] []))
  refine GoesW.st (fun t_ k_ => XS.aload X57.here hx rfl (hb hby at_163) rfl rfl k_) ?_
  show GoesW p e below s _ _ _ (T57.setTop (mkF m 165 #[.val (.int qa), .val (.int qb), .val (.double xx), .second, .val (.double yy), .second, .val (.ref b48), .val (.ref b50), .val (.ref x), .val (.int (1 : Int32)), .val (.double (FP.dadd (FP.dmul xx xx) (FP.dmul yy yy))), .second, .val (.double kkx), .second, .val (.double kky), .second, .unset, .unset, .unset] [(.ref x)]))
  refine GoesW.st (fun t_ k_ => XS.iconst X57.here hx rfl (hb hby at_165) k_) ?_
  show GoesW p e below s _ _ _ (T57.setTop (mkF m 166 #[.val (.int qa), .val (.int qb), .val (.double xx), .second, .val (.double yy), .second, .val (.ref b48), .val (.ref b50), .val (.ref x), .val (.int (1 : Int32)), .val (.double (FP.dadd (FP.dmul xx xx) (FP.dmul yy yy))), .second, .val (.double kkx), .second, .val (.double kky), .second, .unset, .unset, .unset] [(.int (0 : Int32)), (.ref x)]))
  have VV66 := V_x
  obtain ⟨cl66, Ar66, -, S66, M66, H66, -⟩ := VV66
  have hin66 := inb_of S66 (j := (0 : Int32)) ⟨by decide, by decide⟩
  refine GoesW.st (fun t_ k_ => X57.aaload hx (j := (0 : Int32)) (v := (.ref r0)) (by rw [EQ2]; exact Ar66.1) (State.isArrayOf_alike hZ.alike Ar66.2.1) rfl Ar66.2.2 hin66 (Has.at H66 hin66 rfl) (g := (mkF m 166 #[.val (.int qa), .val (.int qb), .val (.double xx), .second, .val (.double yy), .second, .val (.ref b48), .val (.ref b50), .val (.ref x), .val (.int (1 : Int32)), .val (.double (FP.dadd (FP.dmul xx xx) (FP.dmul yy yy))), .second, .val (.double kkx), .second, .val (.double kky), .second, .unset, .unset, .unset] [(.int (0 : Int32)), (.ref x)])) rfl rfl (hb hby at_166) _ k_) ?_
  show GoesW p e below s _ _ _ (T57.setTop (mkF m 167 #[.val (.int qa), .val (.int qb), .val (.double xx), .second, .val (.double yy), .second, .val (.ref b48), .val (.ref b50), .val (.ref x), .val (.int (1 : Int32)), .val (.double (FP.dadd (FP.dmul xx xx) (FP.dmul yy yy))), .second, .val (.double kkx), .second, .val (.double kky), .second, .unset, .unset, .unset] [(.ref r0)]))
  refine GoesW.st (fun t_ k_ => XS.iconst X57.here hx rfl (hb hby at_167) k_) ?_
  show GoesW p e below s _ _ _ (T57.setTop (mkF m 168 #[.val (.int qa), .val (.int qb), .val (.double xx), .second, .val (.double yy), .second, .val (.ref b48), .val (.ref b50), .val (.ref x), .val (.int (1 : Int32)), .val (.double (FP.dadd (FP.dmul xx xx) (FP.dmul yy yy))), .second, .val (.double kkx), .second, .val (.double kky), .second, .unset, .unset, .unset] [(.int (0 : Int32)), (.ref r0)]))
  have VV67 := V_r0
  obtain ⟨cl67, Ar67, -, S67, M67, H67, -⟩ := VV67
  have hin67 := inb_of S67 (j := (0 : Int32)) ⟨by decide, by decide⟩
  refine GoesW.st (fun t_ k_ => X57.daload hx (j := (0 : Int32)) (v := (.double (13830554455654793216 : UInt64))) (by rw [EQ2]; exact Ar67.1) (State.isArrayOf_alike hZ.alike Ar67.2.1) Ar67.2.2 hin67 (Has.at H67 hin67 rfl) (g := (mkF m 168 #[.val (.int qa), .val (.int qb), .val (.double xx), .second, .val (.double yy), .second, .val (.ref b48), .val (.ref b50), .val (.ref x), .val (.int (1 : Int32)), .val (.double (FP.dadd (FP.dmul xx xx) (FP.dmul yy yy))), .second, .val (.double kkx), .second, .val (.double kky), .second, .unset, .unset, .unset] [(.int (0 : Int32)), (.ref r0)])) rfl rfl (hb hby at_168) _ k_) ?_
  show GoesW p e below s _ _ _ (T57.setTop (mkF m 169 #[.val (.int qa), .val (.int qb), .val (.double xx), .second, .val (.double yy), .second, .val (.ref b48), .val (.ref b50), .val (.ref x), .val (.int (1 : Int32)), .val (.double (FP.dadd (FP.dmul xx xx) (FP.dmul yy yy))), .second, .val (.double kkx), .second, .val (.double kky), .second, .unset, .unset, .unset] [(.double (13830554455654793216 : UInt64))]))
  refine GoesW.st (fun t_ k_ => XS.aload X57.here hx rfl (hb hby at_169) rfl rfl k_) ?_
  show GoesW p e below s _ _ _ (T57.setTop (mkF m 171 #[.val (.int qa), .val (.int qb), .val (.double xx), .second, .val (.double yy), .second, .val (.ref b48), .val (.ref b50), .val (.ref x), .val (.int (1 : Int32)), .val (.double (FP.dadd (FP.dmul xx xx) (FP.dmul yy yy))), .second, .val (.double kkx), .second, .val (.double kky), .second, .unset, .unset, .unset] [(.ref x), (.double (13830554455654793216 : UInt64))]))
  refine GoesW.st (fun t_ k_ => XS.iconst X57.here hx rfl (hb hby at_171) k_) ?_
  show GoesW p e below s _ _ _ (T57.setTop (mkF m 172 #[.val (.int qa), .val (.int qb), .val (.double xx), .second, .val (.double yy), .second, .val (.ref b48), .val (.ref b50), .val (.ref x), .val (.int (1 : Int32)), .val (.double (FP.dadd (FP.dmul xx xx) (FP.dmul yy yy))), .second, .val (.double kkx), .second, .val (.double kky), .second, .unset, .unset, .unset] [(.int (1 : Int32)), (.ref x), (.double (13830554455654793216 : UInt64))]))
  have VV68 := V_x
  obtain ⟨cl68, Ar68, -, S68, M68, H68, -⟩ := VV68
  have hin68 := inb_of S68 (j := (1 : Int32)) ⟨by decide, by decide⟩
  refine GoesW.st (fun t_ k_ => X57.aaload hx (j := (1 : Int32)) (v := (.ref r1)) (by rw [EQ2]; exact Ar68.1) (State.isArrayOf_alike hZ.alike Ar68.2.1) rfl Ar68.2.2 hin68 (Has.at H68 hin68 rfl) (g := (mkF m 172 #[.val (.int qa), .val (.int qb), .val (.double xx), .second, .val (.double yy), .second, .val (.ref b48), .val (.ref b50), .val (.ref x), .val (.int (1 : Int32)), .val (.double (FP.dadd (FP.dmul xx xx) (FP.dmul yy yy))), .second, .val (.double kkx), .second, .val (.double kky), .second, .unset, .unset, .unset] [(.int (1 : Int32)), (.ref x), (.double (13830554455654793216 : UInt64))])) rfl rfl (hb hby at_172) _ k_) ?_
  show GoesW p e below s _ _ _ (T57.setTop (mkF m 173 #[.val (.int qa), .val (.int qb), .val (.double xx), .second, .val (.double yy), .second, .val (.ref b48), .val (.ref b50), .val (.ref x), .val (.int (1 : Int32)), .val (.double (FP.dadd (FP.dmul xx xx) (FP.dmul yy yy))), .second, .val (.double kkx), .second, .val (.double kky), .second, .unset, .unset, .unset] [(.ref r1), (.double (13830554455654793216 : UInt64))]))
  refine GoesW.st (fun t_ k_ => XS.iconst X57.here hx rfl (hb hby at_173) k_) ?_
  show GoesW p e below s _ _ _ (T57.setTop (mkF m 174 #[.val (.int qa), .val (.int qb), .val (.double xx), .second, .val (.double yy), .second, .val (.ref b48), .val (.ref b50), .val (.ref x), .val (.int (1 : Int32)), .val (.double (FP.dadd (FP.dmul xx xx) (FP.dmul yy yy))), .second, .val (.double kkx), .second, .val (.double kky), .second, .unset, .unset, .unset] [(.int (0 : Int32)), (.ref r1), (.double (13830554455654793216 : UInt64))]))
  have VV69 := V_r1
  obtain ⟨cl69, Ar69, -, S69, M69, H69, -⟩ := VV69
  have hin69 := inb_of S69 (j := (0 : Int32)) ⟨by decide, by decide⟩
  refine GoesW.st (fun t_ k_ => X57.daload hx (j := (0 : Int32)) (v := (.double (4607182418800017408 : UInt64))) (by rw [EQ2]; exact Ar69.1) (State.isArrayOf_alike hZ.alike Ar69.2.1) Ar69.2.2 hin69 (Has.at H69 hin69 rfl) (g := (mkF m 174 #[.val (.int qa), .val (.int qb), .val (.double xx), .second, .val (.double yy), .second, .val (.ref b48), .val (.ref b50), .val (.ref x), .val (.int (1 : Int32)), .val (.double (FP.dadd (FP.dmul xx xx) (FP.dmul yy yy))), .second, .val (.double kkx), .second, .val (.double kky), .second, .unset, .unset, .unset] [(.int (0 : Int32)), (.ref r1), (.double (13830554455654793216 : UInt64))])) rfl rfl (hb hby at_174) _ k_) ?_
  show GoesW p e below s _ _ _ (T57.setTop (mkF m 175 #[.val (.int qa), .val (.int qb), .val (.double xx), .second, .val (.double yy), .second, .val (.ref b48), .val (.ref b50), .val (.ref x), .val (.int (1 : Int32)), .val (.double (FP.dadd (FP.dmul xx xx) (FP.dmul yy yy))), .second, .val (.double kkx), .second, .val (.double kky), .second, .unset, .unset, .unset] [(.double (4607182418800017408 : UInt64)), (.double (13830554455654793216 : UInt64))]))
  refine GoesW.st (fun t_ k_ => XS.dcmpS X57.here hx rfl (hb hby at_175) rfl rfl k_) ?_
  show GoesW p e below s _ _ _ (T57.setTop (mkF m 176 #[.val (.int qa), .val (.int qb), .val (.double xx), .second, .val (.double yy), .second, .val (.ref b48), .val (.ref b50), .val (.ref x), .val (.int (1 : Int32)), .val (.double (FP.dadd (FP.dmul xx xx) (FP.dmul yy yy))), .second, .val (.double kkx), .second, .val (.double kky), .second, .unset, .unset, .unset] [(.int (cmpValue (FP.dcmp (13830554455654793216 : UInt64) (4607182418800017408 : UInt64)) .g))]))
  refine GoesW.st (fun t_ k_ => XS.ifNo X57.here hx rfl (hb hby at_176) rfl ((if0 _ _).trans (flt (by decide +kernel)).2.2.1) k_) ?_
  show GoesW p e below s _ _ _ (T57.setTop (mkF m 179 #[.val (.int qa), .val (.int qb), .val (.double xx), .second, .val (.double yy), .second, .val (.ref b48), .val (.ref b50), .val (.ref x), .val (.int (1 : Int32)), .val (.double (FP.dadd (FP.dmul xx xx) (FP.dmul yy yy))), .second, .val (.double kkx), .second, .val (.double kky), .second, .unset, .unset, .unset] []))
  refine GoesW.st (fun t_ k_ => XS.aload X57.here hx rfl (hb hby at_179) rfl rfl k_) ?_
  show GoesW p e below s _ _ _ (T57.setTop (mkF m 181 #[.val (.int qa), .val (.int qb), .val (.double xx), .second, .val (.double yy), .second, .val (.ref b48), .val (.ref b50), .val (.ref x), .val (.int (1 : Int32)), .val (.double (FP.dadd (FP.dmul xx xx) (FP.dmul yy yy))), .second, .val (.double kkx), .second, .val (.double kky), .second, .unset, .unset, .unset] [(.ref x)]))
  refine GoesW.st (fun t_ k_ => XS.iconst X57.here hx rfl (hb hby at_181) k_) ?_
  show GoesW p e below s _ _ _ (T57.setTop (mkF m 182 #[.val (.int qa), .val (.int qb), .val (.double xx), .second, .val (.double yy), .second, .val (.ref b48), .val (.ref b50), .val (.ref x), .val (.int (1 : Int32)), .val (.double (FP.dadd (FP.dmul xx xx) (FP.dmul yy yy))), .second, .val (.double kkx), .second, .val (.double kky), .second, .unset, .unset, .unset] [(.int (0 : Int32)), (.ref x)]))
  have VV70 := V_x
  obtain ⟨cl70, Ar70, -, S70, M70, H70, -⟩ := VV70
  have hin70 := inb_of S70 (j := (0 : Int32)) ⟨by decide, by decide⟩
  refine GoesW.st (fun t_ k_ => X57.aaload hx (j := (0 : Int32)) (v := (.ref r0)) (by rw [EQ2]; exact Ar70.1) (State.isArrayOf_alike hZ.alike Ar70.2.1) rfl Ar70.2.2 hin70 (Has.at H70 hin70 rfl) (g := (mkF m 182 #[.val (.int qa), .val (.int qb), .val (.double xx), .second, .val (.double yy), .second, .val (.ref b48), .val (.ref b50), .val (.ref x), .val (.int (1 : Int32)), .val (.double (FP.dadd (FP.dmul xx xx) (FP.dmul yy yy))), .second, .val (.double kkx), .second, .val (.double kky), .second, .unset, .unset, .unset] [(.int (0 : Int32)), (.ref x)])) rfl rfl (hb hby at_182) _ k_) ?_
  show GoesW p e below s _ _ _ (T57.setTop (mkF m 183 #[.val (.int qa), .val (.int qb), .val (.double xx), .second, .val (.double yy), .second, .val (.ref b48), .val (.ref b50), .val (.ref x), .val (.int (1 : Int32)), .val (.double (FP.dadd (FP.dmul xx xx) (FP.dmul yy yy))), .second, .val (.double kkx), .second, .val (.double kky), .second, .unset, .unset, .unset] [(.ref r0)]))
  refine GoesW.st (fun t_ k_ => XS.iconst X57.here hx rfl (hb hby at_183) k_) ?_
  show GoesW p e below s _ _ _ (T57.setTop (mkF m 184 #[.val (.int qa), .val (.int qb), .val (.double xx), .second, .val (.double yy), .second, .val (.ref b48), .val (.ref b50), .val (.ref x), .val (.int (1 : Int32)), .val (.double (FP.dadd (FP.dmul xx xx) (FP.dmul yy yy))), .second, .val (.double kkx), .second, .val (.double kky), .second, .unset, .unset, .unset] [(.int (1 : Int32)), (.ref r0)]))
  have VV71 := V_r0
  obtain ⟨cl71, Ar71, -, S71, M71, H71, -⟩ := VV71
  have hin71 := inb_of S71 (j := (1 : Int32)) ⟨by decide, by decide⟩
  refine GoesW.st (fun t_ k_ => X57.daload hx (j := (1 : Int32)) (v := (.double (13830554455654793216 : UInt64))) (by rw [EQ2]; exact Ar71.1) (State.isArrayOf_alike hZ.alike Ar71.2.1) Ar71.2.2 hin71 (Has.at H71 hin71 rfl) (g := (mkF m 184 #[.val (.int qa), .val (.int qb), .val (.double xx), .second, .val (.double yy), .second, .val (.ref b48), .val (.ref b50), .val (.ref x), .val (.int (1 : Int32)), .val (.double (FP.dadd (FP.dmul xx xx) (FP.dmul yy yy))), .second, .val (.double kkx), .second, .val (.double kky), .second, .unset, .unset, .unset] [(.int (1 : Int32)), (.ref r0)])) rfl rfl (hb hby at_184) _ k_) ?_
  show GoesW p e below s _ _ _ (T57.setTop (mkF m 185 #[.val (.int qa), .val (.int qb), .val (.double xx), .second, .val (.double yy), .second, .val (.ref b48), .val (.ref b50), .val (.ref x), .val (.int (1 : Int32)), .val (.double (FP.dadd (FP.dmul xx xx) (FP.dmul yy yy))), .second, .val (.double kkx), .second, .val (.double kky), .second, .unset, .unset, .unset] [(.double (13830554455654793216 : UInt64))]))
  refine GoesW.st (fun t_ k_ => XS.aload X57.here hx rfl (hb hby at_185) rfl rfl k_) ?_
  show GoesW p e below s _ _ _ (T57.setTop (mkF m 187 #[.val (.int qa), .val (.int qb), .val (.double xx), .second, .val (.double yy), .second, .val (.ref b48), .val (.ref b50), .val (.ref x), .val (.int (1 : Int32)), .val (.double (FP.dadd (FP.dmul xx xx) (FP.dmul yy yy))), .second, .val (.double kkx), .second, .val (.double kky), .second, .unset, .unset, .unset] [(.ref x), (.double (13830554455654793216 : UInt64))]))
  refine GoesW.st (fun t_ k_ => XS.iconst X57.here hx rfl (hb hby at_187) k_) ?_
  show GoesW p e below s _ _ _ (T57.setTop (mkF m 188 #[.val (.int qa), .val (.int qb), .val (.double xx), .second, .val (.double yy), .second, .val (.ref b48), .val (.ref b50), .val (.ref x), .val (.int (1 : Int32)), .val (.double (FP.dadd (FP.dmul xx xx) (FP.dmul yy yy))), .second, .val (.double kkx), .second, .val (.double kky), .second, .unset, .unset, .unset] [(.int (1 : Int32)), (.ref x), (.double (13830554455654793216 : UInt64))]))
  have VV72 := V_x
  obtain ⟨cl72, Ar72, -, S72, M72, H72, -⟩ := VV72
  have hin72 := inb_of S72 (j := (1 : Int32)) ⟨by decide, by decide⟩
  refine GoesW.st (fun t_ k_ => X57.aaload hx (j := (1 : Int32)) (v := (.ref r1)) (by rw [EQ2]; exact Ar72.1) (State.isArrayOf_alike hZ.alike Ar72.2.1) rfl Ar72.2.2 hin72 (Has.at H72 hin72 rfl) (g := (mkF m 188 #[.val (.int qa), .val (.int qb), .val (.double xx), .second, .val (.double yy), .second, .val (.ref b48), .val (.ref b50), .val (.ref x), .val (.int (1 : Int32)), .val (.double (FP.dadd (FP.dmul xx xx) (FP.dmul yy yy))), .second, .val (.double kkx), .second, .val (.double kky), .second, .unset, .unset, .unset] [(.int (1 : Int32)), (.ref x), (.double (13830554455654793216 : UInt64))])) rfl rfl (hb hby at_188) _ k_) ?_
  show GoesW p e below s _ _ _ (T57.setTop (mkF m 189 #[.val (.int qa), .val (.int qb), .val (.double xx), .second, .val (.double yy), .second, .val (.ref b48), .val (.ref b50), .val (.ref x), .val (.int (1 : Int32)), .val (.double (FP.dadd (FP.dmul xx xx) (FP.dmul yy yy))), .second, .val (.double kkx), .second, .val (.double kky), .second, .unset, .unset, .unset] [(.ref r1), (.double (13830554455654793216 : UInt64))]))
  refine GoesW.st (fun t_ k_ => XS.iconst X57.here hx rfl (hb hby at_189) k_) ?_
  show GoesW p e below s _ _ _ (T57.setTop (mkF m 190 #[.val (.int qa), .val (.int qb), .val (.double xx), .second, .val (.double yy), .second, .val (.ref b48), .val (.ref b50), .val (.ref x), .val (.int (1 : Int32)), .val (.double (FP.dadd (FP.dmul xx xx) (FP.dmul yy yy))), .second, .val (.double kkx), .second, .val (.double kky), .second, .unset, .unset, .unset] [(.int (1 : Int32)), (.ref r1), (.double (13830554455654793216 : UInt64))]))
  have VV73 := V_r1
  obtain ⟨cl73, Ar73, -, S73, M73, H73, -⟩ := VV73
  have hin73 := inb_of S73 (j := (1 : Int32)) ⟨by decide, by decide⟩
  refine GoesW.st (fun t_ k_ => X57.daload hx (j := (1 : Int32)) (v := (.double (4607182418800017408 : UInt64))) (by rw [EQ2]; exact Ar73.1) (State.isArrayOf_alike hZ.alike Ar73.2.1) Ar73.2.2 hin73 (Has.at H73 hin73 rfl) (g := (mkF m 190 #[.val (.int qa), .val (.int qb), .val (.double xx), .second, .val (.double yy), .second, .val (.ref b48), .val (.ref b50), .val (.ref x), .val (.int (1 : Int32)), .val (.double (FP.dadd (FP.dmul xx xx) (FP.dmul yy yy))), .second, .val (.double kkx), .second, .val (.double kky), .second, .unset, .unset, .unset] [(.int (1 : Int32)), (.ref r1), (.double (13830554455654793216 : UInt64))])) rfl rfl (hb hby at_190) _ k_) ?_
  show GoesW p e below s _ _ _ (T57.setTop (mkF m 191 #[.val (.int qa), .val (.int qb), .val (.double xx), .second, .val (.double yy), .second, .val (.ref b48), .val (.ref b50), .val (.ref x), .val (.int (1 : Int32)), .val (.double (FP.dadd (FP.dmul xx xx) (FP.dmul yy yy))), .second, .val (.double kkx), .second, .val (.double kky), .second, .unset, .unset, .unset] [(.double (4607182418800017408 : UInt64)), (.double (13830554455654793216 : UInt64))]))
  refine GoesW.st (fun t_ k_ => XS.dcmpS X57.here hx rfl (hb hby at_191) rfl rfl k_) ?_
  show GoesW p e below s _ _ _ (T57.setTop (mkF m 192 #[.val (.int qa), .val (.int qb), .val (.double xx), .second, .val (.double yy), .second, .val (.ref b48), .val (.ref b50), .val (.ref x), .val (.int (1 : Int32)), .val (.double (FP.dadd (FP.dmul xx xx) (FP.dmul yy yy))), .second, .val (.double kkx), .second, .val (.double kky), .second, .unset, .unset, .unset] [(.int (cmpValue (FP.dcmp (13830554455654793216 : UInt64) (4607182418800017408 : UInt64)) .g))]))
  refine GoesW.st (fun t_ k_ => XS.ifNo X57.here hx rfl (hb hby at_192) rfl ((if0 _ _).trans (flt (by decide +kernel)).2.2.1) k_) ?_
  show GoesW p e below s _ _ _ (T57.setTop (mkF m 195 #[.val (.int qa), .val (.int qb), .val (.double xx), .second, .val (.double yy), .second, .val (.ref b48), .val (.ref b50), .val (.ref x), .val (.int (1 : Int32)), .val (.double (FP.dadd (FP.dmul xx xx) (FP.dmul yy yy))), .second, .val (.double kkx), .second, .val (.double kky), .second, .unset, .unset, .unset] []))
  refine GoesW.st (fun t_ k_ => XS.iconst X57.here hx rfl (hb hby at_195) k_) ?_
  show GoesW p e below s _ _ _ (T57.setTop (mkF m 196 #[.val (.int qa), .val (.int qb), .val (.double xx), .second, .val (.double yy), .second, .val (.ref b48), .val (.ref b50), .val (.ref x), .val (.int (1 : Int32)), .val (.double (FP.dadd (FP.dmul xx xx) (FP.dmul yy yy))), .second, .val (.double kkx), .second, .val (.double kky), .second, .unset, .unset, .unset] [(.int (1 : Int32))]))
  refine GoesW.st (fun t_ k_ => XS.goto X57.here hx rfl (pc0 := 196) (pc' := 200) rfl (hb hby at_196) (by decide) (by decide) k_) ?_
  show GoesW p e below s _ _ _ (T57.setTop (mkF m 200 #[.val (.int qa), .val (.int qb), .val (.double xx), .second, .val (.double yy), .second, .val (.ref b48), .val (.ref b50), .val (.ref x), .val (.int (1 : Int32)), .val (.double (FP.dadd (FP.dmul xx xx) (FP.dmul yy yy))), .second, .val (.double kkx), .second, .val (.double kky), .second, .unset, .unset, .unset] [(.int (1 : Int32))]))
  refine GoesW.st (fun t_ k_ => XS.istore X57.here hx rfl (hb hby at_200) rfl  (l' := #[.val (.int qa), .val (.int qb), .val (.double xx), .second, .val (.double yy), .second, .val (.ref b48), .val (.ref b50), .val (.ref x), .val (.int (1 : Int32)), .val (.double (FP.dadd (FP.dmul xx xx) (FP.dmul yy yy))), .second, .val (.double kkx), .second, .val (.double kky), .second, .val (.int (1 : Int32)), .unset, .unset]) rfl k_) ?_
  show GoesW p e below s _ _ _ (T57.setTop (mkF m 202 #[.val (.int qa), .val (.int qb), .val (.double xx), .second, .val (.double yy), .second, .val (.ref b48), .val (.ref b50), .val (.ref x), .val (.int (1 : Int32)), .val (.double (FP.dadd (FP.dmul xx xx) (FP.dmul yy yy))), .second, .val (.double kkx), .second, .val (.double kky), .second, .val (.int (1 : Int32)), .unset, .unset] []))
  refine GoesW.st (fun t_ k_ => XS.aload X57.here hx rfl (hb hby at_202) rfl rfl k_) ?_
  show GoesW p e below s _ _ _ (T57.setTop (mkF m 204 #[.val (.int qa), .val (.int qb), .val (.double xx), .second, .val (.double yy), .second, .val (.ref b48), .val (.ref b50), .val (.ref x), .val (.int (1 : Int32)), .val (.double (FP.dadd (FP.dmul xx xx) (FP.dmul yy yy))), .second, .val (.double kkx), .second, .val (.double kky), .second, .val (.int (1 : Int32)), .unset, .unset] [(.ref x)]))
  refine GoesW.st (fun t_ k_ => XS.iconst X57.here hx rfl (hb hby at_204) k_) ?_
  show GoesW p e below s _ _ _ (T57.setTop (mkF m 205 #[.val (.int qa), .val (.int qb), .val (.double xx), .second, .val (.double yy), .second, .val (.ref b48), .val (.ref b50), .val (.ref x), .val (.int (1 : Int32)), .val (.double (FP.dadd (FP.dmul xx xx) (FP.dmul yy yy))), .second, .val (.double kkx), .second, .val (.double kky), .second, .val (.int (1 : Int32)), .unset, .unset] [(.int (0 : Int32)), (.ref x)]))
  have VV74 := V_x
  obtain ⟨cl74, Ar74, -, S74, M74, H74, -⟩ := VV74
  have hin74 := inb_of S74 (j := (0 : Int32)) ⟨by decide, by decide⟩
  refine GoesW.st (fun t_ k_ => X57.aaload hx (j := (0 : Int32)) (v := (.ref r0)) (by rw [EQ2]; exact Ar74.1) (State.isArrayOf_alike hZ.alike Ar74.2.1) rfl Ar74.2.2 hin74 (Has.at H74 hin74 rfl) (g := (mkF m 205 #[.val (.int qa), .val (.int qb), .val (.double xx), .second, .val (.double yy), .second, .val (.ref b48), .val (.ref b50), .val (.ref x), .val (.int (1 : Int32)), .val (.double (FP.dadd (FP.dmul xx xx) (FP.dmul yy yy))), .second, .val (.double kkx), .second, .val (.double kky), .second, .val (.int (1 : Int32)), .unset, .unset] [(.int (0 : Int32)), (.ref x)])) rfl rfl (hb hby at_205) _ k_) ?_
  show GoesW p e below s _ _ _ (T57.setTop (mkF m 206 #[.val (.int qa), .val (.int qb), .val (.double xx), .second, .val (.double yy), .second, .val (.ref b48), .val (.ref b50), .val (.ref x), .val (.int (1 : Int32)), .val (.double (FP.dadd (FP.dmul xx xx) (FP.dmul yy yy))), .second, .val (.double kkx), .second, .val (.double kky), .second, .val (.int (1 : Int32)), .unset, .unset] [(.ref r0)]))
  refine GoesW.st (fun t_ k_ => XS.iconst X57.here hx rfl (hb hby at_206) k_) ?_
  show GoesW p e below s _ _ _ (T57.setTop (mkF m 207 #[.val (.int qa), .val (.int qb), .val (.double xx), .second, .val (.double yy), .second, .val (.ref b48), .val (.ref b50), .val (.ref x), .val (.int (1 : Int32)), .val (.double (FP.dadd (FP.dmul xx xx) (FP.dmul yy yy))), .second, .val (.double kkx), .second, .val (.double kky), .second, .val (.int (1 : Int32)), .unset, .unset] [(.int (0 : Int32)), (.ref r0)]))
  refine GoesW.st (fun t_ k_ => X57.ldc2DoubleC hx hown (mvT hZ (hw _ (List.mem_of_getElem? (i := 88) rfl))) (g := (mkF m 207 #[.val (.int qa), .val (.int qb), .val (.double xx), .second, .val (.double yy), .second, .val (.ref b48), .val (.ref b50), .val (.ref x), .val (.int (1 : Int32)), .val (.double (FP.dadd (FP.dmul xx xx) (FP.dmul yy yy))), .second, .val (.double kkx), .second, .val (.double kky), .second, .val (.int (1 : Int32)), .unset, .unset] [(.int (0 : Int32)), (.ref r0)])) rfl (hb hby at_207) _ k_) ?_
  show GoesW p e below s _ _ _ (T57.setTop (mkF m 210 #[.val (.int qa), .val (.int qb), .val (.double xx), .second, .val (.double yy), .second, .val (.ref b48), .val (.ref b50), .val (.ref x), .val (.int (1 : Int32)), .val (.double (FP.dadd (FP.dmul xx xx) (FP.dmul yy yy))), .second, .val (.double kkx), .second, .val (.double kky), .second, .val (.int (1 : Int32)), .unset, .unset] [(.double (4619567317775286272 : UInt64)), (.int (0 : Int32)), (.ref r0)]))
  obtain ⟨cl75, Ar75, q75, S75, M75, H75, G75⟩ := V_r0
  obtain ⟨T75, h75, X75, e75, W75, st75⟩ := stD X57 hx hZ EQ2 Ar75 (j := (0 : Int32)) (inb_of S75 ⟨by decide, by decide⟩) (g := (mkF m 210 #[.val (.int qa), .val (.int qb), .val (.double xx), .second, .val (.double yy), .second, .val (.ref b48), .val (.ref b50), .val (.ref x), .val (.int (1 : Int32)), .val (.double (FP.dadd (FP.dmul xx xx) (FP.dmul yy yy))), .second, .val (.double kkx), .second, .val (.double kky), .second, .val (.int (1 : Int32)), .unset, .unset] [(.double (4619567317775286272 : UInt64)), (.int (0 : Int32)), (.ref r0)])) rfl rfl (hb hby at_210)
  have V_r0 := Arv.set Ar75 q75 S75 M75 H75 G75 rfl W75 0 rfl (Nat.le_of_ble_eq_true rfl)
  refine GoesW.st st75 ?_
  have V_r0 : Arv Z h75 r0 k0_ .double (2 : Int32) [(.double (4619567317775286272 : UInt64)), (.double (13830554455654793216 : UInt64))] (.double (0 : UInt64)) := V_r0
  have Ex_b48 := Ex_b48.wr W75
  have V_x := V_x.other W75 n1
  have V_r1 := V_r1.other W75 (Ne.symm n3)
  have N75 := Fr.snoc X75 N57 gn_r0
  have Z0''''''''' := Nat.le_trans Z0'''''''' (Keep.of_wr W75).1
  have hk49''''''' := Nat.le_trans hk49'''''' (Keep.of_wr W75).1
  have O0 := O0.wr W75 gn_r0
  show GoesW p e below s _ _ _ (T75.setTop (mkF m 211 #[.val (.int qa), .val (.int qb), .val (.double xx), .second, .val (.double yy), .second, .val (.ref b48), .val (.ref b50), .val (.ref x), .val (.int (1 : Int32)), .val (.double (FP.dadd (FP.dmul xx xx) (FP.dmul yy yy))), .second, .val (.double kkx), .second, .val (.double kky), .second, .val (.int (1 : Int32)), .unset, .unset] []))
  refine GoesW.st (fun t_ k_ => XS.aload X75.here hx rfl (hb hby at_211) rfl rfl k_) ?_
  show GoesW p e below s _ _ _ (T75.setTop (mkF m 213 #[.val (.int qa), .val (.int qb), .val (.double xx), .second, .val (.double yy), .second, .val (.ref b48), .val (.ref b50), .val (.ref x), .val (.int (1 : Int32)), .val (.double (FP.dadd (FP.dmul xx xx) (FP.dmul yy yy))), .second, .val (.double kkx), .second, .val (.double kky), .second, .val (.int (1 : Int32)), .unset, .unset] [(.ref x)]))
  refine GoesW.st (fun t_ k_ => XS.iconst X75.here hx rfl (hb hby at_213) k_) ?_
  show GoesW p e below s _ _ _ (T75.setTop (mkF m 214 #[.val (.int qa), .val (.int qb), .val (.double xx), .second, .val (.double yy), .second, .val (.ref b48), .val (.ref b50), .val (.ref x), .val (.int (1 : Int32)), .val (.double (FP.dadd (FP.dmul xx xx) (FP.dmul yy yy))), .second, .val (.double kkx), .second, .val (.double kky), .second, .val (.int (1 : Int32)), .unset, .unset] [(.int (0 : Int32)), (.ref x)]))
  have VV76 := V_x
  obtain ⟨cl76, Ar76, -, S76, M76, H76, -⟩ := VV76
  have hin76 := inb_of S76 (j := (0 : Int32)) ⟨by decide, by decide⟩
  refine GoesW.st (fun t_ k_ => X75.aaload hx (j := (0 : Int32)) (v := (.ref r0)) (by rw [e75]; exact Ar76.1) (State.isArrayOf_alike hZ.alike Ar76.2.1) rfl Ar76.2.2 hin76 (Has.at H76 hin76 rfl) (g := (mkF m 214 #[.val (.int qa), .val (.int qb), .val (.double xx), .second, .val (.double yy), .second, .val (.ref b48), .val (.ref b50), .val (.ref x), .val (.int (1 : Int32)), .val (.double (FP.dadd (FP.dmul xx xx) (FP.dmul yy yy))), .second, .val (.double kkx), .second, .val (.double kky), .second, .val (.int (1 : Int32)), .unset, .unset] [(.int (0 : Int32)), (.ref x)])) rfl rfl (hb hby at_214) _ k_) ?_
  show GoesW p e below s _ _ _ (T75.setTop (mkF m 215 #[.val (.int qa), .val (.int qb), .val (.double xx), .second, .val (.double yy), .second, .val (.ref b48), .val (.ref b50), .val (.ref x), .val (.int (1 : Int32)), .val (.double (FP.dadd (FP.dmul xx xx) (FP.dmul yy yy))), .second, .val (.double kkx), .second, .val (.double kky), .second, .val (.int (1 : Int32)), .unset, .unset] [(.ref r0)]))
  refine GoesW.st (fun t_ k_ => XS.iconst X75.here hx rfl (hb hby at_215) k_) ?_
  show GoesW p e below s _ _ _ (T75.setTop (mkF m 216 #[.val (.int qa), .val (.int qb), .val (.double xx), .second, .val (.double yy), .second, .val (.ref b48), .val (.ref b50), .val (.ref x), .val (.int (1 : Int32)), .val (.double (FP.dadd (FP.dmul xx xx) (FP.dmul yy yy))), .second, .val (.double kkx), .second, .val (.double kky), .second, .val (.int (1 : Int32)), .unset, .unset] [(.int (1 : Int32)), (.ref r0)]))
  refine GoesW.st (fun t_ k_ => X75.ldc2DoubleC hx hown (mvT hZ (hw _ (List.mem_of_getElem? (i := 88) rfl))) (g := (mkF m 216 #[.val (.int qa), .val (.int qb), .val (.double xx), .second, .val (.double yy), .second, .val (.ref b48), .val (.ref b50), .val (.ref x), .val (.int (1 : Int32)), .val (.double (FP.dadd (FP.dmul xx xx) (FP.dmul yy yy))), .second, .val (.double kkx), .second, .val (.double kky), .second, .val (.int (1 : Int32)), .unset, .unset] [(.int (1 : Int32)), (.ref r0)])) rfl (hb hby at_216) _ k_) ?_
  show GoesW p e below s _ _ _ (T75.setTop (mkF m 219 #[.val (.int qa), .val (.int qb), .val (.double xx), .second, .val (.double yy), .second, .val (.ref b48), .val (.ref b50), .val (.ref x), .val (.int (1 : Int32)), .val (.double (FP.dadd (FP.dmul xx xx) (FP.dmul yy yy))), .second, .val (.double kkx), .second, .val (.double kky), .second, .val (.int (1 : Int32)), .unset, .unset] [(.double (4619567317775286272 : UInt64)), (.int (1 : Int32)), (.ref r0)]))
  obtain ⟨cl77, Ar77, q77, S77, M77, H77, G77⟩ := V_r0
  obtain ⟨T77, h77, X77, e77, W77, st77⟩ := stD X75 hx hZ e75 Ar77 (j := (1 : Int32)) (inb_of S77 ⟨by decide, by decide⟩) (g := (mkF m 219 #[.val (.int qa), .val (.int qb), .val (.double xx), .second, .val (.double yy), .second, .val (.ref b48), .val (.ref b50), .val (.ref x), .val (.int (1 : Int32)), .val (.double (FP.dadd (FP.dmul xx xx) (FP.dmul yy yy))), .second, .val (.double kkx), .second, .val (.double kky), .second, .val (.int (1 : Int32)), .unset, .unset] [(.double (4619567317775286272 : UInt64)), (.int (1 : Int32)), (.ref r0)])) rfl rfl (hb hby at_219)
  have V_r0 := Arv.set Ar77 q77 S77 M77 H77 G77 rfl W77 1 rfl (Nat.le_of_ble_eq_true rfl)
  refine GoesW.st st77 ?_
  have V_r0 : Arv Z h77 r0 k0_ .double (2 : Int32) [(.double (4619567317775286272 : UInt64)), (.double (4619567317775286272 : UInt64))] (.double (0 : UInt64)) := V_r0
  have Ex_b48 := Ex_b48.wr W77
  have V_x := V_x.other W77 n1
  have V_r1 := V_r1.other W77 (Ne.symm n3)
  have N77 := Fr.snoc X77 N75 gn_r0
  have Z0'''''''''' := Nat.le_trans Z0''''''''' (Keep.of_wr W77).1
  have hk49'''''''' := Nat.le_trans hk49''''''' (Keep.of_wr W77).1
  have O0 := O0.wr W77 gn_r0
  show GoesW p e below s _ _ _ (T77.setTop (mkF m 220 #[.val (.int qa), .val (.int qb), .val (.double xx), .second, .val (.double yy), .second, .val (.ref b48), .val (.ref b50), .val (.ref x), .val (.int (1 : Int32)), .val (.double (FP.dadd (FP.dmul xx xx) (FP.dmul yy yy))), .second, .val (.double kkx), .second, .val (.double kky), .second, .val (.int (1 : Int32)), .unset, .unset] []))
  refine GoesW.st (fun t_ k_ => XS.aload X77.here hx rfl (hb hby at_220) rfl rfl k_) ?_
  show GoesW p e below s _ _ _ (T77.setTop (mkF m 222 #[.val (.int qa), .val (.int qb), .val (.double xx), .second, .val (.double yy), .second, .val (.ref b48), .val (.ref b50), .val (.ref x), .val (.int (1 : Int32)), .val (.double (FP.dadd (FP.dmul xx xx) (FP.dmul yy yy))), .second, .val (.double kkx), .second, .val (.double kky), .second, .val (.int (1 : Int32)), .unset, .unset] [(.ref x)]))
  refine GoesW.st (fun t_ k_ => XS.iconst X77.here hx rfl (hb hby at_222) k_) ?_
  show GoesW p e below s _ _ _ (T77.setTop (mkF m 223 #[.val (.int qa), .val (.int qb), .val (.double xx), .second, .val (.double yy), .second, .val (.ref b48), .val (.ref b50), .val (.ref x), .val (.int (1 : Int32)), .val (.double (FP.dadd (FP.dmul xx xx) (FP.dmul yy yy))), .second, .val (.double kkx), .second, .val (.double kky), .second, .val (.int (1 : Int32)), .unset, .unset] [(.int (1 : Int32)), (.ref x)]))
  have VV78 := V_x
  obtain ⟨cl78, Ar78, -, S78, M78, H78, -⟩ := VV78
  have hin78 := inb_of S78 (j := (1 : Int32)) ⟨by decide, by decide⟩
  refine GoesW.st (fun t_ k_ => X77.aaload hx (j := (1 : Int32)) (v := (.ref r1)) (by rw [e77]; exact Ar78.1) (State.isArrayOf_alike hZ.alike Ar78.2.1) rfl Ar78.2.2 hin78 (Has.at H78 hin78 rfl) (g := (mkF m 223 #[.val (.int qa), .val (.int qb), .val (.double xx), .second, .val (.double yy), .second, .val (.ref b48), .val (.ref b50), .val (.ref x), .val (.int (1 : Int32)), .val (.double (FP.dadd (FP.dmul xx xx) (FP.dmul yy yy))), .second, .val (.double kkx), .second, .val (.double kky), .second, .val (.int (1 : Int32)), .unset, .unset] [(.int (1 : Int32)), (.ref x)])) rfl rfl (hb hby at_223) _ k_) ?_
  show GoesW p e below s _ _ _ (T77.setTop (mkF m 224 #[.val (.int qa), .val (.int qb), .val (.double xx), .second, .val (.double yy), .second, .val (.ref b48), .val (.ref b50), .val (.ref x), .val (.int (1 : Int32)), .val (.double (FP.dadd (FP.dmul xx xx) (FP.dmul yy yy))), .second, .val (.double kkx), .second, .val (.double kky), .second, .val (.int (1 : Int32)), .unset, .unset] [(.ref r1)]))
  refine GoesW.st (fun t_ k_ => XS.iconst X77.here hx rfl (hb hby at_224) k_) ?_
  show GoesW p e below s _ _ _ (T77.setTop (mkF m 225 #[.val (.int qa), .val (.int qb), .val (.double xx), .second, .val (.double yy), .second, .val (.ref b48), .val (.ref b50), .val (.ref x), .val (.int (1 : Int32)), .val (.double (FP.dadd (FP.dmul xx xx) (FP.dmul yy yy))), .second, .val (.double kkx), .second, .val (.double kky), .second, .val (.int (1 : Int32)), .unset, .unset] [(.int (0 : Int32)), (.ref r1)]))
  refine GoesW.st (fun t_ k_ => X77.ldc2DoubleC hx hown (mvT hZ (hw _ (List.mem_of_getElem? (i := 89) rfl))) (g := (mkF m 225 #[.val (.int qa), .val (.int qb), .val (.double xx), .second, .val (.double yy), .second, .val (.ref b48), .val (.ref b50), .val (.ref x), .val (.int (1 : Int32)), .val (.double (FP.dadd (FP.dmul xx xx) (FP.dmul yy yy))), .second, .val (.double kkx), .second, .val (.double kky), .second, .val (.int (1 : Int32)), .unset, .unset] [(.int (0 : Int32)), (.ref r1)])) rfl (hb hby at_225) _ k_) ?_
  show GoesW p e below s _ _ _ (T77.setTop (mkF m 228 #[.val (.int qa), .val (.int qb), .val (.double xx), .second, .val (.double yy), .second, .val (.ref b48), .val (.ref b50), .val (.ref x), .val (.int (1 : Int32)), .val (.double (FP.dadd (FP.dmul xx xx) (FP.dmul yy yy))), .second, .val (.double kkx), .second, .val (.double kky), .second, .val (.int (1 : Int32)), .unset, .unset] [(.double (13842939354630062080 : UInt64)), (.int (0 : Int32)), (.ref r1)]))
  obtain ⟨cl79, Ar79, q79, S79, M79, H79, G79⟩ := V_r1
  obtain ⟨T79, h79, X79, e79, W79, st79⟩ := stD X77 hx hZ e77 Ar79 (j := (0 : Int32)) (inb_of S79 ⟨by decide, by decide⟩) (g := (mkF m 228 #[.val (.int qa), .val (.int qb), .val (.double xx), .second, .val (.double yy), .second, .val (.ref b48), .val (.ref b50), .val (.ref x), .val (.int (1 : Int32)), .val (.double (FP.dadd (FP.dmul xx xx) (FP.dmul yy yy))), .second, .val (.double kkx), .second, .val (.double kky), .second, .val (.int (1 : Int32)), .unset, .unset] [(.double (13842939354630062080 : UInt64)), (.int (0 : Int32)), (.ref r1)])) rfl rfl (hb hby at_228)
  have V_r1 := Arv.set Ar79 q79 S79 M79 H79 G79 rfl W79 0 rfl (Nat.le_of_ble_eq_true rfl)
  refine GoesW.st st79 ?_
  have V_r1 : Arv Z h79 r1 k1_ .double (2 : Int32) [(.double (13842939354630062080 : UInt64)), (.double (4607182418800017408 : UInt64))] (.double (0 : UInt64)) := V_r1
  have Ex_b48 := Ex_b48.wr W79
  have V_x := V_x.other W79 n2
  have V_r0 := V_r0.other W79 n3
  have N79 := Fr.snoc X79 N77 gn_r1
  have Z0''''''''''' := Nat.le_trans Z0'''''''''' (Keep.of_wr W79).1
  have hk49''''''''' := Nat.le_trans hk49'''''''' (Keep.of_wr W79).1
  have O0 := O0.wr W79 gn_r1
  show GoesW p e below s _ _ _ (T79.setTop (mkF m 229 #[.val (.int qa), .val (.int qb), .val (.double xx), .second, .val (.double yy), .second, .val (.ref b48), .val (.ref b50), .val (.ref x), .val (.int (1 : Int32)), .val (.double (FP.dadd (FP.dmul xx xx) (FP.dmul yy yy))), .second, .val (.double kkx), .second, .val (.double kky), .second, .val (.int (1 : Int32)), .unset, .unset] []))
  refine GoesW.st (fun t_ k_ => XS.aload X79.here hx rfl (hb hby at_229) rfl rfl k_) ?_
  show GoesW p e below s _ _ _ (T79.setTop (mkF m 231 #[.val (.int qa), .val (.int qb), .val (.double xx), .second, .val (.double yy), .second, .val (.ref b48), .val (.ref b50), .val (.ref x), .val (.int (1 : Int32)), .val (.double (FP.dadd (FP.dmul xx xx) (FP.dmul yy yy))), .second, .val (.double kkx), .second, .val (.double kky), .second, .val (.int (1 : Int32)), .unset, .unset] [(.ref x)]))
  refine GoesW.st (fun t_ k_ => XS.iconst X79.here hx rfl (hb hby at_231) k_) ?_
  show GoesW p e below s _ _ _ (T79.setTop (mkF m 232 #[.val (.int qa), .val (.int qb), .val (.double xx), .second, .val (.double yy), .second, .val (.ref b48), .val (.ref b50), .val (.ref x), .val (.int (1 : Int32)), .val (.double (FP.dadd (FP.dmul xx xx) (FP.dmul yy yy))), .second, .val (.double kkx), .second, .val (.double kky), .second, .val (.int (1 : Int32)), .unset, .unset] [(.int (1 : Int32)), (.ref x)]))
  have VV80 := V_x
  obtain ⟨cl80, Ar80, -, S80, M80, H80, -⟩ := VV80
  have hin80 := inb_of S80 (j := (1 : Int32)) ⟨by decide, by decide⟩
  refine GoesW.st (fun t_ k_ => X79.aaload hx (j := (1 : Int32)) (v := (.ref r1)) (by rw [e79]; exact Ar80.1) (State.isArrayOf_alike hZ.alike Ar80.2.1) rfl Ar80.2.2 hin80 (Has.at H80 hin80 rfl) (g := (mkF m 232 #[.val (.int qa), .val (.int qb), .val (.double xx), .second, .val (.double yy), .second, .val (.ref b48), .val (.ref b50), .val (.ref x), .val (.int (1 : Int32)), .val (.double (FP.dadd (FP.dmul xx xx) (FP.dmul yy yy))), .second, .val (.double kkx), .second, .val (.double kky), .second, .val (.int (1 : Int32)), .unset, .unset] [(.int (1 : Int32)), (.ref x)])) rfl rfl (hb hby at_232) _ k_) ?_
  show GoesW p e below s _ _ _ (T79.setTop (mkF m 233 #[.val (.int qa), .val (.int qb), .val (.double xx), .second, .val (.double yy), .second, .val (.ref b48), .val (.ref b50), .val (.ref x), .val (.int (1 : Int32)), .val (.double (FP.dadd (FP.dmul xx xx) (FP.dmul yy yy))), .second, .val (.double kkx), .second, .val (.double kky), .second, .val (.int (1 : Int32)), .unset, .unset] [(.ref r1)]))
  refine GoesW.st (fun t_ k_ => XS.iconst X79.here hx rfl (hb hby at_233) k_) ?_
  show GoesW p e below s _ _ _ (T79.setTop (mkF m 234 #[.val (.int qa), .val (.int qb), .val (.double xx), .second, .val (.double yy), .second, .val (.ref b48), .val (.ref b50), .val (.ref x), .val (.int (1 : Int32)), .val (.double (FP.dadd (FP.dmul xx xx) (FP.dmul yy yy))), .second, .val (.double kkx), .second, .val (.double kky), .second, .val (.int (1 : Int32)), .unset, .unset] [(.int (1 : Int32)), (.ref r1)]))
  refine GoesW.st (fun t_ k_ => X79.ldc2DoubleC hx hown (mvT hZ (hw _ (List.mem_of_getElem? (i := 89) rfl))) (g := (mkF m 234 #[.val (.int qa), .val (.int qb), .val (.double xx), .second, .val (.double yy), .second, .val (.ref b48), .val (.ref b50), .val (.ref x), .val (.int (1 : Int32)), .val (.double (FP.dadd (FP.dmul xx xx) (FP.dmul yy yy))), .second, .val (.double kkx), .second, .val (.double kky), .second, .val (.int (1 : Int32)), .unset, .unset] [(.int (1 : Int32)), (.ref r1)])) rfl (hb hby at_234) _ k_) ?_
  show GoesW p e below s _ _ _ (T79.setTop (mkF m 237 #[.val (.int qa), .val (.int qb), .val (.double xx), .second, .val (.double yy), .second, .val (.ref b48), .val (.ref b50), .val (.ref x), .val (.int (1 : Int32)), .val (.double (FP.dadd (FP.dmul xx xx) (FP.dmul yy yy))), .second, .val (.double kkx), .second, .val (.double kky), .second, .val (.int (1 : Int32)), .unset, .unset] [(.double (13842939354630062080 : UInt64)), (.int (1 : Int32)), (.ref r1)]))
  obtain ⟨cl81, Ar81, q81, S81, M81, H81, G81⟩ := V_r1
  obtain ⟨T81, h81, X81, e81, W81, st81⟩ := stD X79 hx hZ e79 Ar81 (j := (1 : Int32)) (inb_of S81 ⟨by decide, by decide⟩) (g := (mkF m 237 #[.val (.int qa), .val (.int qb), .val (.double xx), .second, .val (.double yy), .second, .val (.ref b48), .val (.ref b50), .val (.ref x), .val (.int (1 : Int32)), .val (.double (FP.dadd (FP.dmul xx xx) (FP.dmul yy yy))), .second, .val (.double kkx), .second, .val (.double kky), .second, .val (.int (1 : Int32)), .unset, .unset] [(.double (13842939354630062080 : UInt64)), (.int (1 : Int32)), (.ref r1)])) rfl rfl (hb hby at_237)
  have V_r1 := Arv.set Ar81 q81 S81 M81 H81 G81 rfl W81 1 rfl (Nat.le_of_ble_eq_true rfl)
  refine GoesW.st st81 ?_
  have V_r1 : Arv Z h81 r1 k1_ .double (2 : Int32) [(.double (13842939354630062080 : UInt64)), (.double (13842939354630062080 : UInt64))] (.double (0 : UInt64)) := V_r1
  have Ex_b48 := Ex_b48.wr W81
  have V_x := V_x.other W81 n2
  have V_r0 := V_r0.other W81 n3
  have N81 := Fr.snoc X81 N79 gn_r1
  have Z0'''''''''''' := Nat.le_trans Z0''''''''''' (Keep.of_wr W81).1
  have hk49'''''''''' := Nat.le_trans hk49''''''''' (Keep.of_wr W81).1
  have O0 := O0.wr W81 gn_r1
  show GoesW p e below s _ _ _ (T81.setTop (mkF m 238 #[.val (.int qa), .val (.int qb), .val (.double xx), .second, .val (.double yy), .second, .val (.ref b48), .val (.ref b50), .val (.ref x), .val (.int (1 : Int32)), .val (.double (FP.dadd (FP.dmul xx xx) (FP.dmul yy yy))), .second, .val (.double kkx), .second, .val (.double kky), .second, .val (.int (1 : Int32)), .unset, .unset] []))
  refine GoesW.st (fun t_ k_ => XS.aload X81.here hx rfl (hb hby at_238) rfl rfl k_) ?_
  show GoesW p e below s _ _ _ (T81.setTop (mkF m 240 #[.val (.int qa), .val (.int qb), .val (.double xx), .second, .val (.double yy), .second, .val (.ref b48), .val (.ref b50), .val (.ref x), .val (.int (1 : Int32)), .val (.double (FP.dadd (FP.dmul xx xx) (FP.dmul yy yy))), .second, .val (.double kkx), .second, .val (.double kky), .second, .val (.int (1 : Int32)), .unset, .unset] [(.ref b48)]))
  refine GoesW.st (fun t_ k_ => XS.aload X81.here hx rfl (hb hby at_240) rfl rfl k_) ?_
  show GoesW p e below s _ _ _ (T81.setTop (mkF m 242 #[.val (.int qa), .val (.int qb), .val (.double xx), .second, .val (.double yy), .second, .val (.ref b48), .val (.ref b50), .val (.ref x), .val (.int (1 : Int32)), .val (.double (FP.dadd (FP.dmul xx xx) (FP.dmul yy yy))), .second, .val (.double kkx), .second, .val (.double kky), .second, .val (.int (1 : Int32)), .unset, .unset] [(.ref b50), (.ref b48)]))
  have lt_x := V_x.lt
  have lt_r0 := V_r0.lt
  have lt_r1 := V_r1.lt
  have ZZ_b := Z0''''''''''''
  obtain ⟨cq82, kq82, q82a, q82b, q82c⟩ := isOf hZ e81 Ex_b48
  obtain ⟨_, _, ⟨T82, L82, k82, n82⟩, -, X82, ⟨Lc82, hQ82, l82, y82, z82⟩, st82⟩ := X81.virtualBack hx (y := (⟨"com/example/delaunet/delaunet/space/HyperbolicSpace", "chartBox", "(Lcom/example/delaunet/delaunet/space/VectorPoint;)[[D"⟩ : MethodName)) (z := (⟨"com/example/delaunet/delaunet/space/HyperbolicSpace", "chartBox", "(Lcom/example/delaunet/delaunet/space/VectorPoint;)[[D"⟩ : MethodName)) hown (mvT hZ (hw _ (List.mem_of_getElem? (i := 71) rfl))) (mvT hZ (hw _ (List.mem_of_getElem? (i := 72) rfl))) (notFace_of_selects (args := #[]) (mvT hZ (hw _ (List.mem_of_getElem? (i := 74) rfl)))) (mvT hZ (hw _ (List.mem_of_getElem? (i := 74) rfl))) (mvT hZ (hw _ (List.mem_of_getElem? (i := 73) rfl))) (by decide) (backOf (W := 0) (own_rmB l Z a0 hw [] b48 b50 h81 n0 Z0'''''''''''' ) hZ (hw _ (List.mem_of_getElem? (i := 75) rfl)) (hw _ (List.mem_of_getElem? (i := 3) rfl)) (by decide) (by decide)) q82a q82c (g := (mkF m 242 #[.val (.int qa), .val (.int qb), .val (.double xx), .second, .val (.double yy), .second, .val (.ref b48), .val (.ref b50), .val (.ref x), .val (.int (1 : Int32)), .val (.double (FP.dadd (FP.dmul xx xx) (FP.dmul yy yy))), .second, .val (.double kkx), .second, .val (.double kky), .second, .val (.int (1 : Int32)), .unset, .unset] [(.ref b50), (.ref b48)])) rfl (by rw [hml]; rfl) (Steps.refl _) (argsL := [(.ref b50)]) (rest := []) (lenOf own_pd180 rfl) rfl (by show 2 * 0 + _ ≤ _; exact Nat.le_of_eq rfl) (hb hby at_242) (fun _ _ => ⟨rfl, e81, (by decide : 9 + 3 ≤ _), (by decide : 45 + 6 ≤ _)⟩)
  dsimp only [Pt.U, Pt.locs, Pt.cells, Pt.slots] at X82 l82 y82 z82 st82 hQ82
  subst l82 y82 z82
  obtain ⟨x_b, rfl, N82q, KB_b, r0_b, r1_b, kx__b, k0__b, k1__b, HB_b, gx_b, gr0_b, gr1_b, n1_b, n2_b, n3_b⟩ := hQ82
  have N82 := Fr.app N81 N82q
  refine GoesW.tr st82 ?_
  have Ex_b48 := Ex_b48.keep KB_b
  have V_x := V_x.keep KB_b nin0
  have V_r0 := V_r0.keep KB_b nin0
  have V_r1 := V_r1.keep KB_b nin0
  have Z0''''''''''''' := Nat.le_trans Z0'''''''''''' KB_b.1
  have hk49''''''''''' := Nat.le_trans hk49'''''''''' KB_b.1
  have O0 := O0.keep KB_b all0
  have HB_b' := HB_b
  obtain ⟨V_x_b, V_r0_b, V_r1_b⟩ := HB_b'
  have gn_x_b := Nat.le_trans ZZ_b gx_b
  have gn_r0_b := Nat.le_trans ZZ_b gr0_b
  have gn_r1_b := Nat.le_trans ZZ_b gr1_b
  show GoesW p e below s _ _ _ (T82.setTop (mkF m 245 #[.val (.int qa), .val (.int qb), .val (.double xx), .second, .val (.double yy), .second, .val (.ref b48), .val (.ref b50), .val (.ref x), .val (.int (1 : Int32)), .val (.double (FP.dadd (FP.dmul xx xx) (FP.dmul yy yy))), .second, .val (.double kkx), .second, .val (.double kky), .second, .val (.int (1 : Int32)), .unset, .unset] [(.ref x_b)]))
  refine GoesW.st (fun t_ k_ => XS.astore X82.here hx rfl (hb hby at_245) rfl rfl (l' := #[.val (.int qa), .val (.int qb), .val (.double xx), .second, .val (.double yy), .second, .val (.ref b48), .val (.ref b50), .val (.ref x), .val (.int (1 : Int32)), .val (.double (FP.dadd (FP.dmul xx xx) (FP.dmul yy yy))), .second, .val (.double kkx), .second, .val (.double kky), .second, .val (.int (1 : Int32)), .val (.ref x_b), .unset]) rfl k_) ?_
  show GoesW p e below s _ _ _ (T82.setTop (mkF m 247 #[.val (.int qa), .val (.int qb), .val (.double xx), .second, .val (.double yy), .second, .val (.ref b48), .val (.ref b50), .val (.ref x), .val (.int (1 : Int32)), .val (.double (FP.dadd (FP.dmul xx xx) (FP.dmul yy yy))), .second, .val (.double kkx), .second, .val (.double kky), .second, .val (.int (1 : Int32)), .val (.ref x_b), .unset] []))
  refine GoesW.st (fun t_ k_ => XS.aload X82.here hx rfl (hb hby at_247) rfl rfl k_) ?_
  show GoesW p e below s _ _ _ (T82.setTop (mkF m 249 #[.val (.int qa), .val (.int qb), .val (.double xx), .second, .val (.double yy), .second, .val (.ref b48), .val (.ref b50), .val (.ref x), .val (.int (1 : Int32)), .val (.double (FP.dadd (FP.dmul xx xx) (FP.dmul yy yy))), .second, .val (.double kkx), .second, .val (.double kky), .second, .val (.int (1 : Int32)), .val (.ref x_b), .unset] [(.ref x_b)]))
  obtain ⟨_, _, ⟨T83, L83, k83, n83⟩, -, X83, ⟨Lc83, hQ83, l83, y83, z83⟩, st83⟩ := Jvm.LawKit.callS X82 hx (y := (⟨"com/example/delaunet/delaunet/space/HyperbolicSpaceChartBoxPinLaw", "isSquareShape", "([[D)Z"⟩ : MethodName)) hown (mvT hZ (hw _ (List.mem_of_getElem? (i := 79) rfl))) (mvT hZ (hw _ (List.mem_of_getElem? (i := 80) rfl))) (mvT hZ (hw _ (List.mem_of_getElem? (i := 81) rfl))) (mvT hZ (hw _ (List.mem_of_getElem? (i := 82) rfl))) (by decide) (backOf (W := 0) (own_rmS l Z a0 hw [] x_b r0_b r1_b _ _ _ T82.heap n0 Z0''''''''''''' ⟨V_x_b, V_r0_b, V_r1_b⟩) hZ (hw _ (List.mem_of_getElem? (i := 82) rfl)) (hw _ (List.mem_of_getElem? (i := 81) rfl)) (by decide) (by decide)) (g := (mkF m 249 #[.val (.int qa), .val (.int qb), .val (.double xx), .second, .val (.double yy), .second, .val (.ref b48), .val (.ref b50), .val (.ref x), .val (.int (1 : Int32)), .val (.double (FP.dadd (FP.dmul xx xx) (FP.dmul yy yy))), .second, .val (.double kkx), .second, .val (.double kky), .second, .val (.int (1 : Int32)), .val (.ref x_b), .unset] [(.ref x_b)])) rfl (by rw [hml]; rfl) (argsL := [(.ref x_b)]) (rest := []) (lenOf own_pd181 rfl) rfl (by show 2 * 0 + _ ≤ _; exact Nat.le_of_eq rfl) (hb hby at_249) (fun _ _ => ⟨rfl, rfl, (by decide : 12 + 0 ≤ _), (by decide : 51 + 0 ≤ _)⟩)
  dsimp only [Pt.U, Pt.locs, Pt.cells, Pt.slots] at X83 l83 y83 z83 st83 hQ83
  subst l83 y83 z83
  obtain ⟨rfl, N83q, EQ3⟩ := hQ83
  have N83 := Fr.app N82 N83q
  refine GoesW.st st83 ?_
  show GoesW p e below s _ _ _ (T83.setTop (mkF m 252 #[.val (.int qa), .val (.int qb), .val (.double xx), .second, .val (.double yy), .second, .val (.ref b48), .val (.ref b50), .val (.ref x), .val (.int (1 : Int32)), .val (.double (FP.dadd (FP.dmul xx xx) (FP.dmul yy yy))), .second, .val (.double kkx), .second, .val (.double kky), .second, .val (.int (1 : Int32)), .val (.ref x_b), .unset] [(.int (1 : Int32))]))
  refine GoesW.st (fun t_ k_ => XS.ifYes X83.here hx rfl (pc0 := 252) (pc' := 257) rfl (hb hby at_252) rfl ((if0 _ _).trans (feq (by decide)).2) (by decide) (by decide) k_) ?_
  show GoesW p e below s _ _ _ (T83.setTop (mkF m 257 #[.val (.int qa), .val (.int qb), .val (.double xx), .second, .val (.double yy), .second, .val (.ref b48), .val (.ref b50), .val (.ref x), .val (.int (1 : Int32)), .val (.double (FP.dadd (FP.dmul xx xx) (FP.dmul yy yy))), .second, .val (.double kkx), .second, .val (.double kky), .second, .val (.int (1 : Int32)), .val (.ref x_b), .unset] []))
  refine GoesW.st (fun t_ k_ => XS.aload X83.here hx rfl (hb hby at_257) rfl rfl k_) ?_
  show GoesW p e below s _ _ _ (T83.setTop (mkF m 259 #[.val (.int qa), .val (.int qb), .val (.double xx), .second, .val (.double yy), .second, .val (.ref b48), .val (.ref b50), .val (.ref x), .val (.int (1 : Int32)), .val (.double (FP.dadd (FP.dmul xx xx) (FP.dmul yy yy))), .second, .val (.double kkx), .second, .val (.double kky), .second, .val (.int (1 : Int32)), .val (.ref x_b), .unset] [(.ref x_b)]))
  refine GoesW.st (fun t_ k_ => XS.aload X83.here hx rfl (hb hby at_259) rfl rfl k_) ?_
  show GoesW p e below s _ _ _ (T83.setTop (mkF m 261 #[.val (.int qa), .val (.int qb), .val (.double xx), .second, .val (.double yy), .second, .val (.ref b48), .val (.ref b50), .val (.ref x), .val (.int (1 : Int32)), .val (.double (FP.dadd (FP.dmul xx xx) (FP.dmul yy yy))), .second, .val (.double kkx), .second, .val (.double kky), .second, .val (.int (1 : Int32)), .val (.ref x_b), .unset] [(.ref x), (.ref x_b)]))
  refine GoesW.st (fun t_ k_ => Jvm.RoadKit.acmp (g := (mkF m 261 #[.val (.int qa), .val (.int qb), .val (.double xx), .second, .val (.double yy), .second, .val (.ref b48), .val (.ref b50), .val (.ref x), .val (.int (1 : Int32)), .val (.double (FP.dadd (FP.dmul xx xx) (FP.dmul yy yy))), .second, .val (.double kkx), .second, .val (.double kky), .second, .val (.int (1 : Int32)), .val (.ref x_b), .unset] [(.ref x), (.ref x_b)])) X83 hx rfl rfl rfl (pc0 := 261) (pc' := 264) (same := false) rfl (hb hby at_261) rfl (decide_eq_false fun q => (Ne.symm (Nat.ne_of_lt (Nat.lt_of_lt_of_le lt_x gx_b))) (Value.ref.inj q)) (by decide) (by decide) k_) ?_
  show GoesW p e below s _ _ _ (T83.setTop (mkF m 264 #[.val (.int qa), .val (.int qb), .val (.double xx), .second, .val (.double yy), .second, .val (.ref b48), .val (.ref b50), .val (.ref x), .val (.int (1 : Int32)), .val (.double (FP.dadd (FP.dmul xx xx) (FP.dmul yy yy))), .second, .val (.double kkx), .second, .val (.double kky), .second, .val (.int (1 : Int32)), .val (.ref x_b), .unset] []))
  refine GoesW.st (fun t_ k_ => XS.aload X83.here hx rfl (hb hby at_264) rfl rfl k_) ?_
  show GoesW p e below s _ _ _ (T83.setTop (mkF m 266 #[.val (.int qa), .val (.int qb), .val (.double xx), .second, .val (.double yy), .second, .val (.ref b48), .val (.ref b50), .val (.ref x), .val (.int (1 : Int32)), .val (.double (FP.dadd (FP.dmul xx xx) (FP.dmul yy yy))), .second, .val (.double kkx), .second, .val (.double kky), .second, .val (.int (1 : Int32)), .val (.ref x_b), .unset] [(.ref x_b)]))
  refine GoesW.st (fun t_ k_ => XS.iconst X83.here hx rfl (hb hby at_266) k_) ?_
  show GoesW p e below s _ _ _ (T83.setTop (mkF m 267 #[.val (.int qa), .val (.int qb), .val (.double xx), .second, .val (.double yy), .second, .val (.ref b48), .val (.ref b50), .val (.ref x), .val (.int (1 : Int32)), .val (.double (FP.dadd (FP.dmul xx xx) (FP.dmul yy yy))), .second, .val (.double kkx), .second, .val (.double kky), .second, .val (.int (1 : Int32)), .val (.ref x_b), .unset] [(.int (0 : Int32)), (.ref x_b)]))
  have VV84 := V_x_b
  obtain ⟨cl84, Ar84, -, S84, M84, H84, -⟩ := VV84
  have hin84 := inb_of S84 (j := (0 : Int32)) ⟨by decide, by decide⟩
  refine GoesW.st (fun t_ k_ => X83.aaload hx (j := (0 : Int32)) (v := (.ref r0_b)) (by rw [EQ3]; exact Ar84.1) (State.isArrayOf_alike hZ.alike Ar84.2.1) rfl Ar84.2.2 hin84 (Has.at H84 hin84 rfl) (g := (mkF m 267 #[.val (.int qa), .val (.int qb), .val (.double xx), .second, .val (.double yy), .second, .val (.ref b48), .val (.ref b50), .val (.ref x), .val (.int (1 : Int32)), .val (.double (FP.dadd (FP.dmul xx xx) (FP.dmul yy yy))), .second, .val (.double kkx), .second, .val (.double kky), .second, .val (.int (1 : Int32)), .val (.ref x_b), .unset] [(.int (0 : Int32)), (.ref x_b)])) rfl rfl (hb hby at_267) _ k_) ?_
  show GoesW p e below s _ _ _ (T83.setTop (mkF m 268 #[.val (.int qa), .val (.int qb), .val (.double xx), .second, .val (.double yy), .second, .val (.ref b48), .val (.ref b50), .val (.ref x), .val (.int (1 : Int32)), .val (.double (FP.dadd (FP.dmul xx xx) (FP.dmul yy yy))), .second, .val (.double kkx), .second, .val (.double kky), .second, .val (.int (1 : Int32)), .val (.ref x_b), .unset] [(.ref r0_b)]))
  refine GoesW.st (fun t_ k_ => XS.aload X83.here hx rfl (hb hby at_268) rfl rfl k_) ?_
  show GoesW p e below s _ _ _ (T83.setTop (mkF m 270 #[.val (.int qa), .val (.int qb), .val (.double xx), .second, .val (.double yy), .second, .val (.ref b48), .val (.ref b50), .val (.ref x), .val (.int (1 : Int32)), .val (.double (FP.dadd (FP.dmul xx xx) (FP.dmul yy yy))), .second, .val (.double kkx), .second, .val (.double kky), .second, .val (.int (1 : Int32)), .val (.ref x_b), .unset] [(.ref x), (.ref r0_b)]))
  refine GoesW.st (fun t_ k_ => XS.iconst X83.here hx rfl (hb hby at_270) k_) ?_
  show GoesW p e below s _ _ _ (T83.setTop (mkF m 271 #[.val (.int qa), .val (.int qb), .val (.double xx), .second, .val (.double yy), .second, .val (.ref b48), .val (.ref b50), .val (.ref x), .val (.int (1 : Int32)), .val (.double (FP.dadd (FP.dmul xx xx) (FP.dmul yy yy))), .second, .val (.double kkx), .second, .val (.double kky), .second, .val (.int (1 : Int32)), .val (.ref x_b), .unset] [(.int (0 : Int32)), (.ref x), (.ref r0_b)]))
  have VV85 := V_x
  obtain ⟨cl85, Ar85, -, S85, M85, H85, -⟩ := VV85
  have hin85 := inb_of S85 (j := (0 : Int32)) ⟨by decide, by decide⟩
  refine GoesW.st (fun t_ k_ => X83.aaload hx (j := (0 : Int32)) (v := (.ref r0)) (by rw [EQ3]; exact Ar85.1) (State.isArrayOf_alike hZ.alike Ar85.2.1) rfl Ar85.2.2 hin85 (Has.at H85 hin85 rfl) (g := (mkF m 271 #[.val (.int qa), .val (.int qb), .val (.double xx), .second, .val (.double yy), .second, .val (.ref b48), .val (.ref b50), .val (.ref x), .val (.int (1 : Int32)), .val (.double (FP.dadd (FP.dmul xx xx) (FP.dmul yy yy))), .second, .val (.double kkx), .second, .val (.double kky), .second, .val (.int (1 : Int32)), .val (.ref x_b), .unset] [(.int (0 : Int32)), (.ref x), (.ref r0_b)])) rfl rfl (hb hby at_271) _ k_) ?_
  show GoesW p e below s _ _ _ (T83.setTop (mkF m 272 #[.val (.int qa), .val (.int qb), .val (.double xx), .second, .val (.double yy), .second, .val (.ref b48), .val (.ref b50), .val (.ref x), .val (.int (1 : Int32)), .val (.double (FP.dadd (FP.dmul xx xx) (FP.dmul yy yy))), .second, .val (.double kkx), .second, .val (.double kky), .second, .val (.int (1 : Int32)), .val (.ref x_b), .unset] [(.ref r0), (.ref r0_b)]))
  refine GoesW.st (fun t_ k_ => Jvm.RoadKit.acmp (g := (mkF m 272 #[.val (.int qa), .val (.int qb), .val (.double xx), .second, .val (.double yy), .second, .val (.ref b48), .val (.ref b50), .val (.ref x), .val (.int (1 : Int32)), .val (.double (FP.dadd (FP.dmul xx xx) (FP.dmul yy yy))), .second, .val (.double kkx), .second, .val (.double kky), .second, .val (.int (1 : Int32)), .val (.ref x_b), .unset] [(.ref r0), (.ref r0_b)])) X83 hx rfl rfl rfl (pc0 := 272) (pc' := 275) (same := false) rfl (hb hby at_272) rfl (decide_eq_false fun q => (Ne.symm (Nat.ne_of_lt (Nat.lt_of_lt_of_le lt_r0 gr0_b))) (Value.ref.inj q)) (by decide) (by decide) k_) ?_
  show GoesW p e below s _ _ _ (T83.setTop (mkF m 275 #[.val (.int qa), .val (.int qb), .val (.double xx), .second, .val (.double yy), .second, .val (.ref b48), .val (.ref b50), .val (.ref x), .val (.int (1 : Int32)), .val (.double (FP.dadd (FP.dmul xx xx) (FP.dmul yy yy))), .second, .val (.double kkx), .second, .val (.double kky), .second, .val (.int (1 : Int32)), .val (.ref x_b), .unset] []))
  refine GoesW.st (fun t_ k_ => XS.aload X83.here hx rfl (hb hby at_275) rfl rfl k_) ?_
  show GoesW p e below s _ _ _ (T83.setTop (mkF m 277 #[.val (.int qa), .val (.int qb), .val (.double xx), .second, .val (.double yy), .second, .val (.ref b48), .val (.ref b50), .val (.ref x), .val (.int (1 : Int32)), .val (.double (FP.dadd (FP.dmul xx xx) (FP.dmul yy yy))), .second, .val (.double kkx), .second, .val (.double kky), .second, .val (.int (1 : Int32)), .val (.ref x_b), .unset] [(.ref x_b)]))
  refine GoesW.st (fun t_ k_ => XS.iconst X83.here hx rfl (hb hby at_277) k_) ?_
  show GoesW p e below s _ _ _ (T83.setTop (mkF m 278 #[.val (.int qa), .val (.int qb), .val (.double xx), .second, .val (.double yy), .second, .val (.ref b48), .val (.ref b50), .val (.ref x), .val (.int (1 : Int32)), .val (.double (FP.dadd (FP.dmul xx xx) (FP.dmul yy yy))), .second, .val (.double kkx), .second, .val (.double kky), .second, .val (.int (1 : Int32)), .val (.ref x_b), .unset] [(.int (1 : Int32)), (.ref x_b)]))
  have VV86 := V_x_b
  obtain ⟨cl86, Ar86, -, S86, M86, H86, -⟩ := VV86
  have hin86 := inb_of S86 (j := (1 : Int32)) ⟨by decide, by decide⟩
  refine GoesW.st (fun t_ k_ => X83.aaload hx (j := (1 : Int32)) (v := (.ref r1_b)) (by rw [EQ3]; exact Ar86.1) (State.isArrayOf_alike hZ.alike Ar86.2.1) rfl Ar86.2.2 hin86 (Has.at H86 hin86 rfl) (g := (mkF m 278 #[.val (.int qa), .val (.int qb), .val (.double xx), .second, .val (.double yy), .second, .val (.ref b48), .val (.ref b50), .val (.ref x), .val (.int (1 : Int32)), .val (.double (FP.dadd (FP.dmul xx xx) (FP.dmul yy yy))), .second, .val (.double kkx), .second, .val (.double kky), .second, .val (.int (1 : Int32)), .val (.ref x_b), .unset] [(.int (1 : Int32)), (.ref x_b)])) rfl rfl (hb hby at_278) _ k_) ?_
  show GoesW p e below s _ _ _ (T83.setTop (mkF m 279 #[.val (.int qa), .val (.int qb), .val (.double xx), .second, .val (.double yy), .second, .val (.ref b48), .val (.ref b50), .val (.ref x), .val (.int (1 : Int32)), .val (.double (FP.dadd (FP.dmul xx xx) (FP.dmul yy yy))), .second, .val (.double kkx), .second, .val (.double kky), .second, .val (.int (1 : Int32)), .val (.ref x_b), .unset] [(.ref r1_b)]))
  refine GoesW.st (fun t_ k_ => XS.aload X83.here hx rfl (hb hby at_279) rfl rfl k_) ?_
  show GoesW p e below s _ _ _ (T83.setTop (mkF m 281 #[.val (.int qa), .val (.int qb), .val (.double xx), .second, .val (.double yy), .second, .val (.ref b48), .val (.ref b50), .val (.ref x), .val (.int (1 : Int32)), .val (.double (FP.dadd (FP.dmul xx xx) (FP.dmul yy yy))), .second, .val (.double kkx), .second, .val (.double kky), .second, .val (.int (1 : Int32)), .val (.ref x_b), .unset] [(.ref x), (.ref r1_b)]))
  refine GoesW.st (fun t_ k_ => XS.iconst X83.here hx rfl (hb hby at_281) k_) ?_
  show GoesW p e below s _ _ _ (T83.setTop (mkF m 282 #[.val (.int qa), .val (.int qb), .val (.double xx), .second, .val (.double yy), .second, .val (.ref b48), .val (.ref b50), .val (.ref x), .val (.int (1 : Int32)), .val (.double (FP.dadd (FP.dmul xx xx) (FP.dmul yy yy))), .second, .val (.double kkx), .second, .val (.double kky), .second, .val (.int (1 : Int32)), .val (.ref x_b), .unset] [(.int (1 : Int32)), (.ref x), (.ref r1_b)]))
  have VV87 := V_x
  obtain ⟨cl87, Ar87, -, S87, M87, H87, -⟩ := VV87
  have hin87 := inb_of S87 (j := (1 : Int32)) ⟨by decide, by decide⟩
  refine GoesW.st (fun t_ k_ => X83.aaload hx (j := (1 : Int32)) (v := (.ref r1)) (by rw [EQ3]; exact Ar87.1) (State.isArrayOf_alike hZ.alike Ar87.2.1) rfl Ar87.2.2 hin87 (Has.at H87 hin87 rfl) (g := (mkF m 282 #[.val (.int qa), .val (.int qb), .val (.double xx), .second, .val (.double yy), .second, .val (.ref b48), .val (.ref b50), .val (.ref x), .val (.int (1 : Int32)), .val (.double (FP.dadd (FP.dmul xx xx) (FP.dmul yy yy))), .second, .val (.double kkx), .second, .val (.double kky), .second, .val (.int (1 : Int32)), .val (.ref x_b), .unset] [(.int (1 : Int32)), (.ref x), (.ref r1_b)])) rfl rfl (hb hby at_282) _ k_) ?_
  show GoesW p e below s _ _ _ (T83.setTop (mkF m 283 #[.val (.int qa), .val (.int qb), .val (.double xx), .second, .val (.double yy), .second, .val (.ref b48), .val (.ref b50), .val (.ref x), .val (.int (1 : Int32)), .val (.double (FP.dadd (FP.dmul xx xx) (FP.dmul yy yy))), .second, .val (.double kkx), .second, .val (.double kky), .second, .val (.int (1 : Int32)), .val (.ref x_b), .unset] [(.ref r1), (.ref r1_b)]))
  refine GoesW.st (fun t_ k_ => Jvm.RoadKit.acmp (g := (mkF m 283 #[.val (.int qa), .val (.int qb), .val (.double xx), .second, .val (.double yy), .second, .val (.ref b48), .val (.ref b50), .val (.ref x), .val (.int (1 : Int32)), .val (.double (FP.dadd (FP.dmul xx xx) (FP.dmul yy yy))), .second, .val (.double kkx), .second, .val (.double kky), .second, .val (.int (1 : Int32)), .val (.ref x_b), .unset] [(.ref r1), (.ref r1_b)])) X83 hx rfl rfl rfl (pc0 := 283) (pc' := 286) (same := false) rfl (hb hby at_283) rfl (decide_eq_false fun q => (Ne.symm (Nat.ne_of_lt (Nat.lt_of_lt_of_le lt_r1 gr1_b))) (Value.ref.inj q)) (by decide) (by decide) k_) ?_
  show GoesW p e below s _ _ _ (T83.setTop (mkF m 286 #[.val (.int qa), .val (.int qb), .val (.double xx), .second, .val (.double yy), .second, .val (.ref b48), .val (.ref b50), .val (.ref x), .val (.int (1 : Int32)), .val (.double (FP.dadd (FP.dmul xx xx) (FP.dmul yy yy))), .second, .val (.double kkx), .second, .val (.double kky), .second, .val (.int (1 : Int32)), .val (.ref x_b), .unset] []))
  refine GoesW.st (fun t_ k_ => XS.aload X83.here hx rfl (hb hby at_286) rfl rfl k_) ?_
  show GoesW p e below s _ _ _ (T83.setTop (mkF m 288 #[.val (.int qa), .val (.int qb), .val (.double xx), .second, .val (.double yy), .second, .val (.ref b48), .val (.ref b50), .val (.ref x), .val (.int (1 : Int32)), .val (.double (FP.dadd (FP.dmul xx xx) (FP.dmul yy yy))), .second, .val (.double kkx), .second, .val (.double kky), .second, .val (.int (1 : Int32)), .val (.ref x_b), .unset] [(.ref x_b)]))
  refine GoesW.st (fun t_ k_ => XS.iconst X83.here hx rfl (hb hby at_288) k_) ?_
  show GoesW p e below s _ _ _ (T83.setTop (mkF m 289 #[.val (.int qa), .val (.int qb), .val (.double xx), .second, .val (.double yy), .second, .val (.ref b48), .val (.ref b50), .val (.ref x), .val (.int (1 : Int32)), .val (.double (FP.dadd (FP.dmul xx xx) (FP.dmul yy yy))), .second, .val (.double kkx), .second, .val (.double kky), .second, .val (.int (1 : Int32)), .val (.ref x_b), .unset] [(.int (0 : Int32)), (.ref x_b)]))
  have VV88 := V_x_b
  obtain ⟨cl88, Ar88, -, S88, M88, H88, -⟩ := VV88
  have hin88 := inb_of S88 (j := (0 : Int32)) ⟨by decide, by decide⟩
  refine GoesW.st (fun t_ k_ => X83.aaload hx (j := (0 : Int32)) (v := (.ref r0_b)) (by rw [EQ3]; exact Ar88.1) (State.isArrayOf_alike hZ.alike Ar88.2.1) rfl Ar88.2.2 hin88 (Has.at H88 hin88 rfl) (g := (mkF m 289 #[.val (.int qa), .val (.int qb), .val (.double xx), .second, .val (.double yy), .second, .val (.ref b48), .val (.ref b50), .val (.ref x), .val (.int (1 : Int32)), .val (.double (FP.dadd (FP.dmul xx xx) (FP.dmul yy yy))), .second, .val (.double kkx), .second, .val (.double kky), .second, .val (.int (1 : Int32)), .val (.ref x_b), .unset] [(.int (0 : Int32)), (.ref x_b)])) rfl rfl (hb hby at_289) _ k_) ?_
  show GoesW p e below s _ _ _ (T83.setTop (mkF m 290 #[.val (.int qa), .val (.int qb), .val (.double xx), .second, .val (.double yy), .second, .val (.ref b48), .val (.ref b50), .val (.ref x), .val (.int (1 : Int32)), .val (.double (FP.dadd (FP.dmul xx xx) (FP.dmul yy yy))), .second, .val (.double kkx), .second, .val (.double kky), .second, .val (.int (1 : Int32)), .val (.ref x_b), .unset] [(.ref r0_b)]))
  refine GoesW.st (fun t_ k_ => XS.aload X83.here hx rfl (hb hby at_290) rfl rfl k_) ?_
  show GoesW p e below s _ _ _ (T83.setTop (mkF m 292 #[.val (.int qa), .val (.int qb), .val (.double xx), .second, .val (.double yy), .second, .val (.ref b48), .val (.ref b50), .val (.ref x), .val (.int (1 : Int32)), .val (.double (FP.dadd (FP.dmul xx xx) (FP.dmul yy yy))), .second, .val (.double kkx), .second, .val (.double kky), .second, .val (.int (1 : Int32)), .val (.ref x_b), .unset] [(.ref x_b), (.ref r0_b)]))
  refine GoesW.st (fun t_ k_ => XS.iconst X83.here hx rfl (hb hby at_292) k_) ?_
  show GoesW p e below s _ _ _ (T83.setTop (mkF m 293 #[.val (.int qa), .val (.int qb), .val (.double xx), .second, .val (.double yy), .second, .val (.ref b48), .val (.ref b50), .val (.ref x), .val (.int (1 : Int32)), .val (.double (FP.dadd (FP.dmul xx xx) (FP.dmul yy yy))), .second, .val (.double kkx), .second, .val (.double kky), .second, .val (.int (1 : Int32)), .val (.ref x_b), .unset] [(.int (1 : Int32)), (.ref x_b), (.ref r0_b)]))
  have VV89 := V_x_b
  obtain ⟨cl89, Ar89, -, S89, M89, H89, -⟩ := VV89
  have hin89 := inb_of S89 (j := (1 : Int32)) ⟨by decide, by decide⟩
  refine GoesW.st (fun t_ k_ => X83.aaload hx (j := (1 : Int32)) (v := (.ref r1_b)) (by rw [EQ3]; exact Ar89.1) (State.isArrayOf_alike hZ.alike Ar89.2.1) rfl Ar89.2.2 hin89 (Has.at H89 hin89 rfl) (g := (mkF m 293 #[.val (.int qa), .val (.int qb), .val (.double xx), .second, .val (.double yy), .second, .val (.ref b48), .val (.ref b50), .val (.ref x), .val (.int (1 : Int32)), .val (.double (FP.dadd (FP.dmul xx xx) (FP.dmul yy yy))), .second, .val (.double kkx), .second, .val (.double kky), .second, .val (.int (1 : Int32)), .val (.ref x_b), .unset] [(.int (1 : Int32)), (.ref x_b), (.ref r0_b)])) rfl rfl (hb hby at_293) _ k_) ?_
  show GoesW p e below s _ _ _ (T83.setTop (mkF m 294 #[.val (.int qa), .val (.int qb), .val (.double xx), .second, .val (.double yy), .second, .val (.ref b48), .val (.ref b50), .val (.ref x), .val (.int (1 : Int32)), .val (.double (FP.dadd (FP.dmul xx xx) (FP.dmul yy yy))), .second, .val (.double kkx), .second, .val (.double kky), .second, .val (.int (1 : Int32)), .val (.ref x_b), .unset] [(.ref r1_b), (.ref r0_b)]))
  refine GoesW.st (fun t_ k_ => Jvm.RoadKit.acmp (g := (mkF m 294 #[.val (.int qa), .val (.int qb), .val (.double xx), .second, .val (.double yy), .second, .val (.ref b48), .val (.ref b50), .val (.ref x), .val (.int (1 : Int32)), .val (.double (FP.dadd (FP.dmul xx xx) (FP.dmul yy yy))), .second, .val (.double kkx), .second, .val (.double kky), .second, .val (.int (1 : Int32)), .val (.ref x_b), .unset] [(.ref r1_b), (.ref r0_b)])) X83 hx rfl rfl rfl (pc0 := 294) (pc' := 297) (same := false) rfl (hb hby at_294) rfl (decide_eq_false fun q => n3_b (Value.ref.inj q)) (by decide) (by decide) k_) ?_
  show GoesW p e below s _ _ _ (T83.setTop (mkF m 297 #[.val (.int qa), .val (.int qb), .val (.double xx), .second, .val (.double yy), .second, .val (.ref b48), .val (.ref b50), .val (.ref x), .val (.int (1 : Int32)), .val (.double (FP.dadd (FP.dmul xx xx) (FP.dmul yy yy))), .second, .val (.double kkx), .second, .val (.double kky), .second, .val (.int (1 : Int32)), .val (.ref x_b), .unset] []))
  refine GoesW.st (fun t_ k_ => XS.aload X83.here hx rfl (hb hby at_297) rfl rfl k_) ?_
  show GoesW p e below s _ _ _ (T83.setTop (mkF m 299 #[.val (.int qa), .val (.int qb), .val (.double xx), .second, .val (.double yy), .second, .val (.ref b48), .val (.ref b50), .val (.ref x), .val (.int (1 : Int32)), .val (.double (FP.dadd (FP.dmul xx xx) (FP.dmul yy yy))), .second, .val (.double kkx), .second, .val (.double kky), .second, .val (.int (1 : Int32)), .val (.ref x_b), .unset] [(.ref x_b)]))
  obtain ⟨_, _, ⟨T90, L90, k90, n90⟩, -, X90, ⟨Lc90, hQ90, l90, y90, z90⟩, st90⟩ := Jvm.LawKit.callS X83 hx (y := (⟨"com/example/delaunet/delaunet/space/HyperbolicSpaceChartBoxPinLaw", "isUnitSquare", "([[D)Z"⟩ : MethodName)) hown (mvT hZ (hw _ (List.mem_of_getElem? (i := 83) rfl))) (mvT hZ (hw _ (List.mem_of_getElem? (i := 84) rfl))) (mvT hZ (hw _ (List.mem_of_getElem? (i := 81) rfl))) (mvT hZ (hw _ (List.mem_of_getElem? (i := 85) rfl))) (by decide) (backOf (W := 0) (own_rmU l Z a0 hw [] x_b r0_b r1_b _ _ _ T82.heap n0 Z0''''''''''''' ⟨V_x_b, V_r0_b, V_r1_b⟩) hZ (hw _ (List.mem_of_getElem? (i := 85) rfl)) (hw _ (List.mem_of_getElem? (i := 81) rfl)) (by decide) (by decide)) (g := (mkF m 299 #[.val (.int qa), .val (.int qb), .val (.double xx), .second, .val (.double yy), .second, .val (.ref b48), .val (.ref b50), .val (.ref x), .val (.int (1 : Int32)), .val (.double (FP.dadd (FP.dmul xx xx) (FP.dmul yy yy))), .second, .val (.double kkx), .second, .val (.double kky), .second, .val (.int (1 : Int32)), .val (.ref x_b), .unset] [(.ref x_b)])) rfl (by rw [hml]; rfl) (argsL := [(.ref x_b)]) (rest := []) (lenOf own_pd181 rfl) rfl (by show 2 * 0 + _ ≤ _; exact Nat.le_of_eq rfl) (hb hby at_299) (fun _ _ => ⟨rfl, EQ3, (by decide : 12 + 0 ≤ _), (by decide : 51 + 0 ≤ _)⟩)
  dsimp only [Pt.U, Pt.locs, Pt.cells, Pt.slots] at X90 l90 y90 z90 st90 hQ90
  subst l90 y90 z90
  obtain ⟨rfl, N90q, EQ4⟩ := hQ90
  have N90 := Fr.app N83 N90q
  refine GoesW.st st90 ?_
  show GoesW p e below s _ _ _ (T90.setTop (mkF m 302 #[.val (.int qa), .val (.int qb), .val (.double xx), .second, .val (.double yy), .second, .val (.ref b48), .val (.ref b50), .val (.ref x), .val (.int (1 : Int32)), .val (.double (FP.dadd (FP.dmul xx xx) (FP.dmul yy yy))), .second, .val (.double kkx), .second, .val (.double kky), .second, .val (.int (1 : Int32)), .val (.ref x_b), .unset] [(.int (1 : Int32))]))
  refine GoesW.st (fun t_ k_ => XS.ifNo X90.here hx rfl (hb hby at_302) rfl ((if0 _ _).trans (feq (by decide)).1) k_) ?_
  show GoesW p e below s _ _ _ (T90.setTop (mkF m 305 #[.val (.int qa), .val (.int qb), .val (.double xx), .second, .val (.double yy), .second, .val (.ref b48), .val (.ref b50), .val (.ref x), .val (.int (1 : Int32)), .val (.double (FP.dadd (FP.dmul xx xx) (FP.dmul yy yy))), .second, .val (.double kkx), .second, .val (.double kky), .second, .val (.int (1 : Int32)), .val (.ref x_b), .unset] []))
  refine GoesW.st (fun t_ k_ => XS.iconst X90.here hx rfl (hb hby at_305) k_) ?_
  show GoesW p e below s _ _ _ (T90.setTop (mkF m 306 #[.val (.int qa), .val (.int qb), .val (.double xx), .second, .val (.double yy), .second, .val (.ref b48), .val (.ref b50), .val (.ref x), .val (.int (1 : Int32)), .val (.double (FP.dadd (FP.dmul xx xx) (FP.dmul yy yy))), .second, .val (.double kkx), .second, .val (.double kky), .second, .val (.int (1 : Int32)), .val (.ref x_b), .unset] [(.int (1 : Int32))]))
  refine GoesW.st (fun t_ k_ => XS.goto X90.here hx rfl (pc0 := 306) (pc' := 310) rfl (hb hby at_306) (by decide) (by decide) k_) ?_
  show GoesW p e below s _ _ _ (T90.setTop (mkF m 310 #[.val (.int qa), .val (.int qb), .val (.double xx), .second, .val (.double yy), .second, .val (.ref b48), .val (.ref b50), .val (.ref x), .val (.int (1 : Int32)), .val (.double (FP.dadd (FP.dmul xx xx) (FP.dmul yy yy))), .second, .val (.double kkx), .second, .val (.double kky), .second, .val (.int (1 : Int32)), .val (.ref x_b), .unset] [(.int (1 : Int32))]))
  refine GoesW.st (fun t_ k_ => XS.istore X90.here hx rfl (hb hby at_310) rfl  (l' := #[.val (.int qa), .val (.int qb), .val (.double xx), .second, .val (.double yy), .second, .val (.ref b48), .val (.ref b50), .val (.ref x), .val (.int (1 : Int32)), .val (.double (FP.dadd (FP.dmul xx xx) (FP.dmul yy yy))), .second, .val (.double kkx), .second, .val (.double kky), .second, .val (.int (1 : Int32)), .val (.ref x_b), .val (.int (1 : Int32))]) rfl k_) ?_
  show GoesW p e below s _ _ _ (T90.setTop (mkF m 312 #[.val (.int qa), .val (.int qb), .val (.double xx), .second, .val (.double yy), .second, .val (.ref b48), .val (.ref b50), .val (.ref x), .val (.int (1 : Int32)), .val (.double (FP.dadd (FP.dmul xx xx) (FP.dmul yy yy))), .second, .val (.double kkx), .second, .val (.double kky), .second, .val (.int (1 : Int32)), .val (.ref x_b), .val (.int (1 : Int32))] []))
  refine GoesW.st (fun t_ k_ => XS.iload X90.here hx rfl (hb hby at_312) rfl  k_) ?_
  show GoesW p e below s _ _ _ (T90.setTop (mkF m 314 #[.val (.int qa), .val (.int qb), .val (.double xx), .second, .val (.double yy), .second, .val (.ref b48), .val (.ref b50), .val (.ref x), .val (.int (1 : Int32)), .val (.double (FP.dadd (FP.dmul xx xx) (FP.dmul yy yy))), .second, .val (.double kkx), .second, .val (.double kky), .second, .val (.int (1 : Int32)), .val (.ref x_b), .val (.int (1 : Int32))] [(.int (1 : Int32))]))
  refine GoesW.st (fun t_ k_ => XS.ifNo X90.here hx rfl (hb hby at_314) rfl ((if0 _ _).trans (feq (by decide)).1) k_) ?_
  show GoesW p e below s _ _ _ (T90.setTop (mkF m 317 #[.val (.int qa), .val (.int qb), .val (.double xx), .second, .val (.double yy), .second, .val (.ref b48), .val (.ref b50), .val (.ref x), .val (.int (1 : Int32)), .val (.double (FP.dadd (FP.dmul xx xx) (FP.dmul yy yy))), .second, .val (.double kkx), .second, .val (.double kky), .second, .val (.int (1 : Int32)), .val (.ref x_b), .val (.int (1 : Int32))] []))
  refine GoesW.st (fun t_ k_ => XS.iload X90.here hx rfl (hb hby at_317) rfl  k_) ?_
  show GoesW p e below s _ _ _ (T90.setTop (mkF m 319 #[.val (.int qa), .val (.int qb), .val (.double xx), .second, .val (.double yy), .second, .val (.ref b48), .val (.ref b50), .val (.ref x), .val (.int (1 : Int32)), .val (.double (FP.dadd (FP.dmul xx xx) (FP.dmul yy yy))), .second, .val (.double kkx), .second, .val (.double kky), .second, .val (.int (1 : Int32)), .val (.ref x_b), .val (.int (1 : Int32))] [(.int (1 : Int32))]))
  refine GoesW.st (fun t_ k_ => XS.ifNo X90.here hx rfl (hb hby at_319) rfl ((if0 _ _).trans (feq (by decide)).1) k_) ?_
  show GoesW p e below s _ _ _ (T90.setTop (mkF m 322 #[.val (.int qa), .val (.int qb), .val (.double xx), .second, .val (.double yy), .second, .val (.ref b48), .val (.ref b50), .val (.ref x), .val (.int (1 : Int32)), .val (.double (FP.dadd (FP.dmul xx xx) (FP.dmul yy yy))), .second, .val (.double kkx), .second, .val (.double kky), .second, .val (.int (1 : Int32)), .val (.ref x_b), .val (.int (1 : Int32))] []))
  refine GoesW.st (fun t_ k_ => XS.iload X90.here hx rfl (hb hby at_322) rfl  k_) ?_
  show GoesW p e below s _ _ _ (T90.setTop (mkF m 324 #[.val (.int qa), .val (.int qb), .val (.double xx), .second, .val (.double yy), .second, .val (.ref b48), .val (.ref b50), .val (.ref x), .val (.int (1 : Int32)), .val (.double (FP.dadd (FP.dmul xx xx) (FP.dmul yy yy))), .second, .val (.double kkx), .second, .val (.double kky), .second, .val (.int (1 : Int32)), .val (.ref x_b), .val (.int (1 : Int32))] [(.int (1 : Int32))]))
  refine GoesW.st (fun t_ k_ => XS.ifNo X90.here hx rfl (hb hby at_324) rfl ((if0 _ _).trans (feq (by decide)).1) k_) ?_
  show GoesW p e below s _ _ _ (T90.setTop (mkF m 327 #[.val (.int qa), .val (.int qb), .val (.double xx), .second, .val (.double yy), .second, .val (.ref b48), .val (.ref b50), .val (.ref x), .val (.int (1 : Int32)), .val (.double (FP.dadd (FP.dmul xx xx) (FP.dmul yy yy))), .second, .val (.double kkx), .second, .val (.double kky), .second, .val (.int (1 : Int32)), .val (.ref x_b), .val (.int (1 : Int32))] []))
  refine GoesW.st (fun t_ k_ => XS.iconst X90.here hx rfl (hb hby at_327) k_) ?_
  show GoesW p e below s _ _ _ (T90.setTop (mkF m 328 #[.val (.int qa), .val (.int qb), .val (.double xx), .second, .val (.double yy), .second, .val (.ref b48), .val (.ref b50), .val (.ref x), .val (.int (1 : Int32)), .val (.double (FP.dadd (FP.dmul xx xx) (FP.dmul yy yy))), .second, .val (.double kkx), .second, .val (.double kky), .second, .val (.int (1 : Int32)), .val (.ref x_b), .val (.int (1 : Int32))] [(.int (1 : Int32))]))
  refine GoesW.st (fun t_ k_ => XS.goto X90.here hx rfl (pc0 := 328) (pc' := 332) rfl (hb hby at_328) (by decide) (by decide) k_) ?_
  show GoesW p e below s _ _ _ (T90.setTop (mkF m 332 #[.val (.int qa), .val (.int qb), .val (.double xx), .second, .val (.double yy), .second, .val (.ref b48), .val (.ref b50), .val (.ref x), .val (.int (1 : Int32)), .val (.double (FP.dadd (FP.dmul xx xx) (FP.dmul yy yy))), .second, .val (.double kkx), .second, .val (.double kky), .second, .val (.int (1 : Int32)), .val (.ref x_b), .val (.int (1 : Int32))] [(.int (1 : Int32))]))
  exact GoesW.retN X90 hS49 (by rw [EQ4]; exact hk49''''''''''') hx (t := .boolean) hret hlk (by simp) (hb hby at_332) (by decide) (by decide) (⟨rfl, N90⟩)
set_option maxRecDepth 65536 in
set_option maxHeartbeats 40000000 in
theorem comes_1 {Post : Tables → Env → Array Value → State → Outcome → State → Prop} (hpost : ∀ tb e args s v u, (limb_1_1.after args s (.returned v) u = true ∧ limb_1_2.after args s (.returned v) u = true ∧ True) → ReturnedEndW s (.returned v) u (Jvm.fieldLocs frame_1_writes args s ++ Jvm.arrayLocs frame_1_arrays args s ++ Jvm.staticLocs frame_1_statics s) 32 1152 → Post tb e args s (.returned v) u) :
    ArmFor flags0 classFile x code maxLocals ret World_1 tables_1 room_1 Calls_1 rest_1 Pre_1 Post := by
  intro l hfl _ _ p e ha hc hk s m args below hf hA hF happ hP
  obtain ⟨hcalls, hrest, hpre⟩ := hP
  obtain ⟨-, -, -, hnamed, -, -, -, hat⟩ := (Spec.applies_iff hf).mp happ
  obtain ⟨hg, hn⟩ := and_e (Cond.before_iff.mp (show (Jvm.Cond.and given_1 narrow_1).before args s = true from hpre))
  obtain ⟨g0, gr0⟩ := and_e hg
  obtain ⟨ga0, gr1⟩ := and_e gr0
  have ga1 := gr1
  obtain ⟨w0, w1, rfl⟩ : ∃ w0 w1 : Value, args = #[w0, w1] := by
    have hs : args.size = 2 := by simpa [Cond.value, given_1] using g0
    obtain ⟨L⟩ := args
    match L, hs with
    | [w0, w1], _ => exact ⟨w0, w1, rfl⟩
  have hw := fun d (hd : d ∈ tables_1) => atoms_spec (ws := Jvm.Cond.code x code maxLocals ret :: tables_1) hat d (List.mem_cons_of_mem _ hd)
  have hfit : Fit s := fun {y c} hc i hi => by
    obtain ⟨ha, rfl⟩ := Array.getElem?_eq_some_iff.mp hc
    have q := List.all_eq_true.mp ((Array.all_eq_true_iff_forall_mem.mp hF) _ (Array.getElem_mem ha)) i (List.mem_range.mpr hi)
    simpa [Array.getElem?_eq_getElem hi] using q
  obtain ⟨i0, ei0⟩ := is_v ga0
  obtain rfl : w0 = (.int i0) := Option.some.inj ei0
  obtain ⟨i1, ei1⟩ := is_v ga1
  obtain rfl : w1 = (.int i1) := Option.some.inj ei1
  have hn' : (Jvm.Cond.exactly (Jvm.Term.static "com/example/delaunet/delaunet/space/Borders" "MIDPOINT" "Lcom/example/delaunet/delaunet/space/Borders;") "com/example/delaunet/delaunet/space/Borders").value _ s none s [] = some true := hn
  obtain ⟨ab, ev⟩ := exa_v hn'
  have X_b := Exa.start ev hn'
  have S_m := Sta.start ev (Or.inr ⟨(hw _ (List.mem_of_getElem? (i := 13) rfl)), (hw _ (List.mem_of_getElem? (i := 14) rfl))⟩)
  obtain ⟨n, o, h1, h2, h3, _, L, rfl, ⟨rfl, N⟩, hq⟩ := own_rm0 l s _ hw tables_1 i0 i1 ab s.heap s.heap.size (Nat.le_refl _) (Old.start s) S_m X_b p e ha hc hk s m _ below hf ((Spec.applies_iff_loose hf).mp happ).1 ⟨rfl, State.Warmed39.refl s, rfl⟩ trivial
  refine ⟨n, _, h1, h2, h3, hpost _ _ _ _ _ _ ⟨Cond.after_iff.mpr rfl, Cond.after_iff.mpr (eq_i res_at (Term.int_eval (1)) rfl), trivial⟩ ⟨hq.1, hq.2.1, hq.2.2.1, (hq.2.2.2.sift fun y hy => Or.inr (N y hy)).mono (by decide) (by decide)⟩⟩
theorem main_1_1 : Claimed_1_1 := comes_1 fun _ _ _ _ _ _ h hF => ⟨h.1, hF⟩
theorem main_1_2 : Claimed_1_2 := comes_1 fun _ _ _ _ _ _ h hF => ⟨h.2.1, hF⟩
end Jvm.Pilot.@@N@@
namespace Jvm.Pilot.@@N@@
open Jvm Jvm.ClassFile Sem Op Lib Jvm.Free Jvm.Stand Jvm.Pilot.@@N@@.Jvm.D
/-! MADE BY PROGRAM (witnessworld.py) out of the Statement's table words and the real class files: 27 classes; the members and pool entries that the words name. The judged class is class 1, her method 3. -/
namespace start1
open Jvm.ClassFile
def u (s : String) : CpInfo := .utf8 (stringToUtf16 s)
/-- a pool by its gaps: so many unusable entries, then the entry; so many at the end -/
def gap : Nat → List CpInfo → List CpInfo
  | 0, r => r
  | n + 1, r => .unusable :: gap n r
def poolList (es : List (Nat × CpInfo)) (last : Nat) : List CpInfo := es.foldr (fun e r => gap e.1 (e.2 :: r)) (gap last [])
def pool (es : List (Nat × CpInfo)) (last : Nat) : Array CpInfo := ⟨poolList es last⟩
def fileOf (pool : Array CpInfo) (this : Nat) (attrs : Array Attribute := #[]) (ms : Array MethodInfo := #[]) (fl : Nat := 33) (sup : Nat := 0) (ifs : Array Nat := #[]) (fds : Array FieldInfo := #[]) : ClassFile where
  minorVersion := 0
  majorVersion := 65
  constantPool := pool
  accessFlags := fl
  thisClass := this
  superClass := sup
  interfaces := ifs
  fields := fds
  methods := ms
  attributes := attrs
def plain (name : String) (sup : Option ClassId) : Class where
  name := name
  kind := .ordinary
  loader := none
  accessFlags := 33
  super := sup
  interfaces := #[]
  cf := none
  fields := #[]
  methods := #[]
  instanceTypes := #[]
  staticTypes := #[]
  resolved := #[]
  callSites := []
  init := .initialized
  statics := none
  mirror := none

def pool0 : Array CpInfo := pool [(5, u "<init>"), (0, u "()V"), (1, .class_ 10), (1, u "java/lang/Object"), (85, u "clone"), (0, u "()Ljava/lang/Object;")] 26

def k0c0 : Code := { maxStack := 0, maxLocals := 1, code := object_method_1_code, exceptionTable := #[], attributes := #[] }
def k0m0 : Method := { name := "<init>", desc := "()V", sig := { parameters := [], returnType := none }, accessFlags := 1, code := some k0c0 }
def k0m1 : Method := { name := "clone", desc := "()Ljava/lang/Object;", sig := { parameters := [], returnType := some (.object "java/lang/Object") }, accessFlags := 260, code := none }
/-- java/lang/Object -/
def k0 : Class := { plain "java/lang/Object" none with
  accessFlags := 33
  interfaces := #[]
  cf := some (fileOf pool0 8 #[] #[{ accessFlags := 1, nameIndex := 5, descriptorIndex := 6, attributes := #[] }, { accessFlags := 260, nameIndex := 96, descriptorIndex := 97, attributes := #[] }] 33 0 #[] #[])
  fields := #[]
  methods := #[k0m0, k0m1]
  instanceTypes := #[]
  staticTypes := #[]
  resolved := Array.replicate 124 none
  statics := none }

def pool1 : Array CpInfo := pool [(2, .class_ 4), (0, .nameAndType 5 6), (0, u "java/lang/Object"), (0, u "<init>"), (0, u "()V"), (0, .double 13830554455654793216), (1, .double 4654311885213007872), (1, .class_ 12), (0, u "com/example/delaunet/delaunet/space/HyperbolicSpace"), (0, .methodref 11 3), (0, .class_ 15), (0, u "com/example/delaunet/delaunet/space/VectorPoint"), (0, .methodref 14 17), (0, .nameAndType 5 18), (0, u "([D)V"), (0, .methodref 11 20), (0, .nameAndType 21 22), (0, u "chartBox"), (0, u "(Lcom/example/delaunet/delaunet/space/VectorPoint;)[[D"), (0, .methodref 24 25), (0, .class_ 26), (0, .nameAndType 27 28), (0, u "com/example/delaunet/delaunet/space/HyperbolicSpaceChartBoxPinLaw"), (0, u "isSquareShape"), (0, u "([[D)Z"), (0, .methodref 24 30), (0, .nameAndType 31 28), (0, u "isUnitSquare"), (0, .double 4611686018427387904), (1, .double 4619567317775286272), (1, .double 13842939354630062080), (4, u "law"), (0, u "(II)Z")] 4

def k1m0 : Method := { name := "<init>", desc := "()V", sig := { parameters := [], returnType := none }, accessFlags := 1, code := none }
def k1c1 : Code := { maxStack := 2, maxLocals := 1, code := method_2_code, exceptionTable := #[], attributes := #[] }
def k1m1 : Method := { name := "isSquareShape", desc := "([[D)Z", sig := { parameters := [(.array (.array .double))], returnType := some .boolean }, accessFlags := 10, code := some k1c1 }
def k1c2 : Code := { maxStack := 4, maxLocals := 1, code := method_3_code, exceptionTable := #[], attributes := #[] }
def k1m2 : Method := { name := "isUnitSquare", desc := "([[D)Z", sig := { parameters := [(.array (.array .double))], returnType := some .boolean }, accessFlags := 10, code := some k1c2 }
def k1c3 : Code := { maxStack := 7, maxLocals := 19, code := code, exceptionTable := #[], attributes := #[] }
def k1m3 : Method := { name := "law", desc := "(II)Z", sig := { parameters := [.int, .int], returnType := some .boolean }, accessFlags := 9, code := some k1c3 }
/-- com/example/delaunet/delaunet/space/HyperbolicSpaceChartBoxPinLaw -/
def k1 : Class := { plain "com/example/delaunet/delaunet/space/HyperbolicSpaceChartBoxPinLaw" (some 0) with
  accessFlags := 49
  interfaces := #[]
  cf := some (fileOf pool1 24 #[] #[{ accessFlags := 1, nameIndex := 5, descriptorIndex := 6, attributes := #[] }, { accessFlags := 10, nameIndex := 27, descriptorIndex := 28, attributes := #[] }, { accessFlags := 10, nameIndex := 31, descriptorIndex := 28, attributes := #[] }, { accessFlags := 9, nameIndex := 41, descriptorIndex := 42, attributes := #[] }] 49 2 #[] #[])
  fields := #[]
  methods := #[k1m0, k1m1, k1m2, k1m3]
  instanceTypes := #[]
  staticTypes := #[]
  resolved := Array.replicate 47 none
  statics := none }

def pool2 : Array CpInfo := pool [(34, .class_ 36), (1, u "com/example/delaunet/delaunet/space/Space"), (49, .class_ 87), (0, u "java/lang/Object")] 45

/-- com/example/delaunet/delaunet/space/Space -/
def k2 : Class := { plain "com/example/delaunet/delaunet/space/Space" (some 0) with
  accessFlags := 1537
  interfaces := #[]
  cf := some (fileOf pool2 34 #[] #[] 1537 86 #[] #[])
  fields := #[]
  methods := #[]
  instanceTypes := #[]
  staticTypes := #[]
  resolved := Array.replicate 133 none
  statics := none }

def pool3 : Array CpInfo := pool [(1, .class_ 2), (0, u "com/example/delaunet/delaunet/space/Chart"), (0, .class_ 4), (0, u "java/lang/Object")] 10

/-- com/example/delaunet/delaunet/space/Chart -/
def k3 : Class := { plain "com/example/delaunet/delaunet/space/Chart" (some 0) with
  accessFlags := 1536
  interfaces := #[]
  cf := some (fileOf pool3 1 #[] #[] 1536 3 #[] #[])
  fields := #[]
  methods := #[]
  instanceTypes := #[]
  staticTypes := #[]
  resolved := Array.replicate 15 none
  statics := none }

def pool4 : Array CpInfo := pool [(1, .fieldref 2 3), (0, .class_ 4), (0, .nameAndType 5 6), (0, u "com/example/delaunet/delaunet/space/Borders"), (0, u "MIDPOINT"), (0, u "Lcom/example/delaunet/delaunet/space/Borders;"), (0, .methodref 8 9), (0, .class_ 10), (0, .nameAndType 11 12), (0, u "com/example/delaunet/delaunet/space/VectorSpace"), (0, u "<init>"), (0, u "(ILcom/example/delaunet/delaunet/space/Borders;)V"), (0, .methodref 14 15), (0, .class_ 16), (0, .nameAndType 11 17), (0, u "java/lang/Object"), (0, u "()V"), (0, .methodref 19 20), (0, .class_ 21), (0, .nameAndType 22 23), (0, u "com/example/delaunet/delaunet/space/KeyPoints"), (0, u "checkDims"), (0, u "(I)I"), (0, .fieldref 8 25), (0, .nameAndType 26 27), (0, u "dims"), (0, u "I"), (0, .string 29), (0, u "borders"), (0, .methodref 31 32), (0, .class_ 33), (0, .nameAndType 34 35), (0, u "java/util/Objects"), (0, u "requireNonNull"), (0, u "(Ljava/lang/Object;Ljava/lang/String;)Ljava/lang/Object;"), (0, .fieldref 8 37), (0, .nameAndType 29 6), (81, .class_ 121), (1, u "com/example/delaunet/delaunet/space/Space"), (14, .class_ 137), (0, u "com/example/delaunet/delaunet/space/VectorSpace$Ranked"), (56, u "(I)V"), (125, .class_ 321), (0, u "com/example/delaunet/delaunet/space/VectorSpace$Cover"), (23, .class_ 347), (1, u "com/example/delaunet/delaunet/space/VectorSpace$Workspace"), (66, .class_ 415), (0, u "com/example/delaunet/delaunet/space/Chart"), (0, u "WIDE"), (0, u "D"), (1, u "SPACINGS")] 78

def k4c0 : Code := { maxStack := 3, maxLocals := 2, code := prog_155_method_1_code, exceptionTable := #[], attributes := #[] }
def k4m0 : Method := { name := "<init>", desc := "(I)V", sig := { parameters := [.int], returnType := none }, accessFlags := 4, code := some k4c0 }
def k4c1 : Code := { maxStack := 3, maxLocals := 3, code := prog_155_method_2_code, exceptionTable := #[], attributes := #[] }
def k4m1 : Method := { name := "<init>", desc := "(ILcom/example/delaunet/delaunet/space/Borders;)V", sig := { parameters := [.int, (.object "com/example/delaunet/delaunet/space/Borders")], returnType := none }, accessFlags := 4, code := some k4c1 }
/-- com/example/delaunet/delaunet/space/VectorSpace -/
def k4 : Class := { plain "com/example/delaunet/delaunet/space/VectorSpace" (some 0) with
  accessFlags := 1057
  interfaces := #[2, 3]
  cf := some (fileOf pool4 8 #[.nestMembers #[320, 345, 136]] #[{ accessFlags := 4, nameIndex := 11, descriptorIndex := 194, attributes := #[] }, { accessFlags := 4, nameIndex := 11, descriptorIndex := 12, attributes := #[] }] 1057 14 #[119, 414] #[{ accessFlags := 26, nameIndex := 416, descriptorIndex := 417, attributes := #[] }, { accessFlags := 26, nameIndex := 419, descriptorIndex := 417, attributes := #[] }, { accessFlags := 18, nameIndex := 26, descriptorIndex := 27, attributes := #[] }, { accessFlags := 18, nameIndex := 29, descriptorIndex := 6, attributes := #[] }])
  fields := #[{ name := "WIDE", type := .double, accessFlags := 26, slot := 0, constantValue := 0 }, { name := "SPACINGS", type := .double, accessFlags := 26, slot := 1, constantValue := 0 }, { name := "dims", type := .int, accessFlags := 18, slot := 0, constantValue := 0 }, { name := "borders", type := (.object "com/example/delaunet/delaunet/space/Borders"), accessFlags := 18, slot := 1, constantValue := 0 }]
  methods := #[k4m0, k4m1]
  instanceTypes := #[.int, (.object "com/example/delaunet/delaunet/space/Borders")]
  staticTypes := #[.double, .double]
  resolved := Array.replicate 498 none
  statics := none }

def pool5 : Array CpInfo := pool [(1, .methodref 2 3), (0, .class_ 4), (0, .nameAndType 5 6), (0, u "com/example/delaunet/delaunet/space/VectorSpace"), (0, u "<init>"), (0, u "(I)V"), (7, .class_ 16), (1, u "com/example/delaunet/delaunet/space/HyperbolicSpace"), (31, .class_ 49), (0, u "[D"), (0, .double 13830554455654793216), (52, u "EDGE"), (0, u "D"), (1, u "()V"), (11, u "chartBox"), (0, u "(Lcom/example/delaunet/delaunet/space/VectorPoint;)[[D")] 22

def k5c0 : Code := { maxStack := 2, maxLocals := 1, code := prog_139_method_1_code, exceptionTable := #[], attributes := #[] }
def k5m0 : Method := { name := "<init>", desc := "()V", sig := { parameters := [], returnType := none }, accessFlags := 1, code := some k5c0 }
def k5c1 : Code := { maxStack := 8, maxLocals := 2, code := prog_139_method_7_code, exceptionTable := #[], attributes := #[] }
def k5m1 : Method := { name := "chartBox", desc := "(Lcom/example/delaunet/delaunet/space/VectorPoint;)[[D", sig := { parameters := [(.object "com/example/delaunet/delaunet/space/VectorPoint")], returnType := some (.array (.array .double)) }, accessFlags := 1, code := some k5c1 }
/-- com/example/delaunet/delaunet/space/HyperbolicSpace -/
def k5 : Class := { plain "com/example/delaunet/delaunet/space/HyperbolicSpace" (some 4) with
  accessFlags := 49
  interfaces := #[]
  cf := some (fileOf pool5 14 #[] #[{ accessFlags := 1, nameIndex := 5, descriptorIndex := 106, attributes := #[] }, { accessFlags := 1, nameIndex := 118, descriptorIndex := 119, attributes := #[] }] 49 2 #[] #[{ accessFlags := 26, nameIndex := 103, descriptorIndex := 104, attributes := #[] }])
  fields := #[{ name := "EDGE", type := .double, accessFlags := 26, slot := 0, constantValue := 0 }]
  methods := #[k5m0, k5m1]
  instanceTypes := #[.int, (.object "com/example/delaunet/delaunet/space/Borders")]
  staticTypes := #[.double]
  resolved := Array.replicate 142 none
  statics := none }

def pool6 : Array CpInfo := pool [(1, .class_ 2), (0, u "java/lang/constant/Constable"), (0, .class_ 4), (0, u "java/lang/Object")] 6

/-- java/lang/constant/Constable -/
def k6 : Class := { plain "java/lang/constant/Constable" (some 0) with
  accessFlags := 1537
  interfaces := #[]
  cf := some (fileOf pool6 1 #[] #[] 1537 3 #[] #[])
  fields := #[]
  methods := #[]
  instanceTypes := #[]
  staticTypes := #[]
  resolved := Array.replicate 11 none
  statics := none }

def pool7 : Array CpInfo := pool [(1, .class_ 2), (0, u "java/lang/Comparable"), (0, .class_ 4), (0, u "java/lang/Object")] 7

/-- java/lang/Comparable -/
def k7 : Class := { plain "java/lang/Comparable" (some 0) with
  accessFlags := 1537
  interfaces := #[]
  cf := some (fileOf pool7 1 #[] #[] 1537 3 #[] #[])
  fields := #[]
  methods := #[]
  instanceTypes := #[]
  staticTypes := #[]
  resolved := Array.replicate 12 none
  statics := none }

def pool8 : Array CpInfo := pool [(1, .class_ 2), (0, u "java/io/Serializable"), (0, .class_ 4), (0, u "java/lang/Object")] 2

/-- java/io/Serializable -/
def k8 : Class := { plain "java/io/Serializable" (some 0) with
  accessFlags := 1537
  interfaces := #[]
  cf := some (fileOf pool8 1 #[] #[] 1537 3 #[] #[])
  fields := #[]
  methods := #[]
  instanceTypes := #[]
  staticTypes := #[]
  resolved := Array.replicate 7 none
  statics := none }

def pool9 : Array CpInfo := pool [(2, .class_ 4), (1, u "java/lang/Enum"), (0, u "name"), (0, u "Ljava/lang/String;"), (2, u "ordinal"), (0, u "I"), (1, .class_ 14), (1, u "java/lang/Object"), (4, u "hash"), (86, .class_ 108), (1, u "java/lang/Enum$EnumDesc"), (2, .class_ 112), (0, u "java/lang/constant/Constable"), (0, .class_ 114), (0, u "java/lang/Comparable"), (0, .class_ 116), (0, u "java/io/Serializable")] 87

/-- java/lang/Enum -/
def k9 : Class := { plain "java/lang/Enum" (some 0) with
  accessFlags := 1057
  interfaces := #[6, 7, 8]
  cf := some (fileOf pool9 2 #[.nestMembers #[106]] #[] 1057 12 #[111, 113, 115] #[{ accessFlags := 18, nameIndex := 5, descriptorIndex := 6, attributes := #[] }, { accessFlags := 18, nameIndex := 9, descriptorIndex := 10, attributes := #[] }, { accessFlags := 2, nameIndex := 19, descriptorIndex := 10, attributes := #[] }])
  fields := #[{ name := "name", type := (.object "java/lang/String"), accessFlags := 18, slot := 0, constantValue := 0 }, { name := "ordinal", type := .int, accessFlags := 18, slot := 1, constantValue := 0 }, { name := "hash", type := .int, accessFlags := 2, slot := 2, constantValue := 0 }]
  methods := #[]
  instanceTypes := #[(.object "java/lang/String"), .int, .int]
  staticTypes := #[]
  resolved := Array.replicate 204 none
  statics := none }

def pool10 : Array CpInfo := pool [(1, .class_ 2), (0, u "com/example/delaunet/delaunet/space/Borders"), (2, u "MIDPOINT"), (0, u "Lcom/example/delaunet/delaunet/space/Borders;"), (2, u "EXACT"), (2, u "$VALUES"), (0, u "[Lcom/example/delaunet/delaunet/space/Borders;"), (6, .class_ 22), (1, u "java/lang/Enum")] 24

/-- com/example/delaunet/delaunet/space/Borders -/
def k10 : Class := { plain "com/example/delaunet/delaunet/space/Borders" (some 9) with
  accessFlags := 16433
  interfaces := #[]
  cf := some (fileOf pool10 1 #[] #[] 16433 20 #[] #[{ accessFlags := 16409, nameIndex := 5, descriptorIndex := 6, attributes := #[] }, { accessFlags := 16409, nameIndex := 9, descriptorIndex := 6, attributes := #[] }, { accessFlags := 4122, nameIndex := 12, descriptorIndex := 13, attributes := #[] }])
  fields := #[{ name := "MIDPOINT", type := (.object "com/example/delaunet/delaunet/space/Borders"), accessFlags := 16409, slot := 0, constantValue := 0 }, { name := "EXACT", type := (.object "com/example/delaunet/delaunet/space/Borders"), accessFlags := 16409, slot := 1, constantValue := 0 }, { name := "$VALUES", type := (.array (.object "com/example/delaunet/delaunet/space/Borders")), accessFlags := 4122, slot := 2, constantValue := 0 }]
  methods := #[]
  instanceTypes := #[(.object "java/lang/String"), .int, .int]
  staticTypes := #[(.object "com/example/delaunet/delaunet/space/Borders"), (.object "com/example/delaunet/delaunet/space/Borders"), (.array (.object "com/example/delaunet/delaunet/space/Borders"))]
  resolved := Array.replicate 47 none
  statics := some 0 }

def pool11 : Array CpInfo := pool [(1, .class_ 2), (0, u "com/example/delaunet/delaunet/space/KeyPoints"), (3, .class_ 8), (1, u "java/lang/Object"), (0, u "<init>"), (0, u "()V"), (3, u "(I)I"), (25, u "checkDims"), (143, u "MAX_KEY_BYTES"), (0, u "I"), (2, u "MAX_BITS"), (1, u "DISC_RADIUS"), (0, u "D"), (0, u "DIMS_PER_DIGEST"), (1, u "MAX_DIMS")] 37

def k11m0 : Method := { name := "<init>", desc := "()V", sig := { parameters := [], returnType := none }, accessFlags := 2, code := none }
def k11c1 : Code := { maxStack := 3, maxLocals := 1, code := prog_142_method_7_code, exceptionTable := #[], attributes := #[] }
def k11m1 : Method := { name := "checkDims", desc := "(I)I", sig := { parameters := [.int], returnType := some .int }, accessFlags := 8, code := some k11c1 }
/-- com/example/delaunet/delaunet/space/KeyPoints -/
def k11 : Class := { plain "com/example/delaunet/delaunet/space/KeyPoints" (some 0) with
  accessFlags := 49
  interfaces := #[]
  cf := some (fileOf pool11 1 #[] #[{ accessFlags := 2, nameIndex := 9, descriptorIndex := 10, attributes := #[] }, { accessFlags := 8, nameIndex := 40, descriptorIndex := 14, attributes := #[] }] 49 6 #[] #[{ accessFlags := 25, nameIndex := 184, descriptorIndex := 185, attributes := #[] }, { accessFlags := 25, nameIndex := 188, descriptorIndex := 185, attributes := #[] }, { accessFlags := 26, nameIndex := 190, descriptorIndex := 191, attributes := #[] }, { accessFlags := 26, nameIndex := 192, descriptorIndex := 185, attributes := #[] }, { accessFlags := 25, nameIndex := 194, descriptorIndex := 185, attributes := #[] }])
  fields := #[{ name := "MAX_KEY_BYTES", type := .int, accessFlags := 25, slot := 0, constantValue := 0 }, { name := "MAX_BITS", type := .int, accessFlags := 25, slot := 1, constantValue := 0 }, { name := "DISC_RADIUS", type := .double, accessFlags := 26, slot := 2, constantValue := 0 }, { name := "DIMS_PER_DIGEST", type := .int, accessFlags := 26, slot := 3, constantValue := 0 }, { name := "MAX_DIMS", type := .int, accessFlags := 25, slot := 4, constantValue := 0 }]
  methods := #[k11m0, k11m1]
  instanceTypes := #[]
  staticTypes := #[.int, .int, .double, .int, .int]
  resolved := Array.replicate 232 none
  statics := none }

def pool12 : Array CpInfo := pool [(2, .class_ 4), (1, u "java/lang/CharSequence"), (42, .class_ 48), (0, u "java/lang/CharSequence$1CodePointIterator"), (10, .class_ 60), (0, u "java/lang/CharSequence$1CharIterator"), (5, .class_ 67), (0, u "java/lang/Object")] 63

/-- java/lang/CharSequence -/
def k12 : Class := { plain "java/lang/CharSequence" (some 0) with
  accessFlags := 1537
  interfaces := #[]
  cf := some (fileOf pool12 2 #[.nestMembers #[47, 59]] #[] 1537 66 #[] #[])
  fields := #[]
  methods := #[]
  instanceTypes := #[]
  staticTypes := #[]
  resolved := Array.replicate 131 none
  statics := none }

def pool13 : Array CpInfo := pool [(1, .class_ 2), (0, u "java/lang/constant/ConstantDesc"), (0, .class_ 4), (0, u "java/lang/Object")] 32

/-- java/lang/constant/ConstantDesc -/
def k13 : Class := { plain "java/lang/constant/ConstantDesc" (some 0) with
  accessFlags := 1537
  interfaces := #[]
  cf := some (fileOf pool13 1 #[] #[] 1537 3 #[] #[])
  fields := #[]
  methods := #[]
  instanceTypes := #[]
  staticTypes := #[]
  resolved := Array.replicate 37 none
  statics := none }

def pool14 : Array CpInfo := pool [(2, .class_ 4), (1, u "java/lang/Object"), (0, u "<init>"), (0, u "()V"), (3, .class_ 12), (1, u "java/lang/String"), (0, u "value"), (0, u "[B"), (2, u "coder"), (0, u "B"), (2, u "hash"), (0, u "I"), (2, u "hashIsZero"), (0, u "Z"), (13, u "COMPACT_STRINGS"), (534, .class_ 576), (0, u "java/lang/CharSequence"), (22, u "CASE_INSENSITIVE_ORDER"), (0, u "Ljava/util/Comparator;"), (500, u "serialPersistentFields"), (0, u "[Ljava/io/ObjectStreamField;"), (0, .class_ 1104), (0, u "java/lang/String$CaseInsensitiveComparator"), (1, .class_ 1107), (0, u "java/io/Serializable"), (0, .class_ 1109), (0, u "java/lang/Comparable"), (0, .class_ 1111), (0, u "java/lang/constant/Constable"), (0, .class_ 1113), (0, u "java/lang/constant/ConstantDesc"), (2, u "serialVersionUID"), (0, u "J"), (3, u "REPL"), (0, u "C"), (2, u "LATIN1"), (1, u "UTF16")] 323

def k14m0 : Method := { name := "<init>", desc := "()V", sig := { parameters := [], returnType := none }, accessFlags := 1, code := none }
/-- java/lang/String -/
def k14 : Class := { plain "java/lang/String" (some 0) with
  accessFlags := 49
  interfaces := #[8, 7, 12, 6, 13]
  cf := some (fileOf pool14 10 #[.nestMembers #[1103]] #[{ accessFlags := 1, nameIndex := 5, descriptorIndex := 6, attributes := #[] }] 49 2 #[1106, 1108, 575, 1110, 1112] #[{ accessFlags := 18, nameIndex := 13, descriptorIndex := 14, attributes := #[] }, { accessFlags := 18, nameIndex := 17, descriptorIndex := 18, attributes := #[] }, { accessFlags := 2, nameIndex := 21, descriptorIndex := 22, attributes := #[] }, { accessFlags := 2, nameIndex := 25, descriptorIndex := 26, attributes := #[] }, { accessFlags := 26, nameIndex := 1116, descriptorIndex := 1117, attributes := #[] }, { accessFlags := 24, nameIndex := 40, descriptorIndex := 26, attributes := #[] }, { accessFlags := 26, nameIndex := 1101, descriptorIndex := 1102, attributes := #[] }, { accessFlags := 26, nameIndex := 1121, descriptorIndex := 1122, attributes := #[] }, { accessFlags := 25, nameIndex := 599, descriptorIndex := 600, attributes := #[] }, { accessFlags := 24, nameIndex := 1125, descriptorIndex := 18, attributes := #[] }, { accessFlags := 24, nameIndex := 1127, descriptorIndex := 18, attributes := #[] }])
  fields := #[{ name := "value", type := (.array .byte), accessFlags := 18, slot := 0, constantValue := 0 }, { name := "coder", type := .byte, accessFlags := 18, slot := 1, constantValue := 0 }, { name := "hash", type := .int, accessFlags := 2, slot := 2, constantValue := 0 }, { name := "hashIsZero", type := .boolean, accessFlags := 2, slot := 3, constantValue := 0 }, { name := "serialVersionUID", type := .long, accessFlags := 26, slot := 0, constantValue := 0 }, { name := "COMPACT_STRINGS", type := .boolean, accessFlags := 24, slot := 1, constantValue := 0 }, { name := "serialPersistentFields", type := (.array (.object "java/io/ObjectStreamField")), accessFlags := 26, slot := 2, constantValue := 0 }, { name := "REPL", type := .char, accessFlags := 26, slot := 3, constantValue := 0 }, { name := "CASE_INSENSITIVE_ORDER", type := (.object "java/util/Comparator"), accessFlags := 25, slot := 4, constantValue := 0 }, { name := "LATIN1", type := .byte, accessFlags := 24, slot := 5, constantValue := 0 }, { name := "UTF16", type := .byte, accessFlags := 24, slot := 6, constantValue := 0 }]
  methods := #[k14m0]
  instanceTypes := #[(.array .byte), .byte, .int, .boolean]
  staticTypes := #[.long, .boolean, (.array (.object "java/io/ObjectStreamField")), .char, (.object "java/util/Comparator"), .byte, .byte]
  resolved := Array.replicate 1451 none
  statics := none }

def pool15 : Array CpInfo := pool [(2, .class_ 4), (1, u "java/lang/Object"), (0, u "<init>"), (0, u "()V"), (35, .class_ 44), (1, u "java/util/Objects"), (0, u "requireNonNull"), (48, u "(Ljava/lang/Object;Ljava/lang/String;)Ljava/lang/Object;")] 89

def k15m0 : Method := { name := "<init>", desc := "()V", sig := { parameters := [], returnType := none }, accessFlags := 2, code := none }
def k15c1 : Code := { maxStack := 3, maxLocals := 2, code := jdk_31_method_11_code, exceptionTable := #[], attributes := #[] }
def k15m1 : Method := { name := "requireNonNull", desc := "(Ljava/lang/Object;Ljava/lang/String;)Ljava/lang/Object;", sig := { parameters := [(.object "java/lang/Object"), (.object "java/lang/String")], returnType := some (.object "java/lang/Object") }, accessFlags := 9, code := some k15c1 }
/-- java/util/Objects -/
def k15 : Class := { plain "java/util/Objects" (some 0) with
  accessFlags := 49
  interfaces := #[]
  cf := some (fileOf pool15 42 #[] #[{ accessFlags := 2, nameIndex := 5, descriptorIndex := 6, attributes := #[] }, { accessFlags := 9, nameIndex := 45, descriptorIndex := 94, attributes := #[] }] 49 2 #[] #[])
  fields := #[]
  methods := #[k15m0, k15m1]
  instanceTypes := #[]
  staticTypes := #[]
  resolved := Array.replicate 184 none
  statics := none }

def pool16 : Array CpInfo := pool [(1, .methodref 2 3), (0, .class_ 4), (0, .nameAndType 5 6), (0, u "java/lang/Object"), (0, u "<init>"), (0, u "()V"), (7, .methodref 15 16), (0, .class_ 17), (0, .nameAndType 18 19), (0, u "java/lang/Double"), (0, u "isFinite"), (0, u "(D)Z"), (4, .methodref 25 26), (0, .class_ 27), (0, .nameAndType 28 29), (0, u "[D"), (0, u "clone"), (0, u "()Ljava/lang/Object;"), (0, .fieldref 31 32), (0, .class_ 33), (0, .nameAndType 34 27), (0, u "com/example/delaunet/delaunet/space/VectorPoint"), (0, u "coordinates"), (31, u "([D)V")] 25

def k16c0 : Code := { maxStack := 4, maxLocals := 7, code := prog_154_method_1_code, exceptionTable := #[], attributes := #[] }
def k16m0 : Method := { name := "<init>", desc := "([D)V", sig := { parameters := [(.array .double)], returnType := none }, accessFlags := 129, code := some k16c0 }
/-- com/example/delaunet/delaunet/space/VectorPoint -/
def k16 : Class := { plain "com/example/delaunet/delaunet/space/VectorPoint" (some 0) with
  accessFlags := 49
  interfaces := #[]
  cf := some (fileOf pool16 31 #[] #[{ accessFlags := 129, nameIndex := 5, descriptorIndex := 66, attributes := #[] }] 49 2 #[] #[{ accessFlags := 18, nameIndex := 34, descriptorIndex := 27, attributes := #[] }])
  fields := #[{ name := "coordinates", type := (.array .double), accessFlags := 18, slot := 0, constantValue := 0 }]
  methods := #[k16m0]
  instanceTypes := #[(.array .double)]
  staticTypes := #[]
  resolved := Array.replicate 92 none
  statics := none }

def pool17 : Array CpInfo := pool [(2, .class_ 4), (1, u "java/lang/Object"), (0, u "<init>"), (0, u "()V"), (1, .class_ 10), (1, u "java/lang/Number"), (2, .class_ 14), (0, u "java/io/Serializable"), (0, u "serialVersionUID"), (0, u "J")] 20

def k17m0 : Method := { name := "<init>", desc := "()V", sig := { parameters := [], returnType := none }, accessFlags := 1, code := none }
/-- java/lang/Number -/
def k17 : Class := { plain "java/lang/Number" (some 0) with
  accessFlags := 1057
  interfaces := #[8]
  cf := some (fileOf pool17 8 #[] #[{ accessFlags := 1, nameIndex := 5, descriptorIndex := 6, attributes := #[] }] 1057 2 #[13] #[{ accessFlags := 26, nameIndex := 15, descriptorIndex := 16, attributes := #[] }])
  fields := #[{ name := "serialVersionUID", type := .long, accessFlags := 26, slot := 0, constantValue := 0 }]
  methods := #[k17m0]
  instanceTypes := #[]
  staticTypes := #[.long]
  resolved := Array.replicate 37 none
  statics := none }

def pool18 : Array CpInfo := pool [(1, .class_ 2), (0, u "java/lang/Double"), (10, u "isFinite"), (0, u "(D)Z"), (8, .class_ 25), (1, u "java/lang/Math"), (12, .methodref 23 39), (0, .nameAndType 40 41), (0, u "abs"), (0, u "(D)D"), (69, .double 9218868437227405311), (2, .class_ 116), (1, u "java/lang/Number"), (3, u "value"), (0, u "D"), (51, u "TYPE"), (0, u "Ljava/lang/Class;"), (0, .class_ 176), (0, u "java/lang/Comparable"), (0, .class_ 178), (0, u "java/lang/constant/Constable"), (0, .class_ 180), (0, u "java/lang/constant/ConstantDesc"), (0, u "POSITIVE_INFINITY"), (3, u "NEGATIVE_INFINITY"), (2, u "NaN"), (2, u "MAX_VALUE"), (0, u "MIN_NORMAL"), (0, u "MIN_VALUE"), (2, u "SIZE"), (0, u "I"), (1, u "PRECISION"), (1, u "MAX_EXPONENT"), (1, u "MIN_EXPONENT"), (1, u "BYTES"), (3, u "serialVersionUID"), (0, u "J")] 79

def k18c0 : Code := { maxStack := 4, maxLocals := 2, code := jdk_117_method_8_code, exceptionTable := #[], attributes := #[] }
def k18m0 : Method := { name := "isFinite", desc := "(D)Z", sig := { parameters := [.double], returnType := some .boolean }, accessFlags := 9, code := some k18c0 }
/-- java/lang/Double -/
def k18 : Class := { plain "java/lang/Double" (some 17) with
  accessFlags := 49
  interfaces := #[7, 6, 13]
  cf := some (fileOf pool18 1 #[] #[{ accessFlags := 9, nameIndex := 13, descriptorIndex := 14, attributes := #[] }] 49 114 #[175, 177, 179] #[{ accessFlags := 25, nameIndex := 181, descriptorIndex := 121, attributes := #[] }, { accessFlags := 25, nameIndex := 185, descriptorIndex := 121, attributes := #[] }, { accessFlags := 25, nameIndex := 188, descriptorIndex := 121, attributes := #[] }, { accessFlags := 25, nameIndex := 191, descriptorIndex := 121, attributes := #[] }, { accessFlags := 25, nameIndex := 192, descriptorIndex := 121, attributes := #[] }, { accessFlags := 25, nameIndex := 193, descriptorIndex := 121, attributes := #[] }, { accessFlags := 25, nameIndex := 196, descriptorIndex := 197, attributes := #[] }, { accessFlags := 25, nameIndex := 199, descriptorIndex := 197, attributes := #[] }, { accessFlags := 25, nameIndex := 201, descriptorIndex := 197, attributes := #[] }, { accessFlags := 25, nameIndex := 203, descriptorIndex := 197, attributes := #[] }, { accessFlags := 25, nameIndex := 205, descriptorIndex := 197, attributes := #[] }, { accessFlags := 25, nameIndex := 173, descriptorIndex := 174, attributes := #[] }, { accessFlags := 18, nameIndex := 120, descriptorIndex := 121, attributes := #[] }, { accessFlags := 26, nameIndex := 209, descriptorIndex := 210, attributes := #[] }])
  fields := #[{ name := "POSITIVE_INFINITY", type := .double, accessFlags := 25, slot := 0, constantValue := 0 }, { name := "NEGATIVE_INFINITY", type := .double, accessFlags := 25, slot := 1, constantValue := 0 }, { name := "NaN", type := .double, accessFlags := 25, slot := 2, constantValue := 0 }, { name := "MAX_VALUE", type := .double, accessFlags := 25, slot := 3, constantValue := 0 }, { name := "MIN_NORMAL", type := .double, accessFlags := 25, slot := 4, constantValue := 0 }, { name := "MIN_VALUE", type := .double, accessFlags := 25, slot := 5, constantValue := 0 }, { name := "SIZE", type := .int, accessFlags := 25, slot := 6, constantValue := 0 }, { name := "PRECISION", type := .int, accessFlags := 25, slot := 7, constantValue := 0 }, { name := "MAX_EXPONENT", type := .int, accessFlags := 25, slot := 8, constantValue := 0 }, { name := "MIN_EXPONENT", type := .int, accessFlags := 25, slot := 9, constantValue := 0 }, { name := "BYTES", type := .int, accessFlags := 25, slot := 10, constantValue := 0 }, { name := "TYPE", type := (.object "java/lang/Class"), accessFlags := 25, slot := 11, constantValue := 0 }, { name := "value", type := .double, accessFlags := 18, slot := 0, constantValue := 0 }, { name := "serialVersionUID", type := .long, accessFlags := 26, slot := 12, constantValue := 0 }]
  methods := #[k18m0]
  instanceTypes := #[.double]
  staticTypes := #[.double, .double, .double, .double, .double, .double, .int, .int, .int, .int, .int, (.object "java/lang/Class"), .long]
  resolved := Array.replicate 290 none
  statics := none }

def pool19 : Array CpInfo := pool [(1, .class_ 2), (0, u "java/lang/Math"), (1, .class_ 6), (1, u "java/lang/Object"), (0, u "<init>"), (0, u "()V"), (5, u "(D)D"), (83, .class_ 100), (1, u "java/lang/Math$RandomNumberGeneratorHolder"), (23, u "abs"), (47, u "negativeZeroFloatBits"), (0, u "J"), (2, u "negativeZeroDoubleBits"), (68, u "$assertionsDisabled"), (0, u "Z"), (91, u "twoToTheDoubleScaleDown"), (0, u "D"), (4, u "twoToTheDoubleScaleUp"), (9, u "E"), (3, u "PI"), (2, u "TAU"), (2, u "DEGREES_TO_RADIANS"), (0, u "RADIANS_TO_DEGREES")] 94

def k19m0 : Method := { name := "<init>", desc := "()V", sig := { parameters := [], returnType := none }, accessFlags := 2, code := none }
def k19c1 : Code := { maxStack := 4, maxLocals := 2, code := jdk_29_method_64_code, exceptionTable := #[], attributes := #[] }
def k19m1 : Method := { name := "abs", desc := "(D)D", sig := { parameters := [.double], returnType := some .double }, accessFlags := 9, code := some k19c1 }
/-- java/lang/Math -/
def k19 : Class := { plain "java/lang/Math" (some 0) with
  accessFlags := 49
  interfaces := #[]
  cf := some (fileOf pool19 1 #[.nestMembers #[98]] #[{ accessFlags := 2, nameIndex := 7, descriptorIndex := 8, attributes := #[] }, { accessFlags := 9, nameIndex := 124, descriptorIndex := 14, attributes := #[] }] 49 4 #[] #[{ accessFlags := 25, nameIndex := 354, descriptorIndex := 339, attributes := #[] }, { accessFlags := 25, nameIndex := 358, descriptorIndex := 339, attributes := #[] }, { accessFlags := 25, nameIndex := 361, descriptorIndex := 339, attributes := #[] }, { accessFlags := 26, nameIndex := 364, descriptorIndex := 339, attributes := #[] }, { accessFlags := 26, nameIndex := 365, descriptorIndex := 339, attributes := #[] }, { accessFlags := 26, nameIndex := 172, descriptorIndex := 173, attributes := #[] }, { accessFlags := 26, nameIndex := 176, descriptorIndex := 173, attributes := #[] }, { accessFlags := 8, nameIndex := 344, descriptorIndex := 339, attributes := #[] }, { accessFlags := 8, nameIndex := 338, descriptorIndex := 339, attributes := #[] }, { accessFlags := 4120, nameIndex := 245, descriptorIndex := 246, attributes := #[] }])
  fields := #[{ name := "E", type := .double, accessFlags := 25, slot := 0, constantValue := 0 }, { name := "PI", type := .double, accessFlags := 25, slot := 1, constantValue := 0 }, { name := "TAU", type := .double, accessFlags := 25, slot := 2, constantValue := 0 }, { name := "DEGREES_TO_RADIANS", type := .double, accessFlags := 26, slot := 3, constantValue := 0 }, { name := "RADIANS_TO_DEGREES", type := .double, accessFlags := 26, slot := 4, constantValue := 0 }, { name := "negativeZeroFloatBits", type := .long, accessFlags := 26, slot := 5, constantValue := 0 }, { name := "negativeZeroDoubleBits", type := .long, accessFlags := 26, slot := 6, constantValue := 0 }, { name := "twoToTheDoubleScaleUp", type := .double, accessFlags := 8, slot := 7, constantValue := 0 }, { name := "twoToTheDoubleScaleDown", type := .double, accessFlags := 8, slot := 8, constantValue := 0 }, { name := "$assertionsDisabled", type := .boolean, accessFlags := 4120, slot := 9, constantValue := 0 }]
  methods := #[k19m0, k19m1]
  instanceTypes := #[]
  staticTypes := #[.double, .double, .double, .double, .double, .long, .long, .double, .double, .boolean]
  resolved := Array.replicate 460 none
  statics := none }

def pool20 : Array CpInfo := pool [(1, .class_ 2), (0, u "java/lang/Cloneable"), (0, .class_ 4), (0, u "java/lang/Object")] 2

/-- java/lang/Cloneable -/
def k20 : Class := { plain "java/lang/Cloneable" (some 0) with
  accessFlags := 1537
  interfaces := #[]
  cf := some (fileOf pool20 1 #[] #[] 1537 3 #[] #[])
  fields := #[]
  methods := #[]
  instanceTypes := #[]
  staticTypes := #[]
  resolved := Array.replicate 7 none
  statics := none }

/-- the primitive byte -/
def k21 : Class := { plain "byte" none with kind := .primitive 'B', accessFlags := 0x411 }
/-- [B -/
def k22 : Class := { plain "[B" (some 0) with kind := .array 21 .byte, interfaces := #[20, 8], accessFlags := 1041 }

/-- the primitive double -/
def k23 : Class := { plain "double" none with kind := .primitive 'D', accessFlags := 0x411 }
/-- [D -/
def k24 : Class := { plain "[D" (some 0) with kind := .array 23 .double, interfaces := #[20, 8], accessFlags := 1041 }

/-- the primitive int -/
def k25 : Class := { plain "int" none with kind := .primitive 'I', accessFlags := 0x411 }
/-- [I -/
def k26 : Class := { plain "[I" (some 0) with kind := .array 25 .int, interfaces := #[20, 8], accessFlags := 1041 }

/-- the arrays of double arrays -/
def kdd : Class := { plain "[[D" (some 0) with kind := .array 24 (.array .double), interfaces := #[20, 8], accessFlags := 1041 }
def heap : Heap := #[{ cls := 10, slots := #[.ref 1, .null, .null], vm := .statics 10 },
  { cls := 10, slots := #[.null, .int 0, .int 0], vm := .none }]
def classes : Array Class := #[k0, k1, k2, k3, k4, k5, k6, k7, k8, k9, k10, k11, k12, k13, k14, k15, k16, k17, k18, k19, k20, k21, k22, k23, k24, k25, k26, kdd]
def interned : List (Array UInt16 × Addr) := []
def slotsUsed : Nat := 6
def theMethod : MethodId := ⟨1, 3⟩
def args0 : Array Value := #[.int 5, .int 7]
def aboutOver (below : List Frame) : State where
  vm := { classes := classes, interned := interned.toArray }
  heap := heap
  slotsUsed := slotsUsed
  threads := #[{ frames := .invoking theMethod args0 :: below }]
def below0 : List Frame := [.native { method := ⟨0, 0⟩, args := #[] }]
def about1 : State := aboutOver below0
def p0 : Program := .bare "" "" ""
def e0 : Env := launch0.env 0 0 0
theorem w_frames : about1.frames = Frame.invoking theMethod args0 :: below0 := rfl
set_option maxRecDepth 65536 in
theorem w_args : argsFit about1.vm theMethod args0 = true := by decide +kernel
set_option maxRecDepth 65536 in
theorem w_heap : heapFits about1 = true := by decide +kernel
set_option maxRecDepth 65536 in
theorem w_runnable : about1.curStatus? = some .runnable := by decide +kernel
set_option maxRecDepth 65536 in
theorem w_alone : about1.alone = true := by decide +kernel
set_option maxRecDepth 65536 in
theorem w_named : about1.methodNamed? x = some theMethod := by decide +kernel
set_option maxRecDepth 65536 in
theorem w_hears : about1.hears theMethod below0 = true := by decide +kernel
set_option maxRecDepth 65536 in
theorem w_ripe : about1.ripe theMethod args0 below0 = true := by decide +kernel
theorem w_running : about1.status = .running := rfl
set_option maxRecDepth 65536 in
theorem w_room : about1.hasRoom e0.platform room_1 = true :=
  launch0.hasRoom_least _ room_1 (by decide +kernel) (by decide +kernel) (by decide +kernel) (by decide +kernel) (by decide +kernel) (by decide +kernel)
theorem allAtoms_all (ts : List Jvm.Cond) (a : Array Jvm.Value) (st : Jvm.State) : (allAtoms ts).before a st = ts.all (fun c => c.before a st) := by
  induction ts with
  | nil => rfl
  | cons c t ih =>
    show (Jvm.Cond.and c (allAtoms t)).before a st = _
    rw [Jvm.Cond.before_and, ih, List.all_cons]
def words1 : List Jvm.Cond := Jvm.Cond.code x code maxLocals ret :: tables_1
/-- a 'code' word, met by the world's own term for the bytes: nothing is compared byte by byte -/
theorem code_word {y : MethodName} {bytes : ByteArray} {mx : Nat} {rt : Option FieldType} {a : Array Value} {s : State} {m : MethodId} {meth : Method} {c : Code} (h1 : s.methodNamed? y = some m) (h2 : s.vm.method? m = some meth) (h3 : meth.code = some c) (h4 : c.code = bytes)
    (h5 : (c.maxLocals == mx && c.exceptionTable.isEmpty && decide (c.maxStack ≤ mostOperands) && decide (meth.sig.returnType = rt) && !meth.locks && decide (parseMethodDescriptor y.desc = some meth.sig)) = true) : (Jvm.Cond.code y bytes mx rt).before a s = true := by
  simp only [Bool.and_eq_true, beq_iff_eq, Bool.not_eq_true', decide_eq_true_eq] at h5
  obtain ⟨⟨⟨⟨⟨g1, g2⟩, g3⟩, g4⟩, g5⟩, g6⟩ := h5
  simp [Cond.before, Cond.holds, Cond.value, h1, h2, h3, h4, g1, g2, g3, g4, g5, g6]
def isCode : Jvm.Cond → Bool
  | .code _ _ _ _ => true
  | _ => false
theorem all_split {L : List Jvm.Cond} {P : Jvm.Cond → Bool} (h1 : L.all (fun c => isCode c || P c) = true) (h2 : ∀ c ∈ L.filter isCode, P c = true) : L.all P = true := by
  refine List.all_eq_true.mpr fun c hc => ?_
  have h := List.all_eq_true.mp h1 c hc
  rcases Bool.eq_false_or_eq_true (isCode c) with hi | hi
  · exact h2 c (List.mem_filter.mpr ⟨hc, hi⟩)
  · simpa [hi] using h
set_option maxRecDepth 65536 in
theorem w_c0 : (Jvm.Cond.code x code maxLocals ret).before args0 about1 = true := code_word (m := ⟨1, 3⟩) (meth := k1m3) (c := k1c3) (by decide +kernel) rfl rfl rfl (by decide +kernel)
set_option maxRecDepth 65536 in
theorem w_c1 : (Jvm.Cond.code ({ cls := "com/example/delaunet/delaunet/space/HyperbolicSpace", name := "<init>", desc := "()V" } : Jvm.MethodName) prog_139_method_1_code (1 : Nat) (Option.none : Option Jvm.ClassFile.FieldType)).before args0 about1 = true := code_word (m := ⟨5, 0⟩) (meth := k5m0) (c := k5c0) (by decide +kernel) rfl rfl rfl (by decide +kernel)
set_option maxRecDepth 65536 in
theorem w_c2 : (Jvm.Cond.code ({ cls := "com/example/delaunet/delaunet/space/VectorSpace", name := "<init>", desc := "(I)V" } : Jvm.MethodName) prog_155_method_1_code (2 : Nat) (Option.none : Option Jvm.ClassFile.FieldType)).before args0 about1 = true := code_word (m := ⟨4, 0⟩) (meth := k4m0) (c := k4c0) (by decide +kernel) rfl rfl rfl (by decide +kernel)
set_option maxRecDepth 65536 in
theorem w_c3 : (Jvm.Cond.code ({ cls := "com/example/delaunet/delaunet/space/VectorSpace", name := "<init>", desc := "(ILcom/example/delaunet/delaunet/space/Borders;)V" } : Jvm.MethodName) prog_155_method_2_code (3 : Nat) (Option.none : Option Jvm.ClassFile.FieldType)).before args0 about1 = true := code_word (m := ⟨4, 1⟩) (meth := k4m1) (c := k4c1) (by decide +kernel) rfl rfl rfl (by decide +kernel)
set_option maxRecDepth 65536 in
theorem w_c4 : (Jvm.Cond.code ({ cls := "java/lang/Object", name := "<init>", desc := "()V" } : Jvm.MethodName) object_method_1_code (1 : Nat) (Option.none : Option Jvm.ClassFile.FieldType)).before args0 about1 = true := code_word (m := ⟨0, 0⟩) (meth := k0m0) (c := k0c0) (by decide +kernel) rfl rfl rfl (by decide +kernel)
set_option maxRecDepth 65536 in
theorem w_c5 : (Jvm.Cond.code ({ cls := "com/example/delaunet/delaunet/space/KeyPoints", name := "checkDims", desc := "(I)I" } : Jvm.MethodName) prog_142_method_7_code (1 : Nat) (Option.some Jvm.ClassFile.FieldType.int)).before args0 about1 = true := code_word (m := ⟨11, 1⟩) (meth := k11m1) (c := k11c1) (by decide +kernel) rfl rfl rfl (by decide +kernel)
set_option maxRecDepth 65536 in
theorem w_c6 : (Jvm.Cond.code ({ cls := "java/util/Objects", name := "requireNonNull", desc := "(Ljava/lang/Object;Ljava/lang/String;)Ljava/lang/Object;" } : Jvm.MethodName) jdk_31_method_11_code (2 : Nat) (Option.some (Jvm.ClassFile.FieldType.object "java/lang/Object"))).before args0 about1 = true := code_word (m := ⟨15, 1⟩) (meth := k15m1) (c := k15c1) (by decide +kernel) rfl rfl rfl (by decide +kernel)
set_option maxRecDepth 65536 in
theorem w_c7 : (Jvm.Cond.code ({ cls := "com/example/delaunet/delaunet/space/VectorPoint", name := "<init>", desc := "([D)V" } : Jvm.MethodName) prog_154_method_1_code (7 : Nat) (Option.none : Option Jvm.ClassFile.FieldType)).before args0 about1 = true := code_word (m := ⟨16, 0⟩) (meth := k16m0) (c := k16c0) (by decide +kernel) rfl rfl rfl (by decide +kernel)
set_option maxRecDepth 65536 in
theorem w_c8 : (Jvm.Cond.code ({ cls := "java/lang/Double", name := "isFinite", desc := "(D)Z" } : Jvm.MethodName) jdk_117_method_8_code (2 : Nat) (Option.some Jvm.ClassFile.FieldType.boolean)).before args0 about1 = true := code_word (m := ⟨18, 0⟩) (meth := k18m0) (c := k18c0) (by decide +kernel) rfl rfl rfl (by decide +kernel)
set_option maxRecDepth 65536 in
theorem w_c9 : (Jvm.Cond.code ({ cls := "java/lang/Math", name := "abs", desc := "(D)D" } : Jvm.MethodName) jdk_29_method_64_code (2 : Nat) (Option.some Jvm.ClassFile.FieldType.double)).before args0 about1 = true := code_word (m := ⟨19, 1⟩) (meth := k19m1) (c := k19c1) (by decide +kernel) rfl rfl rfl (by decide +kernel)
set_option maxRecDepth 65536 in
theorem w_c10 : (Jvm.Cond.code ({ cls := "com/example/delaunet/delaunet/space/HyperbolicSpace", name := "chartBox", desc := "(Lcom/example/delaunet/delaunet/space/VectorPoint;)[[D" } : Jvm.MethodName) prog_139_method_7_code (2 : Nat) (Option.some (Jvm.ClassFile.FieldType.array (Jvm.ClassFile.FieldType.array Jvm.ClassFile.FieldType.double)))).before args0 about1 = true := code_word (m := ⟨5, 1⟩) (meth := k5m1) (c := k5c1) (by decide +kernel) rfl rfl rfl (by decide +kernel)
set_option maxRecDepth 65536 in
theorem w_c11 : (Jvm.Cond.code ({ cls := "com/example/delaunet/delaunet/space/HyperbolicSpaceChartBoxPinLaw", name := "isSquareShape", desc := "([[D)Z" } : Jvm.MethodName) method_2_code (1 : Nat) (Option.some Jvm.ClassFile.FieldType.boolean)).before args0 about1 = true := code_word (m := ⟨1, 1⟩) (meth := k1m1) (c := k1c1) (by decide +kernel) rfl rfl rfl (by decide +kernel)
set_option maxRecDepth 65536 in
theorem w_c12 : (Jvm.Cond.code ({ cls := "com/example/delaunet/delaunet/space/HyperbolicSpaceChartBoxPinLaw", name := "isUnitSquare", desc := "([[D)Z" } : Jvm.MethodName) method_3_code (1 : Nat) (Option.some Jvm.ClassFile.FieldType.boolean)).before args0 about1 = true := code_word (m := ⟨1, 2⟩) (meth := k1m2) (c := k1c2) (by decide +kernel) rfl rfl rfl (by decide +kernel)
def codes1 : List Jvm.Cond := [Jvm.Cond.code x code maxLocals ret, Jvm.Cond.code ({ cls := "com/example/delaunet/delaunet/space/HyperbolicSpace", name := "<init>", desc := "()V" } : Jvm.MethodName) prog_139_method_1_code (1 : Nat) (Option.none : Option Jvm.ClassFile.FieldType), Jvm.Cond.code ({ cls := "com/example/delaunet/delaunet/space/VectorSpace", name := "<init>", desc := "(I)V" } : Jvm.MethodName) prog_155_method_1_code (2 : Nat) (Option.none : Option Jvm.ClassFile.FieldType), Jvm.Cond.code ({ cls := "com/example/delaunet/delaunet/space/VectorSpace", name := "<init>", desc := "(ILcom/example/delaunet/delaunet/space/Borders;)V" } : Jvm.MethodName) prog_155_method_2_code (3 : Nat) (Option.none : Option Jvm.ClassFile.FieldType), Jvm.Cond.code ({ cls := "java/lang/Object", name := "<init>", desc := "()V" } : Jvm.MethodName) object_method_1_code (1 : Nat) (Option.none : Option Jvm.ClassFile.FieldType), Jvm.Cond.code ({ cls := "com/example/delaunet/delaunet/space/KeyPoints", name := "checkDims", desc := "(I)I" } : Jvm.MethodName) prog_142_method_7_code (1 : Nat) (Option.some Jvm.ClassFile.FieldType.int), Jvm.Cond.code ({ cls := "java/util/Objects", name := "requireNonNull", desc := "(Ljava/lang/Object;Ljava/lang/String;)Ljava/lang/Object;" } : Jvm.MethodName) jdk_31_method_11_code (2 : Nat) (Option.some (Jvm.ClassFile.FieldType.object "java/lang/Object")), Jvm.Cond.code ({ cls := "com/example/delaunet/delaunet/space/VectorPoint", name := "<init>", desc := "([D)V" } : Jvm.MethodName) prog_154_method_1_code (7 : Nat) (Option.none : Option Jvm.ClassFile.FieldType), Jvm.Cond.code ({ cls := "java/lang/Double", name := "isFinite", desc := "(D)Z" } : Jvm.MethodName) jdk_117_method_8_code (2 : Nat) (Option.some Jvm.ClassFile.FieldType.boolean), Jvm.Cond.code ({ cls := "java/lang/Math", name := "abs", desc := "(D)D" } : Jvm.MethodName) jdk_29_method_64_code (2 : Nat) (Option.some Jvm.ClassFile.FieldType.double), Jvm.Cond.code ({ cls := "com/example/delaunet/delaunet/space/HyperbolicSpace", name := "chartBox", desc := "(Lcom/example/delaunet/delaunet/space/VectorPoint;)[[D" } : Jvm.MethodName) prog_139_method_7_code (2 : Nat) (Option.some (Jvm.ClassFile.FieldType.array (Jvm.ClassFile.FieldType.array Jvm.ClassFile.FieldType.double))), Jvm.Cond.code ({ cls := "com/example/delaunet/delaunet/space/HyperbolicSpaceChartBoxPinLaw", name := "isSquareShape", desc := "([[D)Z" } : Jvm.MethodName) method_2_code (1 : Nat) (Option.some Jvm.ClassFile.FieldType.boolean), Jvm.Cond.code ({ cls := "com/example/delaunet/delaunet/space/HyperbolicSpaceChartBoxPinLaw", name := "isUnitSquare", desc := "([[D)Z" } : Jvm.MethodName) method_3_code (1 : Nat) (Option.some Jvm.ClassFile.FieldType.boolean)]
set_option maxRecDepth 65536 in
theorem codes_eq : words1.filter isCode = codes1 := rfl
theorem w_codes : ∀ c ∈ words1.filter isCode, c.before args0 about1 = true := by
  rw [codes_eq]
  intro c hc
  simp only [codes1, List.mem_cons, List.not_mem_nil, or_false] at hc
  rcases hc with rfl | rfl | rfl | rfl | rfl | rfl | rfl | rfl | rfl | rfl | rfl | rfl | rfl
  · exact w_c0
  · exact w_c1
  · exact w_c2
  · exact w_c3
  · exact w_c4
  · exact w_c5
  · exact w_c6
  · exact w_c7
  · exact w_c8
  · exact w_c9
  · exact w_c10
  · exact w_c11
  · exact w_c12
set_option maxRecDepth 65536 in
theorem w_t1 : (words1.take 24).all (fun c => isCode c || c.before args0 about1) = true := by decide +kernel
set_option maxRecDepth 65536 in
theorem w_t2 : ((words1.drop 24).take 24).all (fun c => isCode c || c.before args0 about1) = true := by decide +kernel
set_option maxRecDepth 65536 in
theorem w_t3 : (((words1.drop 24).drop 24).take 24).all (fun c => isCode c || c.before args0 about1) = true := by decide +kernel
set_option maxRecDepth 65536 in
theorem w_t4 : (((words1.drop 24).drop 24).drop 24).all (fun c => isCode c || c.before args0 about1) = true := by decide +kernel
theorem w_tables : (allAtoms (Jvm.Cond.code x code maxLocals ret :: tables_1)).before args0 about1 = true := by
  rw [allAtoms_all]
  show words1.all (fun c => c.before args0 about1) = true
  refine all_split ?_ w_codes
  rw [← List.take_append_drop 24 words1, List.all_append, w_t1, ← List.take_append_drop 24 (words1.drop 24), List.all_append, w_t2, ← List.take_append_drop 24 ((words1.drop 24).drop 24), List.all_append, w_t3, w_t4]
  rfl
set_option maxRecDepth 65536 in
theorem w_case : (Jvm.Cond.and given_1 narrow_1).before args0 about1 = true := by decide +kernel
theorem w_applies : (headSpec (Jvm.Cond.code x code maxLocals ret :: tables_1) room_1).applies x e0.platform about1 = true :=
  (Spec.applies_iff w_frames).mpr ⟨w_running, w_runnable, w_alone, w_named, w_hears, w_ripe, w_room, w_tables⟩
theorem atStart : AtStart classFile x code maxLocals ret World_1 tables_1 room_1 Calls_1 rest_1 Pre_1 launch0 p0 e0 about1 theMethod args0 below0 :=
  ⟨lists_1, trivial, launch0.admits_env _ _ _, launch0.least_env, fairChoices_fair.cas, fairChoices_fair.clock, w_frames, w_args, w_heap, w_applies, trivial, trivial, w_case⟩
end start1
theorem witness_1 : WitnessClaimed_1 := ⟨start1.p0, start1.e0, start1.about1, start1.theMethod, start1.args0, start1.below0, start1.atStart⟩
end Jvm.Pilot.@@N@@
