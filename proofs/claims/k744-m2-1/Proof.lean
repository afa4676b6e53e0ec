import JvmDerived
import JvmDerived.Pilot.@@N@@Statement
import JvmDerived.Pilot.@@N@@Code
set_option linter.unusedVariables false
set_option linter.unusedSimpArgs false
namespace Jvm.RoadKit
open Sem ClassFile Op Lib Jvm.Stand Jvm.Free Jvm.LawKit
section OwnGo
variable {p : Program} {l : Launch} {e : Env} {R : Room} {s : State} {m : MethodId} {args : Array Value} {below : List Frame} {meth : Method} {c : Code} {T U V : State} {locs : List Loc} {cells slots : Nat} {Q : Option Value → Heap → List Loc → Prop} {k n : Nat}
/-- from the state U the run ends within the frame, by a return of which Q holds -/
def Goes (p : Program) (e : Env) (below : List Frame) (s : State) (Q : Option Value → Heap → List Loc → Prop) (k n : Nat) (U : State) : Prop :=
  ∃ s₂ o, Steps p.tables e below U s₂ ∧ s₂.status = .running ∧ Ended s₂ below o ∧ ∃ v L, o = .returned v ∧ Q v s₂.heap L ∧ FrameEnd s o s₂ L k n
theorem Goes.st (st : ∀ t, Steps p.tables e below V t → Steps p.tables e below U t) (h : Goes p e below s Q k n V) : Goes p e below s Q k n U := by
  obtain ⟨s₂, o, h1, h2⟩ := h
  exact ⟨s₂, o, st _ h1, h2⟩
theorem Goes.tr (st : Steps p.tables e below U V) (h : Goes p e below s Q k n V) : Goes p e below s Q k n U := Goes.st (fun _ q => st.trans q) h
theorem Goes.cast {g g' : JFrame} (q : g = g') (h : Goes p e below s Q k n (T.setTop g')) : Goes p e below s Q k n (T.setTop g) := q ▸ h
theorem Goes.retN (X : Stand p l e R s m args below meth c T locs cells slots) (hx : p.tables.exec = Jvm.exec) {pc : Nat} {Ls : Array Slot} {z : Int32} {t : FieldType} {rest : List Value} (hret : meth.sig.returnType = some t) (hlk : meth.locks = false) (ht : t = .boolean ∨ t = .byte ∨ t = .char ∨ t = .short)
    (hd : decode c.code pc = .ok (.ireturn, 1)) (hc : cells ≤ k) (hs : slots ≤ n) (hq : Q (some (.int (nar t z))) T.heap locs) : Goes p e below s Q k n (T.setTop (mkF m pc Ls (.int z :: rest))) := by
  obtain ⟨fs, hr, hrun, hended, hW, hsame⟩ := X.leave (v := some (.int (nar t z))) (fun h => by rw [hret] at h; cases h) hlk
  exact ⟨_, _, Jvm.RoadKit.retN X hx hret ht hd hr, hrun, hended, _, _, rfl, hq, ⟨_, rfl⟩, hW, hsame.mono hc hs⟩
theorem Goes.retO (X : Stand p l e R s m args below meth c T locs cells slots) (hx : p.tables.exec = Jvm.exec) {pc : Nat} {Ls : Array Slot} {w : Value} {t : FieldType} {i : Instr} {rest : List Value} (hret : meth.sig.returnType = some t) (hlk : meth.locks = false) (hn : narrow t w = w)
    (hi : (i = .ireturn ∧ (t = .int ∨ t = .boolean ∨ t = .byte ∨ t = .char ∨ t = .short) ∧ ∃ z, w = .int z) ∨ (i = .lreturn ∧ t = .long ∧ ∃ z, w = .long z) ∨ (i = .dreturn ∧ t = .double ∧ ∃ z, w = .double z) ∨ (i = .freturn ∧ t = .float ∧ ∃ z, w = .float z) ∨ (i = .areturn ∧ t.isReference = true ∧ w.isRef = true))
    (hd : decode c.code pc = .ok (i, 1)) (hc : cells ≤ k) (hs : slots ≤ n) (hq : Q (some w) T.heap locs) : Goes p e below s Q k n (T.setTop (mkF m pc Ls (w :: rest))) := by
  obtain ⟨fs, hr, hrun, hended, hW, hsame⟩ := X.leave (v := some w) (fun h => by rw [hret] at h; cases h) hlk
  exact ⟨_, _, Jvm.RoadKit.retOut X hx hret hn hi hd hr, hrun, hended, _, _, rfl, hq, ⟨_, rfl⟩, hW, hsame.mono hc hs⟩
theorem Goes.ret0 (X : Stand p l e R s m args below meth c T locs cells slots) (hx : p.tables.exec = Jvm.exec) {pc : Nat} {Ls : Array Slot} (hret : meth.sig.returnType = none) (hlk : meth.locks = false)
    (hd : decode c.code pc = .ok (.return_, 1)) (hc : cells ≤ k) (hs : slots ≤ n) (hq : Q none T.heap locs) : Goes p e below s Q k n (T.setTop (mkF m pc Ls [])) := by
  obtain ⟨fs, hr, hrun, hended, hW, hsame⟩ := X.leave (v := none) (fun _ => rfl) hlk
  exact ⟨_, _, X.returnOut hx hret hd hr, hrun, hended, _, _, rfl, hq, ⟨_, rfl⟩, hW, hsame.mono hc hs⟩
end OwnGo
end Jvm.RoadKit
namespace Jvm.Pilot.@@N@@
open Jvm Jvm.ClassFile Sem Op Lib Jvm.Free Jvm.Stand Jvm.LawKit Jvm.RoadKit Bundle Jvm.Pilot.@@N@@.Jvm.D
theorem own_selp {Z s : State} {a0 args : Array Value} {y : MethodName} {n : Nat} (hZ : Z.Warmed39 s.vm) (wi : (Jvm.Cond.instantiable y.cls n).before a0 Z = true) (wm : (Jvm.Cond.instanceMethod y).before a0 Z = true) (wp : (Jvm.Cond.privateMethod y).before a0 Z = true) (hy : y.cls ≠ "java/lang/invoke/MethodHandle" ∧ y.cls ≠ "java/lang/invoke/VarHandle") : (Jvm.Cond.selects y.cls y y).before args s = true := by
  obtain ⟨c, k, h1, h2, h3, h4, -⟩ := Cond.instantiable_spec (mvT hZ wi (args := args))
  have h5 : k.isInterface = false := by cases hi : k.isInterface <;> simp [hi] at h4 ⊢
  exact selects_self_of_private h1 h2 h5 (Cond.privateMethod_at (mvP hZ wp (args := args))) (mvT hZ wm) hy
def own_bI (b : Bool) : Int32 := bif b then 1 else 0
theorem own_cat {v : Value} (h : v.isRef = true) : v.category = 1 := by cases v <;> simp [Value.isRef, Value.category] at h ⊢
theorem own_feq {args : Array Value} {s : State} {t u : Term} {C n d : String} {a w : Addr} (h : (Jvm.Cond.eq (.field t C n d) u).value args s none s [] = some true) (ht : t.eval args s none [] s = some (.ref a)) (hu : u.eval args s none [] s = some (.ref w)) : Fld s s.heap a C n d (.ref w) := by
  obtain ⟨x, y, e1, e2, k1, k2⟩ := cmp_v (Or.inl h)
  cases hu.symm.trans e2
  have hx : x.isRef = true := k2.2
  have q := gotT (eq_R e1 hu hx rfl) h
  subst q
  rw [fld_at ht] at e1
  exact Fld.start e1
theorem own_oeq {args : Array Value} {s : State} {t : Term} {C n d : String} {a : Addr} {k : Int32} (h : (Jvm.Cond.eq (.field t C n d) (.int k)).value args s none s [] = some true) (ht : t.eval args s none [] s = some (.ref a)) : Fld s s.heap a C n d (.int k) := by
  obtain ⟨x, y, e1, e2, k1, k2⟩ := cmp_v (Or.inl h)
  cases (Term.int_eval k).symm.trans e2
  obtain ⟨z, rfl⟩ := k2
  have q : z = k := by simpa [Jvm.Cond.value, e1, e2] using h
  subst q
  rw [fld_at ht] at e1
  exact Fld.start e1
def own_g (x0 x1 x2 x3 : Int32) (j : Int32) : Int32 := if j = 0 then x0 else if j = 1 then x1 else if j = 2 then x2 else x3
theorem own_c4 {j : Int32} (h1 : 0 ≤ j.toInt) (h2 : j.toInt < 4) : j = 0 ∨ j = 1 ∨ j = 2 ∨ j = 3 := by
  have : j.toInt = 0 ∨ j.toInt = 1 ∨ j.toInt = 2 ∨ j.toInt = 3 := by omega
  rcases this with h | h | h | h
  · exact Or.inl (Int32.toInt_inj.mp h)
  · exact Or.inr (Or.inl (Int32.toInt_inj.mp h))
  · exact Or.inr (Or.inr (Or.inl (Int32.toInt_inj.mp h)))
  · exact Or.inr (Or.inr (Or.inr (Int32.toInt_inj.mp h)))
theorem own_gD {x0 x1 x2 x3 : Int32} {j : Int32} (h1 : 0 ≤ j.toInt) (h2 : j.toInt < 4) : ([(.int x0), (.int x1), (.int x2), (.int x3)] : List Value).getD j.toNatClampNeg (.int 0) = .int (own_g x0 x1 x2 x3 j) := by
  rcases own_c4 h1 h2 with rfl | rfl | rfl | rfl <;> rfl
theorem own_in {j z : Int32} {n : Int} (hz : z.toInt = n) (h1 : 0 ≤ j.toInt) (h2 : j.toInt < n) : ¬ j < 0 ∧ j < z := by
  rw [Int32.lt_iff_toInt_lt, Int32.lt_iff_toInt_lt]
  refine ⟨?_, by omega⟩
  show ¬ j.toInt < 0
  omega
theorem own_lt {x y : Int32} : x < y ↔ x.toInt < y.toInt := Int32.lt_iff_toInt_lt
theorem own_mono {x0 x1 x2 x3 i j : Int32} (h : x0.toInt ≤ x1.toInt ∧ x1.toInt ≤ x2.toInt ∧ x2.toInt ≤ x3.toInt) (h1 : 0 ≤ i.toInt) (h2 : i.toInt ≤ j.toInt) (h3 : j.toInt < 4) : (own_g x0 x1 x2 x3 i).toInt ≤ (own_g x0 x1 x2 x3 j).toInt := by
  rcases own_c4 h1 (by omega) with rfl | rfl | rfl | rfl <;> rcases own_c4 (by omega) h3 with rfl | rfl | rfl | rfl <;> first | (exact absurd h2 (by decide)) | (simp only [own_g]; simp; done) | (simp only [own_g]; simp; omega)
theorem own_mid {lo hi : Int32} (h1 : 0 ≤ lo.toInt) (h2 : lo.toInt < hi.toInt) (h3 : hi.toInt ≤ 4) : lo.toInt ≤ (((lo + hi).toUInt32 >>> ((1 : Int32) &&& 31).toUInt32).toInt32).toInt ∧ (((lo + hi).toUInt32 >>> ((1 : Int32) &&& 31).toUInt32).toInt32).toInt < hi.toInt := by
  have h4 := c_iushr (lo + hi) 1 1 (by decide) (by decide)
  have h5 := c_iadd lo hi; have h6 := rng32 (lo + hi)
  omega
theorem own_up {i t : Int32} (h : i.toInt < t.toInt) : (i + 1).toInt = i.toInt + 1 := by
  have h1 := c_iadd i 1; have h2 := rng32 (i + 1); have h3 := rng32 t; have h4 := rng32 i
  have h5 : (1 : Int32).toInt = 1 := rfl
  omega
theorem own_r5 (x : Int32) : 0 ≤ ((x &&& 255) % 5).toInt ∧ ((x &&& 255) % 5).toInt ≤ 4 := by
  have h1 := c_mask x 255 8 (by decide) (by decide)
  have h2 := (c_irem (x &&& 255) 5 5 rfl).1 (by omega)
  omega
theorem own_m3 (x : Int32) : 0 ≤ (x &&& 3).toInt ∧ (x &&& 3).toInt < 4 := by
  have h1 := c_mask x 3 2 (by decide) (by decide)
  omega
theorem own_bi {f t r i x n b : Int} (h : f ≤ i → i < r → x < n) (h' : r ≤ i → i < t → ¬ x < n) (hr : r ≤ t) (c1 : f ≤ i ∧ i < t ∧ x < n → b = 1) (c2 : ¬ (f ≤ i ∧ i < t ∧ x < n) → b = 0) : b = if f ≤ i ∧ i < r then 1 else 0 := by
  by_cases q1 : f ≤ i
  · by_cases q2 : i < r
    · rw [if_pos ⟨q1, q2⟩]; exact c1 ⟨q1, by omega, h q1 q2⟩
    · rw [if_neg (fun q => q2 q.2)]
      exact c2 (fun q => h' (by omega) q.2.1 q.2.2)
  · rw [if_neg (fun q => q1 q.1)]
    exact c2 (fun q => q1 q.1)
set_option maxHeartbeats 4000000 in
theorem own_law {x0 x1 x2 x3 fr to r n b0 b1 b2 b3 : Int32} (h1 : 0 ≤ fr.toInt) (h2 : fr.toInt ≤ to.toInt) (h3 : to.toInt ≤ 4) (r1 : fr.toInt ≤ r.toInt) (r2 : r.toInt ≤ to.toInt)
    (ra : ∀ j : Int32, fr.toInt ≤ j.toInt → j.toInt < r.toInt → (own_g x0 x1 x2 x3 j).toInt < n.toInt) (rb : ∀ j : Int32, r.toInt ≤ j.toInt → j.toInt < to.toInt → ¬ (own_g x0 x1 x2 x3 j).toInt < n.toInt)
    (c0 : (fr.toInt ≤ (0 : Int32).toInt ∧ (0 : Int32).toInt < to.toInt ∧ x0.toInt < n.toInt → b0.toInt = 1) ∧ (¬ (fr.toInt ≤ (0 : Int32).toInt ∧ (0 : Int32).toInt < to.toInt ∧ x0.toInt < n.toInt) → b0.toInt = 0))
    (c1 : (fr.toInt ≤ (1 : Int32).toInt ∧ (1 : Int32).toInt < to.toInt ∧ x1.toInt < n.toInt → b1.toInt = 1) ∧ (¬ (fr.toInt ≤ (1 : Int32).toInt ∧ (1 : Int32).toInt < to.toInt ∧ x1.toInt < n.toInt) → b1.toInt = 0))
    (c2 : (fr.toInt ≤ (2 : Int32).toInt ∧ (2 : Int32).toInt < to.toInt ∧ x2.toInt < n.toInt → b2.toInt = 1) ∧ (¬ (fr.toInt ≤ (2 : Int32).toInt ∧ (2 : Int32).toInt < to.toInt ∧ x2.toInt < n.toInt) → b2.toInt = 0))
    (c3 : (fr.toInt ≤ (3 : Int32).toInt ∧ (3 : Int32).toInt < to.toInt ∧ x3.toInt < n.toInt → b3.toInt = 1) ∧ (¬ (fr.toInt ≤ (3 : Int32).toInt ∧ (3 : Int32).toInt < to.toInt ∧ x3.toInt < n.toInt) → b3.toInt = 0)) :
    r = fr + b0 + b1 + b2 + b3 := by
  have e0 : (0 : Int32).toInt = 0 := rfl
  have e1 : (1 : Int32).toInt = 1 := rfl
  have e2 : (2 : Int32).toInt = 2 := rfl
  have e3 : (3 : Int32).toInt = 3 := rfl
  have a0 := ra 0; have a1 := ra 1; have a2 := ra 2; have a3 := ra 3
  have d0 := rb 0; have d1 := rb 1; have d2 := rb 2; have d3 := rb 3
  rw [show own_g x0 x1 x2 x3 0 = x0 from rfl] at a0 d0
  rw [show own_g x0 x1 x2 x3 1 = x1 from rfl] at a1 d1
  rw [show own_g x0 x1 x2 x3 2 = x2 from rfl] at a2 d2
  rw [show own_g x0 x1 x2 x3 3 = x3 from rfl] at a3 d3
  rw [e0] at a0 d0 c0; rw [e1] at a1 d1 c1; rw [e2] at a2 d2 c2; rw [e3] at a3 d3 c3
  have k0 := own_bi a0 d0 r2 c0.1 c0.2
  have k1 := own_bi a1 d1 r2 c1.1 c1.2
  have k2 := own_bi a2 d2 r2 c2.1 c2.2
  have k3 := own_bi a3 d3 r2 c3.1 c3.2
  clear a0 a1 a2 a3 d0 d1 d2 d3 c0 c1 c2 c3 ra rb
  have s1 := c_iadd fr b0; have s2 := c_iadd (fr + b0) b1; have s3 := c_iadd (fr + b0 + b1) b2; have s4 := c_iadd (fr + b0 + b1 + b2) b3
  have t1 := rng32 (fr + b0); have t2 := rng32 (fr + b0 + b1); have t3 := rng32 (fr + b0 + b1 + b2); have t4 := rng32 (fr + b0 + b1 + b2 + b3)
  have q0 : 0 ≤ b0.toInt ∧ b0.toInt ≤ 1 := by rw [k0]; split <;> omega
  have q1 : 0 ≤ b1.toInt ∧ b1.toInt ≤ 1 := by rw [k1]; split <;> omega
  have q2 : 0 ≤ b2.toInt ∧ b2.toInt ≤ 1 := by rw [k2]; split <;> omega
  have q3 : 0 ≤ b3.toInt ∧ b3.toInt ≤ 1 := by rw [k3]; split <;> omega
  have u1 : (fr + b0).toInt = fr.toInt + b0.toInt := by omega
  have u2 : (fr + b0 + b1).toInt = fr.toInt + b0.toInt + b1.toInt := by omega
  have u3 : (fr + b0 + b1 + b2).toInt = fr.toInt + b0.toInt + b1.toInt + b2.toInt := by omega
  have u4 : (fr + b0 + b1 + b2 + b3).toInt = fr.toInt + b0.toInt + b1.toInt + b2.toInt + b3.toInt := by omega
  apply Int32.toInt_inj.mp
  rw [u4, k0, k1, k2, k3]
  have hr : fr.toInt = 0 ∨ fr.toInt = 1 ∨ fr.toInt = 2 ∨ fr.toInt = 3 ∨ fr.toInt = 4 := by omega
  have hq : r.toInt = 0 ∨ r.toInt = 1 ∨ r.toInt = 2 ∨ r.toInt = 3 ∨ r.toInt = 4 := by omega
  rcases hr with hr | hr | hr | hr | hr <;> rcases hq with hq | hq | hq | hq | hq <;> rw [hr, hq] <;> first | rfl | (exfalso; omega)
def own_QM (Z : State) (z : Int) (h0 : Heap) (n0 : Nat) (v : Option Value) (h : Heap) (L : List Loc) : Prop := ∃ r : Int32, v = some (.int r) ∧ Fr n0 L ∧ h = h0 ∧ r.toInt = z
def own_QA (Z : State) (x0 x1 x2 x3 : Int32) (fr to n : Int32) (h0 : Heap) (n0 : Nat) (v : Option Value) (h : Heap) (L : List Loc) : Prop := ∃ r : Int32, v = some (.int r) ∧ Fr n0 L ∧ h = h0 ∧ fr.toInt ≤ r.toInt ∧ r.toInt ≤ to.toInt ∧ (∀ j : Int32, fr.toInt ≤ j.toInt → j.toInt < r.toInt → (own_g x0 x1 x2 x3 j).toInt < n.toInt) ∧ ∀ j : Int32, r.toInt ≤ j.toInt → j.toInt < to.toInt → ¬ (own_g x0 x1 x2 x3 j).toInt < n.toInt
def own_QB (Z : State) (i fr to y n : Int32) (h0 : Heap) (n0 : Nat) (v : Option Value) (h : Heap) (L : List Loc) : Prop := ∃ r : Int32, v = some (.int r) ∧ Fr n0 L ∧ h = h0 ∧ ((fr.toInt ≤ i.toInt ∧ i.toInt < to.toInt ∧ y.toInt < n.toInt → r.toInt = 1) ∧ (¬ (fr.toInt ≤ i.toInt ∧ i.toInt < to.toInt ∧ y.toInt < n.toInt) → r.toInt = 0))
def own_Q0 (Z : State) (h0 : Heap) (n0 : Nat) (v : Option Value) (h : Heap) (L : List Loc) : Prop := v = some (.int 1) ∧ Fr n0 L
theorem own_d_jdk_29_69_0 : decode jdk_29_method_69_code 0 = .ok (.iload_n 0, 1) := by decide +kernel
theorem own_d_jdk_29_69_1 : decode jdk_29_method_69_code 1 = .ok (.iload_n 1, 1) := by decide +kernel
theorem own_d_jdk_29_69_2 : decode jdk_29_method_69_code 2 = .ok (.if_icmp .gt 7, 3) := by decide +kernel
theorem own_d_jdk_29_69_9 : decode jdk_29_method_69_code 9 = .ok (.iload_n 1, 1) := by decide +kernel
theorem own_d_jdk_29_69_10 : decode jdk_29_method_69_code 10 = .ok (.ireturn, 1) := by decide +kernel
theorem own_d_jdk_29_69_5 : decode jdk_29_method_69_code 5 = .ok (.iload_n 0, 1) := by decide +kernel
theorem own_d_jdk_29_69_6 : decode jdk_29_method_69_code 6 = .ok (.goto 4, 3) := by decide +kernel
theorem own_d_jdk_29_65_0 : decode jdk_29_method_65_code 0 = .ok (.iload_n 0, 1) := by decide +kernel
theorem own_d_jdk_29_65_1 : decode jdk_29_method_65_code 1 = .ok (.iload_n 1, 1) := by decide +kernel
theorem own_d_jdk_29_65_2 : decode jdk_29_method_65_code 2 = .ok (.if_icmp .lt 7, 3) := by decide +kernel
theorem own_d_jdk_29_65_9 : decode jdk_29_method_65_code 9 = .ok (.iload_n 1, 1) := by decide +kernel
theorem own_d_jdk_29_65_10 : decode jdk_29_method_65_code 10 = .ok (.ireturn, 1) := by decide +kernel
theorem own_d_jdk_29_65_5 : decode jdk_29_method_65_code 5 = .ok (.iload_n 0, 1) := by decide +kernel
theorem own_d_jdk_29_65_6 : decode jdk_29_method_65_code 6 = .ok (.goto 4, 3) := by decide +kernel
theorem own_d_prog_56_8_0 : decode prog_56_method_8_code 0 = .ok (.iload_n 1, 1) := by decide +kernel
theorem own_d_prog_56_8_1 : decode prog_56_method_8_code 1 = .ok (.istore 4, 2) := by decide +kernel
theorem own_d_prog_56_8_3 : decode prog_56_method_8_code 3 = .ok (.iload_n 2, 1) := by decide +kernel
theorem own_d_prog_56_8_4 : decode prog_56_method_8_code 4 = .ok (.istore 5, 2) := by decide +kernel
theorem own_d_prog_56_8_6 : decode prog_56_method_8_code 6 = .ok (.iload 4, 2) := by decide +kernel
theorem own_d_prog_56_8_8 : decode prog_56_method_8_code 8 = .ok (.iload 5, 2) := by decide +kernel
theorem own_d_prog_56_8_10 : decode prog_56_method_8_code 10 = .ok (.if_icmp .ge 36, 3) := by decide +kernel
theorem own_d_prog_56_8_46 : decode prog_56_method_8_code 46 = .ok (.iload 4, 2) := by decide +kernel
theorem own_d_prog_56_8_48 : decode prog_56_method_8_code 48 = .ok (.ireturn, 1) := by decide +kernel
theorem own_d_prog_56_8_13 : decode prog_56_method_8_code 13 = .ok (.iload 4, 2) := by decide +kernel
theorem own_d_prog_56_8_15 : decode prog_56_method_8_code 15 = .ok (.iload 5, 2) := by decide +kernel
theorem own_d_prog_56_8_17 : decode prog_56_method_8_code 17 = .ok (.iadd, 1) := by decide +kernel
theorem own_d_prog_56_8_18 : decode prog_56_method_8_code 18 = .ok (.iconst 1, 1) := by decide +kernel
theorem own_d_prog_56_8_19 : decode prog_56_method_8_code 19 = .ok (.iushr, 1) := by decide +kernel
theorem own_d_prog_56_8_20 : decode prog_56_method_8_code 20 = .ok (.istore 6, 2) := by decide +kernel
theorem own_d_prog_56_8_22 : decode prog_56_method_8_code 22 = .ok (.aload_n 0, 1) := by decide +kernel
theorem own_d_prog_56_8_23 : decode prog_56_method_8_code 23 = .ok (.iload 6, 2) := by decide +kernel
theorem own_d_prog_56_8_25 : decode prog_56_method_8_code 25 = .ok (.iaload, 1) := by decide +kernel
theorem own_d_prog_56_8_26 : decode prog_56_method_8_code 26 = .ok (.iload_n 3, 1) := by decide +kernel
theorem own_d_prog_56_8_27 : decode prog_56_method_8_code 27 = .ok (.if_icmp .ge 12, 3) := by decide +kernel
theorem own_d_prog_56_8_30 : decode prog_56_method_8_code 30 = .ok (.iload 6, 2) := by decide +kernel
theorem own_d_prog_56_8_32 : decode prog_56_method_8_code 32 = .ok (.iconst 1, 1) := by decide +kernel
theorem own_d_prog_56_8_33 : decode prog_56_method_8_code 33 = .ok (.iadd, 1) := by decide +kernel
theorem own_d_prog_56_8_34 : decode prog_56_method_8_code 34 = .ok (.istore 4, 2) := by decide +kernel
theorem own_d_prog_56_8_36 : decode prog_56_method_8_code 36 = .ok (.goto 7, 3) := by decide +kernel
theorem own_d_prog_56_8_43 : decode prog_56_method_8_code 43 = .ok (.goto (-37), 3) := by decide +kernel
theorem own_d_prog_56_8_39 : decode prog_56_method_8_code 39 = .ok (.iload 6, 2) := by decide +kernel
theorem own_d_prog_56_8_41 : decode prog_56_method_8_code 41 = .ok (.istore 5, 2) := by decide +kernel
theorem own_pn42 : plainName "com/example/lockwright/lockwright/planning/ChainSpans" = true := by first | (simp [plainName, overriddenIn]; done) | decide +kernel
theorem own_d_method_2_0 : decode method_2_code 0 = .ok (.iload_n 1, 1) := by decide +kernel
theorem own_d_method_2_1 : decode method_2_code 1 = .ok (.iload_n 0, 1) := by decide +kernel
theorem own_d_method_2_2 : decode method_2_code 2 = .ok (.if_icmp .gt 16, 3) := by decide +kernel
theorem own_d_method_2_18 : decode method_2_code 18 = .ok (.iconst 0, 1) := by decide +kernel
theorem own_d_method_2_19 : decode method_2_code 19 = .ok (.ireturn, 1) := by decide +kernel
theorem own_d_method_2_5 : decode method_2_code 5 = .ok (.iload_n 0, 1) := by decide +kernel
theorem own_d_method_2_6 : decode method_2_code 6 = .ok (.iload_n 2, 1) := by decide +kernel
theorem own_d_method_2_7 : decode method_2_code 7 = .ok (.if_icmp .ge 11, 3) := by decide +kernel
theorem own_d_method_2_10 : decode method_2_code 10 = .ok (.iload_n 3, 1) := by decide +kernel
theorem own_d_method_2_11 : decode method_2_code 11 = .ok (.iload 4, 2) := by decide +kernel
theorem own_d_method_2_13 : decode method_2_code 13 = .ok (.if_icmp .ge 5, 3) := by decide +kernel
theorem own_d_method_2_16 : decode method_2_code 16 = .ok (.iconst 1, 1) := by decide +kernel
theorem own_d_method_2_17 : decode method_2_code 17 = .ok (.ireturn, 1) := by decide +kernel
theorem own_pn56 : plainName "com/example/lockwright/lockwright/planning/ChainSpansAtLeastPinLaw" = true := by first | (simp [plainName, overriddenIn]; done) | decide +kernel
theorem own_pd57 : parseMethodDescriptor "(II)I" = some ⟨[.int, .int], some .int⟩ := by decide +kernel
theorem own_pd58 : parseMethodDescriptor "([IIII)I" = some ⟨[(.array .int), .int, .int, .int], some .int⟩ := by decide +kernel
theorem own_pd59 : parseMethodDescriptor "(IIIII)I" = some ⟨[.int, .int, .int, .int, .int], some .int⟩ := by decide +kernel
theorem own_rmMin_ef (m : MethodId) (x : Int32) (y : Int32) : entryFrame m #[(.int x), (.int y)] 2 = mkF m 0 #[.val (.int x), .val (.int y)] [] := by first | (simp [entryFrame, mkF, argsToLocals, Value.category]; done) | rfl
set_option maxRecDepth 65536 in
set_option maxHeartbeats 40000000 in
theorem own_rmMin (l : Launch) (Z : State) (a0 : Array Value) (hw : ∀ d ∈ tables_1, d.before a0 Z = true) (ws : List Jvm.Cond) (x y : Int32) (h0 : Heap) (n0 : Nat) (Z0 : n0 ≤ h0.size)  :
    MetFree l (⟨"java/lang/Math", "min", "(II)I"⟩ : MethodName) (head1 (Jvm.Cond.code (⟨"java/lang/Math", "min", "(II)I"⟩ : MethodName) jdk_29_method_69_code 2 (some .int) :: ws) ({ frames := 0, cells := 0, slots := 0, locals := 0 } : Room)) (fun aa_ U => aa_ = #[(.int x), (.int y)] ∧ Z.Warmed39 U.vm ∧ U.heap = h0) (fun _ _ _ _ _ => True) (fun _ U oo_ U' => ∃ vv_ LL_, oo_ = .returned vv_ ∧ own_QM Z (min x.toInt y.toInt) h0 n0 vv_ U'.heap LL_ ∧ FrameEnd U oo_ U' LL_ ({ frames := 0, cells := 0, slots := 0, locals := 0 } : Room).cells ({ frames := 0, cells := 0, slots := 0, locals := 0 } : Room).slots) := by
  refine MetFree.of_bodySF (Jvm.Free.JP.mathPlain rfl (by decide +kernel)) hisR ?_
  intro p e s m args below meth c s₁ Bd hml0 hP hK
  obtain ⟨rfl, hZ, hh⟩ := hP
  have hx := Bd.exec
  have hby := Bd.bytes
  have hml : c.maxLocals = 2 := hml0
  have hown : s.vm.findClass "java/lang/Math" = some m.cls := findClass_of_methodNamed Bd.named
  have hnm := (name_of_methodNamed Bd.named Bd.method).1
  have hlk := Bd.notSynchronized
  have hret := Bd.returns
  have X0 : Stand p l e ({ frames := 0, cells := 0, slots := 0, locals := 0 } : Room) s m #[(.int x), (.int y)] below meth c s₁ [] 0 0 := Stand.of_body Bd
  have e0 : s₁.heap = h0 := by rw [← hh, Bd.state]; rfl
  have N0 := Fr.nil n0
  show Goes p e below s (own_QM Z (min x.toInt y.toInt) h0 n0) ({ frames := 0, cells := 0, slots := 0, locals := 0 } : Room).cells ({ frames := 0, cells := 0, slots := 0, locals := 0 } : Room).slots _
  refine Goes.cast (own_rmMin_ef m x y) ?_
  show Goes p e below s _ _ _ (s₁.setTop (mkF m 0 #[.val (.int x), .val (.int y)] []))
  refine Goes.st (fun t k => XS.iloadN X0.here hx rfl (hb hby own_d_jdk_29_69_0) rfl  k) ?_
  show Goes p e below s _ _ _ (s₁.setTop (mkF m 1 #[.val (.int x), .val (.int y)] [(.int x)]))
  refine Goes.st (fun t k => XS.iloadN X0.here hx rfl (hb hby own_d_jdk_29_69_1) rfl  k) ?_
  show Goes p e below s _ _ _ (s₁.setTop (mkF m 2 #[.val (.int x), .val (.int y)] [(.int y), (.int x)]))
  by_cases hc : y < x
  · refine Goes.st (fun t k => XS.icmpYes X0.here hx rfl (pc0 := 2) (pc' := 9) rfl (hb hby own_d_jdk_29_69_2) rfl (tlt hc).2.2.1 (by decide) (by decide) k) ?_
    show Goes p e below s _ _ _ (s₁.setTop (mkF m 9 #[.val (.int x), .val (.int y)] []))
    refine Goes.st (fun t k => XS.iloadN X0.here hx rfl (hb hby own_d_jdk_29_69_9) rfl  k) ?_
    show Goes p e below s _ _ _ (s₁.setTop (mkF m 10 #[.val (.int x), .val (.int y)] [(.int y)]))
    exact Goes.retO X0 hx hret hlk rfl (Or.inl ⟨rfl, Or.inl rfl, _, rfl⟩) (hb hby own_d_jdk_29_69_10) (by decide) (by decide) (⟨y, rfl, N0, e0, by rw [own_lt] at hc; omega⟩)
  · refine Goes.st (fun t k => XS.icmpNo X0.here hx rfl (hb hby own_d_jdk_29_69_2) rfl (flt hc).2.2.1 k) ?_
    show Goes p e below s _ _ _ (s₁.setTop (mkF m 5 #[.val (.int x), .val (.int y)] []))
    refine Goes.st (fun t k => XS.iloadN X0.here hx rfl (hb hby own_d_jdk_29_69_5) rfl  k) ?_
    show Goes p e below s _ _ _ (s₁.setTop (mkF m 6 #[.val (.int x), .val (.int y)] [(.int x)]))
    refine Goes.st (fun t k => XS.goto X0.here hx rfl (pc0 := 6) (pc' := 10) rfl (hb hby own_d_jdk_29_69_6) (by decide) (by decide) k) ?_
    show Goes p e below s _ _ _ (s₁.setTop (mkF m 10 #[.val (.int x), .val (.int y)] [(.int x)]))
    exact Goes.retO X0 hx hret hlk rfl (Or.inl ⟨rfl, Or.inl rfl, _, rfl⟩) (hb hby own_d_jdk_29_69_10) (by decide) (by decide) (⟨x, rfl, N0, e0, by rw [own_lt] at hc; omega⟩)
theorem own_rmMax_ef (m : MethodId) (x : Int32) (y : Int32) : entryFrame m #[(.int x), (.int y)] 2 = mkF m 0 #[.val (.int x), .val (.int y)] [] := by first | (simp [entryFrame, mkF, argsToLocals, Value.category]; done) | rfl
set_option maxRecDepth 65536 in
set_option maxHeartbeats 40000000 in
theorem own_rmMax (l : Launch) (Z : State) (a0 : Array Value) (hw : ∀ d ∈ tables_1, d.before a0 Z = true) (ws : List Jvm.Cond) (x y : Int32) (h0 : Heap) (n0 : Nat) (Z0 : n0 ≤ h0.size)  :
    MetFree l (⟨"java/lang/Math", "max", "(II)I"⟩ : MethodName) (head1 (Jvm.Cond.code (⟨"java/lang/Math", "max", "(II)I"⟩ : MethodName) jdk_29_method_65_code 2 (some .int) :: ws) ({ frames := 0, cells := 0, slots := 0, locals := 0 } : Room)) (fun aa_ U => aa_ = #[(.int x), (.int y)] ∧ Z.Warmed39 U.vm ∧ U.heap = h0) (fun _ _ _ _ _ => True) (fun _ U oo_ U' => ∃ vv_ LL_, oo_ = .returned vv_ ∧ own_QM Z (max x.toInt y.toInt) h0 n0 vv_ U'.heap LL_ ∧ FrameEnd U oo_ U' LL_ ({ frames := 0, cells := 0, slots := 0, locals := 0 } : Room).cells ({ frames := 0, cells := 0, slots := 0, locals := 0 } : Room).slots) := by
  refine MetFree.of_bodySF (Jvm.Free.JP.mathPlain rfl (by decide +kernel)) hisR ?_
  intro p e s m args below meth c s₁ Bd hml0 hP hK
  obtain ⟨rfl, hZ, hh⟩ := hP
  have hx := Bd.exec
  have hby := Bd.bytes
  have hml : c.maxLocals = 2 := hml0
  have hown : s.vm.findClass "java/lang/Math" = some m.cls := findClass_of_methodNamed Bd.named
  have hnm := (name_of_methodNamed Bd.named Bd.method).1
  have hlk := Bd.notSynchronized
  have hret := Bd.returns
  have X0 : Stand p l e ({ frames := 0, cells := 0, slots := 0, locals := 0 } : Room) s m #[(.int x), (.int y)] below meth c s₁ [] 0 0 := Stand.of_body Bd
  have e0 : s₁.heap = h0 := by rw [← hh, Bd.state]; rfl
  have N0 := Fr.nil n0
  show Goes p e below s (own_QM Z (max x.toInt y.toInt) h0 n0) ({ frames := 0, cells := 0, slots := 0, locals := 0 } : Room).cells ({ frames := 0, cells := 0, slots := 0, locals := 0 } : Room).slots _
  refine Goes.cast (own_rmMax_ef m x y) ?_
  show Goes p e below s _ _ _ (s₁.setTop (mkF m 0 #[.val (.int x), .val (.int y)] []))
  refine Goes.st (fun t k => XS.iloadN X0.here hx rfl (hb hby own_d_jdk_29_65_0) rfl  k) ?_
  show Goes p e below s _ _ _ (s₁.setTop (mkF m 1 #[.val (.int x), .val (.int y)] [(.int x)]))
  refine Goes.st (fun t k => XS.iloadN X0.here hx rfl (hb hby own_d_jdk_29_65_1) rfl  k) ?_
  show Goes p e below s _ _ _ (s₁.setTop (mkF m 2 #[.val (.int x), .val (.int y)] [(.int y), (.int x)]))
  by_cases hc : x < y
  · refine Goes.st (fun t k => XS.icmpYes X0.here hx rfl (pc0 := 2) (pc' := 9) rfl (hb hby own_d_jdk_29_65_2) rfl (tlt hc).1 (by decide) (by decide) k) ?_
    show Goes p e below s _ _ _ (s₁.setTop (mkF m 9 #[.val (.int x), .val (.int y)] []))
    refine Goes.st (fun t k => XS.iloadN X0.here hx rfl (hb hby own_d_jdk_29_65_9) rfl  k) ?_
    show Goes p e below s _ _ _ (s₁.setTop (mkF m 10 #[.val (.int x), .val (.int y)] [(.int y)]))
    exact Goes.retO X0 hx hret hlk rfl (Or.inl ⟨rfl, Or.inl rfl, _, rfl⟩) (hb hby own_d_jdk_29_65_10) (by decide) (by decide) (⟨y, rfl, N0, e0, by rw [own_lt] at hc; omega⟩)
  · refine Goes.st (fun t k => XS.icmpNo X0.here hx rfl (hb hby own_d_jdk_29_65_2) rfl (flt hc).1 k) ?_
    show Goes p e below s _ _ _ (s₁.setTop (mkF m 5 #[.val (.int x), .val (.int y)] []))
    refine Goes.st (fun t k => XS.iloadN X0.here hx rfl (hb hby own_d_jdk_29_65_5) rfl  k) ?_
    show Goes p e below s _ _ _ (s₁.setTop (mkF m 6 #[.val (.int x), .val (.int y)] [(.int x)]))
    refine Goes.st (fun t k => XS.goto X0.here hx rfl (pc0 := 6) (pc' := 10) rfl (hb hby own_d_jdk_29_65_6) (by decide) (by decide) k) ?_
    show Goes p e below s _ _ _ (s₁.setTop (mkF m 10 #[.val (.int x), .val (.int y)] [(.int x)]))
    exact Goes.retO X0 hx hret hlk rfl (Or.inl ⟨rfl, Or.inl rfl, _, rfl⟩) (hb hby own_d_jdk_29_65_10) (by decide) (by decide) (⟨x, rfl, N0, e0, by rw [own_lt] at hc; omega⟩)
theorem own_rmA_ef (m : MethodId) (a : Addr) (fr : Int32) (to : Int32) (n : Int32) : entryFrame m #[(.ref a), (.int fr), (.int to), (.int n)] 7 = mkF m 0 #[.val (.ref a), .val (.int fr), .val (.int to), .val (.int n), .unset, .unset, .unset] [] := by first | (simp [entryFrame, mkF, argsToLocals, Value.category]; done) | rfl
set_option maxRecDepth 65536 in
set_option maxHeartbeats 40000000 in
theorem own_rmA (l : Launch) (Z : State) (a0 : Array Value) (hw : ∀ d ∈ tables_1, d.before a0 Z = true) (ws : List Jvm.Cond) (a : Addr) (fr to n : Int32) (k : ClassId) (x0 x1 x2 x3 : Int32) (h0 : Heap) (n0 : Nat) (Z0 : n0 ≤ h0.size) (V_a : Arv Z h0 a k .int (4 : Int32) [(.int x0), (.int x1), (.int x2), (.int x3)] (.int (0 : Int32))) (hs : x0.toInt ≤ x1.toInt ∧ x1.toInt ≤ x2.toInt ∧ x2.toInt ≤ x3.toInt) (hf : 0 ≤ fr.toInt) (hft : fr.toInt ≤ to.toInt) (ht : to.toInt ≤ 4) :
    MetFree l (⟨"com/example/lockwright/lockwright/planning/ChainSpans", "atLeast", "([IIII)I"⟩ : MethodName) (head1 (Jvm.Cond.code (⟨"com/example/lockwright/lockwright/planning/ChainSpans", "atLeast", "([IIII)I"⟩ : MethodName) prog_56_method_8_code 7 (some .int) :: ws) ({ frames := 0, cells := 0, slots := 0, locals := 0 } : Room)) (fun aa_ U => aa_ = #[(.ref a), (.int fr), (.int to), (.int n)] ∧ Z.Warmed39 U.vm ∧ U.heap = h0) (fun _ _ _ _ _ => True) (fun _ U oo_ U' => ∃ vv_ LL_, oo_ = .returned vv_ ∧ own_QA Z x0 x1 x2 x3 fr to n h0 n0 vv_ U'.heap LL_ ∧ FrameEnd U oo_ U' LL_ ({ frames := 0, cells := 0, slots := 0, locals := 0 } : Room).cells ({ frames := 0, cells := 0, slots := 0, locals := 0 } : Room).slots) := by
  refine MetFree.of_bodySF (plainFor_of_name own_pn42) hisR ?_
  intro p e s m args below meth c s₁ Bd hml0 hP hK
  obtain ⟨rfl, hZ, hh⟩ := hP
  have hx := Bd.exec
  have hby := Bd.bytes
  have hml : c.maxLocals = 7 := hml0
  have hown : s.vm.findClass "com/example/lockwright/lockwright/planning/ChainSpans" = some m.cls := findClass_of_methodNamed Bd.named
  have hnm := (name_of_methodNamed Bd.named Bd.method).1
  have hlk := Bd.notSynchronized
  have hret := Bd.returns
  have X0 : Stand p l e ({ frames := 0, cells := 0, slots := 0, locals := 0 } : Room) s m #[(.ref a), (.int fr), (.int to), (.int n)] below meth c s₁ [] 0 0 := Stand.of_body Bd
  have e0 : s₁.heap = h0 := by rw [← hh, Bd.state]; rfl
  have N0 := Fr.nil n0
  show Goes p e below s (own_QA Z x0 x1 x2 x3 fr to n h0 n0) ({ frames := 0, cells := 0, slots := 0, locals := 0 } : Room).cells ({ frames := 0, cells := 0, slots := 0, locals := 0 } : Room).slots _
  refine Goes.cast (own_rmA_ef m a fr to n) ?_
  show Goes p e below s _ _ _ (s₁.setTop (mkF m 0 #[.val (.ref a), .val (.int fr), .val (.int to), .val (.int n), .unset, .unset, .unset] []))
  refine Goes.st (fun t k => XS.iloadN X0.here hx rfl (hb hby own_d_prog_56_8_0) rfl  k) ?_
  show Goes p e below s _ _ _ (s₁.setTop (mkF m 1 #[.val (.ref a), .val (.int fr), .val (.int to), .val (.int n), .unset, .unset, .unset] [(.int fr)]))
  refine Goes.st (fun t k => XS.istore X0.here hx rfl (hb hby own_d_prog_56_8_1) rfl  (l' := #[.val (.ref a), .val (.int fr), .val (.int to), .val (.int n), .val (.int fr), .unset, .unset]) rfl k) ?_
  show Goes p e below s _ _ _ (s₁.setTop (mkF m 3 #[.val (.ref a), .val (.int fr), .val (.int to), .val (.int n), .val (.int fr), .unset, .unset] []))
  refine Goes.st (fun t k => XS.iloadN X0.here hx rfl (hb hby own_d_prog_56_8_3) rfl  k) ?_
  show Goes p e below s _ _ _ (s₁.setTop (mkF m 4 #[.val (.ref a), .val (.int fr), .val (.int to), .val (.int n), .val (.int fr), .unset, .unset] [(.int to)]))
  refine Goes.st (fun t k => XS.istore X0.here hx rfl (hb hby own_d_prog_56_8_4) rfl  (l' := #[.val (.ref a), .val (.int fr), .val (.int to), .val (.int n), .val (.int fr), .val (.int to), .unset]) rfl k) ?_
  show Goes p e below s _ _ _ (s₁.setTop (mkF m 6 #[.val (.ref a), .val (.int fr), .val (.int to), .val (.int n), .val (.int fr), .val (.int to), .unset] []))
  have loop : ∀ (u : Nat) (lo hi : Int32) (s6 : Slot), One s6 → hi.toInt - lo.toInt ≤ u → fr.toInt ≤ lo.toInt → lo.toInt ≤ hi.toInt → hi.toInt ≤ to.toInt → (∀ j : Int32, fr.toInt ≤ j.toInt → j.toInt < lo.toInt → (own_g x0 x1 x2 x3 j).toInt < n.toInt) → (∀ j : Int32, hi.toInt ≤ j.toInt → j.toInt < to.toInt → ¬ (own_g x0 x1 x2 x3 j).toInt < n.toInt) → Goes p e below s (own_QA Z x0 x1 x2 x3 fr to n h0 n0) ({ frames := 0, cells := 0, slots := 0, locals := 0 } : Room).cells ({ frames := 0, cells := 0, slots := 0, locals := 0 } : Room).slots (s₁.setTop (mkF m 6 #[.val (.ref a), .val (.int fr), .val (.int to), .val (.int n), .val (.int lo), .val (.int hi), s6] [])) := by
    intro u
    induction u with
    | zero =>
      intro lo hi s6 hs6 hu h1 h2 h3 hA hB
      have hlh : lo.toInt = hi.toInt := by omega
      show Goes p e below s _ _ _ (s₁.setTop (mkF m 6 #[.val (.ref a), .val (.int fr), .val (.int to), .val (.int n), .val (.int lo), .val (.int hi), s6] []))
      refine Goes.st (fun t k => XS.iload X0.here hx rfl (hb hby own_d_prog_56_8_6) rfl  k) ?_
      show Goes p e below s _ _ _ (s₁.setTop (mkF m 8 #[.val (.ref a), .val (.int fr), .val (.int to), .val (.int n), .val (.int lo), .val (.int hi), s6] [(.int lo)]))
      refine Goes.st (fun t k => XS.iload X0.here hx rfl (hb hby own_d_prog_56_8_8) rfl  k) ?_
      show Goes p e below s _ _ _ (s₁.setTop (mkF m 10 #[.val (.ref a), .val (.int fr), .val (.int to), .val (.int n), .val (.int lo), .val (.int hi), s6] [(.int hi), (.int lo)]))
      refine Goes.st (fun t k => XS.icmpYes X0.here hx rfl (pc0 := 10) (pc' := 46) rfl (hb hby own_d_prog_56_8_10) rfl (flt (fun q => by rw [own_lt] at q; omega)).2.1 (by decide) (by decide) k) ?_
      show Goes p e below s _ _ _ (s₁.setTop (mkF m 46 #[.val (.ref a), .val (.int fr), .val (.int to), .val (.int n), .val (.int lo), .val (.int hi), s6] []))
      refine Goes.st (fun t k => XS.iload X0.here hx rfl (hb hby own_d_prog_56_8_46) rfl  k) ?_
      show Goes p e below s _ _ _ (s₁.setTop (mkF m 48 #[.val (.ref a), .val (.int fr), .val (.int to), .val (.int n), .val (.int lo), .val (.int hi), s6] [(.int lo)]))
      exact Goes.retO X0 hx hret hlk rfl (Or.inl ⟨rfl, Or.inl rfl, _, rfl⟩) (hb hby own_d_prog_56_8_48) (by decide) (by decide) (⟨lo, rfl, N0, e0, h1, by omega, hA, fun j q1 q2 => hB j (by omega) q2⟩)
    | succ u ih =>
      intro lo hi s6 hs6 hu h1 h2 h3 hA hB
      show Goes p e below s _ _ _ (s₁.setTop (mkF m 6 #[.val (.ref a), .val (.int fr), .val (.int to), .val (.int n), .val (.int lo), .val (.int hi), s6] []))
      refine Goes.st (fun t k => XS.iload X0.here hx rfl (hb hby own_d_prog_56_8_6) rfl  k) ?_
      show Goes p e below s _ _ _ (s₁.setTop (mkF m 8 #[.val (.ref a), .val (.int fr), .val (.int to), .val (.int n), .val (.int lo), .val (.int hi), s6] [(.int lo)]))
      refine Goes.st (fun t k => XS.iload X0.here hx rfl (hb hby own_d_prog_56_8_8) rfl  k) ?_
      show Goes p e below s _ _ _ (s₁.setTop (mkF m 10 #[.val (.ref a), .val (.int fr), .val (.int to), .val (.int n), .val (.int lo), .val (.int hi), s6] [(.int hi), (.int lo)]))
      by_cases hc : lo < hi
      · refine Goes.st (fun t k => XS.icmpNo X0.here hx rfl (hb hby own_d_prog_56_8_10) rfl (tlt hc).2.1 k) ?_
        rw [own_lt] at hc
        show Goes p e below s _ _ _ (s₁.setTop (mkF m 13 #[.val (.ref a), .val (.int fr), .val (.int to), .val (.int n), .val (.int lo), .val (.int hi), s6] []))
        refine Goes.st (fun t k => XS.iload X0.here hx rfl (hb hby own_d_prog_56_8_13) rfl  k) ?_
        show Goes p e below s _ _ _ (s₁.setTop (mkF m 15 #[.val (.ref a), .val (.int fr), .val (.int to), .val (.int n), .val (.int lo), .val (.int hi), s6] [(.int lo)]))
        refine Goes.st (fun t k => XS.iload X0.here hx rfl (hb hby own_d_prog_56_8_15) rfl  k) ?_
        show Goes p e below s _ _ _ (s₁.setTop (mkF m 17 #[.val (.ref a), .val (.int fr), .val (.int to), .val (.int n), .val (.int lo), .val (.int hi), s6] [(.int hi), (.int lo)]))
        refine Goes.st (fun t k => XS.iadd X0.here hx rfl (hb hby own_d_prog_56_8_17) rfl k) ?_
        show Goes p e below s _ _ _ (s₁.setTop (mkF m 18 #[.val (.ref a), .val (.int fr), .val (.int to), .val (.int n), .val (.int lo), .val (.int hi), s6] [(.int (lo + hi))]))
        refine Goes.st (fun t k => XS.iconst X0.here hx rfl (hb hby own_d_prog_56_8_18) k) ?_
        show Goes p e below s _ _ _ (s₁.setTop (mkF m 19 #[.val (.ref a), .val (.int fr), .val (.int to), .val (.int n), .val (.int lo), .val (.int hi), s6] [(.int (1 : Int32)), (.int (lo + hi))]))
        refine Goes.st (fun t k => XS.iushr X0.here hx rfl (hb hby own_d_prog_56_8_19) rfl k) ?_
        show Goes p e below s _ _ _ (s₁.setTop (mkF m 20 #[.val (.ref a), .val (.int fr), .val (.int to), .val (.int n), .val (.int lo), .val (.int hi), s6] [(.int (((lo + hi).toUInt32 >>> ((1 : Int32) &&& 31).toUInt32).toInt32))]))
        refine Goes.st (fun t k => XS.istore X0.here hx rfl (hb hby own_d_prog_56_8_20) rfl  (l' := #[.val (.ref a), .val (.int fr), .val (.int to), .val (.int n), .val (.int lo), .val (.int hi), .val (.int (((lo + hi).toUInt32 >>> ((1 : Int32) &&& 31).toUInt32).toInt32))]) (by rcases hs6 with rfl | ⟨w, rfl, hw⟩ <;> first | rfl | (cases w <;> first | rfl | (simp [Value.category] at hw))) k) ?_
        show Goes p e below s _ _ _ (s₁.setTop (mkF m 22 #[.val (.ref a), .val (.int fr), .val (.int to), .val (.int n), .val (.int lo), .val (.int hi), .val (.int (((lo + hi).toUInt32 >>> ((1 : Int32) &&& 31).toUInt32).toInt32))] []))
        obtain ⟨mid, hd_mid⟩ : ∃ z : Int32, z = (((lo + hi).toUInt32 >>> ((1 : Int32) &&& 31).toUInt32).toInt32) := ⟨_, rfl⟩
        rw [← hd_mid]
        show Goes p e below s _ _ _ (s₁.setTop (mkF m 22 #[.val (.ref a), .val (.int fr), .val (.int to), .val (.int n), .val (.int lo), .val (.int hi), .val (.int mid)] []))
        have hm : lo.toInt ≤ mid.toInt ∧ mid.toInt < hi.toInt := by rw [hd_mid]; exact own_mid (by omega) hc (by omega)
        clear hd_mid
        show Goes p e below s _ _ _ (s₁.setTop (mkF m 22 #[.val (.ref a), .val (.int fr), .val (.int to), .val (.int n), .val (.int lo), .val (.int hi), .val (.int mid)] []))
        refine Goes.st (fun t k => XS.aloadN X0.here hx rfl (hb hby own_d_prog_56_8_22) rfl rfl k) ?_
        show Goes p e below s _ _ _ (s₁.setTop (mkF m 23 #[.val (.ref a), .val (.int fr), .val (.int to), .val (.int n), .val (.int lo), .val (.int hi), .val (.int mid)] [(.ref a)]))
        refine Goes.st (fun t k => XS.iload X0.here hx rfl (hb hby own_d_prog_56_8_23) rfl  k) ?_
        show Goes p e below s _ _ _ (s₁.setTop (mkF m 25 #[.val (.ref a), .val (.int fr), .val (.int to), .val (.int n), .val (.int lo), .val (.int hi), .val (.int mid)] [(.int mid), (.ref a)]))
        have VV1 := V_a
        obtain ⟨cl1, Ar1, -, S1, M1, H1, -⟩ := VV1
        have hin1 := inb_of S1 (j := mid) (own_in (n := 4) rfl (by omega) (by omega))
        refine Goes.st (fun t k => X0.iaload hx (j := mid) (v := (.int (own_g x0 x1 x2 x3 mid))) (by rw [e0]; exact Ar1.1) (State.isArrayOf_alike hZ.alike Ar1.2.1) Ar1.2.2 hin1 (Has.at H1 hin1 (own_gD (by omega) (by omega))) (g := (mkF m 25 #[.val (.ref a), .val (.int fr), .val (.int to), .val (.int n), .val (.int lo), .val (.int hi), .val (.int mid)] [(.int mid), (.ref a)])) rfl rfl (hb hby own_d_prog_56_8_25) _ k) ?_
        show Goes p e below s _ _ _ (s₁.setTop (mkF m 26 #[.val (.ref a), .val (.int fr), .val (.int to), .val (.int n), .val (.int lo), .val (.int hi), .val (.int mid)] [(.int (own_g x0 x1 x2 x3 mid))]))
        refine Goes.st (fun t k => XS.iloadN X0.here hx rfl (hb hby own_d_prog_56_8_26) rfl  k) ?_
        show Goes p e below s _ _ _ (s₁.setTop (mkF m 27 #[.val (.ref a), .val (.int fr), .val (.int to), .val (.int n), .val (.int lo), .val (.int hi), .val (.int mid)] [(.int n), (.int (own_g x0 x1 x2 x3 mid))]))
        by_cases hc2 : (own_g x0 x1 x2 x3 mid) < n
        · refine Goes.st (fun t k => XS.icmpNo X0.here hx rfl (hb hby own_d_prog_56_8_27) rfl (tlt hc2).2.1 k) ?_
          rw [own_lt] at hc2
          have hup := own_up hm.2
          show Goes p e below s _ _ _ (s₁.setTop (mkF m 30 #[.val (.ref a), .val (.int fr), .val (.int to), .val (.int n), .val (.int lo), .val (.int hi), .val (.int mid)] []))
          refine Goes.st (fun t k => XS.iload X0.here hx rfl (hb hby own_d_prog_56_8_30) rfl  k) ?_
          show Goes p e below s _ _ _ (s₁.setTop (mkF m 32 #[.val (.ref a), .val (.int fr), .val (.int to), .val (.int n), .val (.int lo), .val (.int hi), .val (.int mid)] [(.int mid)]))
          refine Goes.st (fun t k => XS.iconst X0.here hx rfl (hb hby own_d_prog_56_8_32) k) ?_
          show Goes p e below s _ _ _ (s₁.setTop (mkF m 33 #[.val (.ref a), .val (.int fr), .val (.int to), .val (.int n), .val (.int lo), .val (.int hi), .val (.int mid)] [(.int (1 : Int32)), (.int mid)]))
          refine Goes.st (fun t k => XS.iadd X0.here hx rfl (hb hby own_d_prog_56_8_33) rfl k) ?_
          show Goes p e below s _ _ _ (s₁.setTop (mkF m 34 #[.val (.ref a), .val (.int fr), .val (.int to), .val (.int n), .val (.int lo), .val (.int hi), .val (.int mid)] [(.int (mid + (1 : Int32)))]))
          refine Goes.st (fun t k => XS.istore X0.here hx rfl (hb hby own_d_prog_56_8_34) rfl  (l' := #[.val (.ref a), .val (.int fr), .val (.int to), .val (.int n), .val (.int (mid + (1 : Int32))), .val (.int hi), .val (.int mid)]) rfl k) ?_
          show Goes p e below s _ _ _ (s₁.setTop (mkF m 36 #[.val (.ref a), .val (.int fr), .val (.int to), .val (.int n), .val (.int (mid + (1 : Int32))), .val (.int hi), .val (.int mid)] []))
          refine Goes.st (fun t k => XS.goto X0.here hx rfl (pc0 := 36) (pc' := 43) rfl (hb hby own_d_prog_56_8_36) (by decide) (by decide) k) ?_
          show Goes p e below s _ _ _ (s₁.setTop (mkF m 43 #[.val (.ref a), .val (.int fr), .val (.int to), .val (.int n), .val (.int (mid + (1 : Int32))), .val (.int hi), .val (.int mid)] []))
          refine Goes.st (fun t k => XS.goto X0.here hx rfl (pc0 := 43) (pc' := 6) rfl (hb hby own_d_prog_56_8_43) (by decide) (by decide) k) ?_
          show Goes p e below s _ _ _ (s₁.setTop (mkF m 6 #[.val (.ref a), .val (.int fr), .val (.int to), .val (.int n), .val (.int (mid + (1 : Int32))), .val (.int hi), .val (.int mid)] []))
          refine ih _ _ _ (One.val rfl) (by omega) (by omega) (by omega) (by omega) ?_ hB
          intro j q1 q2
          have := own_mono hs (i := j) (j := mid) (by omega) (by omega) (by omega)
          omega
        · refine Goes.st (fun t k => XS.icmpYes X0.here hx rfl (pc0 := 27) (pc' := 39) rfl (hb hby own_d_prog_56_8_27) rfl (flt hc2).2.1 (by decide) (by decide) k) ?_
          rw [own_lt] at hc2
          show Goes p e below s _ _ _ (s₁.setTop (mkF m 39 #[.val (.ref a), .val (.int fr), .val (.int to), .val (.int n), .val (.int lo), .val (.int hi), .val (.int mid)] []))
          refine Goes.st (fun t k => XS.iload X0.here hx rfl (hb hby own_d_prog_56_8_39) rfl  k) ?_
          show Goes p e below s _ _ _ (s₁.setTop (mkF m 41 #[.val (.ref a), .val (.int fr), .val (.int to), .val (.int n), .val (.int lo), .val (.int hi), .val (.int mid)] [(.int mid)]))
          refine Goes.st (fun t k => XS.istore X0.here hx rfl (hb hby own_d_prog_56_8_41) rfl  (l' := #[.val (.ref a), .val (.int fr), .val (.int to), .val (.int n), .val (.int lo), .val (.int mid), .val (.int mid)]) rfl k) ?_
          show Goes p e below s _ _ _ (s₁.setTop (mkF m 43 #[.val (.ref a), .val (.int fr), .val (.int to), .val (.int n), .val (.int lo), .val (.int mid), .val (.int mid)] []))
          refine Goes.st (fun t k => XS.goto X0.here hx rfl (pc0 := 43) (pc' := 6) rfl (hb hby own_d_prog_56_8_43) (by decide) (by decide) k) ?_
          show Goes p e below s _ _ _ (s₁.setTop (mkF m 6 #[.val (.ref a), .val (.int fr), .val (.int to), .val (.int n), .val (.int lo), .val (.int mid), .val (.int mid)] []))
          refine ih _ _ _ (One.val rfl) (by omega) (by omega) (by omega) (by omega) hA ?_
          intro j q1 q2
          have := own_mono hs (i := mid) (j := j) (by omega) (by omega) (by omega)
          omega
      · refine Goes.st (fun t k => XS.icmpYes X0.here hx rfl (pc0 := 10) (pc' := 46) rfl (hb hby own_d_prog_56_8_10) rfl (flt hc).2.1 (by decide) (by decide) k) ?_
        rw [own_lt] at hc
        show Goes p e below s _ _ _ (s₁.setTop (mkF m 46 #[.val (.ref a), .val (.int fr), .val (.int to), .val (.int n), .val (.int lo), .val (.int hi), s6] []))
        refine Goes.st (fun t k => XS.iload X0.here hx rfl (hb hby own_d_prog_56_8_46) rfl  k) ?_
        show Goes p e below s _ _ _ (s₁.setTop (mkF m 48 #[.val (.ref a), .val (.int fr), .val (.int to), .val (.int n), .val (.int lo), .val (.int hi), s6] [(.int lo)]))
        exact Goes.retO X0 hx hret hlk rfl (Or.inl ⟨rfl, Or.inl rfl, _, rfl⟩) (hb hby own_d_prog_56_8_48) (by decide) (by decide) (⟨lo, rfl, N0, e0, h1, by omega, hA, fun j q1 q2 => hB j (by omega) q2⟩)
  exact loop (to.toInt - fr.toInt).toNat fr to .unset One.u (by omega) (Int.le_refl _) hft (Int.le_refl _) (fun j q1 q2 => by omega) (fun j q1 q2 => by omega)
theorem own_rmB_ef (m : MethodId) (i : Int32) (fr : Int32) (to : Int32) (y : Int32) (n : Int32) : entryFrame m #[(.int i), (.int fr), (.int to), (.int y), (.int n)] 5 = mkF m 0 #[.val (.int i), .val (.int fr), .val (.int to), .val (.int y), .val (.int n)] [] := by first | (simp [entryFrame, mkF, argsToLocals, Value.category]; done) | rfl
set_option maxRecDepth 65536 in
set_option maxHeartbeats 40000000 in
theorem own_rmB (l : Launch) (Z : State) (a0 : Array Value) (hw : ∀ d ∈ tables_1, d.before a0 Z = true) (ws : List Jvm.Cond) (i fr to y n : Int32) (h0 : Heap) (n0 : Nat) (Z0 : n0 ≤ h0.size)  :
    MetFree l (⟨"com/example/lockwright/lockwright/planning/ChainSpansAtLeastPinLaw", "below", "(IIIII)I"⟩ : MethodName) (head1 (Jvm.Cond.code (⟨"com/example/lockwright/lockwright/planning/ChainSpansAtLeastPinLaw", "below", "(IIIII)I"⟩ : MethodName) method_2_code 5 (some .int) :: ws) ({ frames := 0, cells := 0, slots := 0, locals := 0 } : Room)) (fun aa_ U => aa_ = #[(.int i), (.int fr), (.int to), (.int y), (.int n)] ∧ Z.Warmed39 U.vm ∧ U.heap = h0) (fun _ _ _ _ _ => True) (fun _ U oo_ U' => ∃ vv_ LL_, oo_ = .returned vv_ ∧ own_QB Z i fr to y n h0 n0 vv_ U'.heap LL_ ∧ FrameEnd U oo_ U' LL_ ({ frames := 0, cells := 0, slots := 0, locals := 0 } : Room).cells ({ frames := 0, cells := 0, slots := 0, locals := 0 } : Room).slots) := by
  refine MetFree.of_bodySF (plainFor_of_name own_pn56) hisR ?_
  intro p e s m args below meth c s₁ Bd hml0 hP hK
  obtain ⟨rfl, hZ, hh⟩ := hP
  have hx := Bd.exec
  have hby := Bd.bytes
  have hml : c.maxLocals = 5 := hml0
  have hown : s.vm.findClass "com/example/lockwright/lockwright/planning/ChainSpansAtLeastPinLaw" = some m.cls := findClass_of_methodNamed Bd.named
  have hnm := (name_of_methodNamed Bd.named Bd.method).1
  have hlk := Bd.notSynchronized
  have hret := Bd.returns
  have X0 : Stand p l e ({ frames := 0, cells := 0, slots := 0, locals := 0 } : Room) s m #[(.int i), (.int fr), (.int to), (.int y), (.int n)] below meth c s₁ [] 0 0 := Stand.of_body Bd
  have e0 : s₁.heap = h0 := by rw [← hh, Bd.state]; rfl
  have N0 := Fr.nil n0
  show Goes p e below s (own_QB Z i fr to y n h0 n0) ({ frames := 0, cells := 0, slots := 0, locals := 0 } : Room).cells ({ frames := 0, cells := 0, slots := 0, locals := 0 } : Room).slots _
  refine Goes.cast (own_rmB_ef m i fr to y n) ?_
  show Goes p e below s _ _ _ (s₁.setTop (mkF m 0 #[.val (.int i), .val (.int fr), .val (.int to), .val (.int y), .val (.int n)] []))
  refine Goes.st (fun t k => XS.iloadN X0.here hx rfl (hb hby own_d_method_2_0) rfl  k) ?_
  show Goes p e below s _ _ _ (s₁.setTop (mkF m 1 #[.val (.int i), .val (.int fr), .val (.int to), .val (.int y), .val (.int n)] [(.int fr)]))
  refine Goes.st (fun t k => XS.iloadN X0.here hx rfl (hb hby own_d_method_2_1) rfl  k) ?_
  show Goes p e below s _ _ _ (s₁.setTop (mkF m 2 #[.val (.int i), .val (.int fr), .val (.int to), .val (.int y), .val (.int n)] [(.int i), (.int fr)]))
  by_cases hc1 : i < fr
  · refine Goes.st (fun t k => XS.icmpYes X0.here hx rfl (pc0 := 2) (pc' := 18) rfl (hb hby own_d_method_2_2) rfl (tlt hc1).2.2.1 (by decide) (by decide) k) ?_
    show Goes p e below s _ _ _ (s₁.setTop (mkF m 18 #[.val (.int i), .val (.int fr), .val (.int to), .val (.int y), .val (.int n)] []))
    refine Goes.st (fun t k => XS.iconst X0.here hx rfl (hb hby own_d_method_2_18) k) ?_
    show Goes p e below s _ _ _ (s₁.setTop (mkF m 19 #[.val (.int i), .val (.int fr), .val (.int to), .val (.int y), .val (.int n)] [(.int (0 : Int32))]))
    exact Goes.retO X0 hx hret hlk rfl (Or.inl ⟨rfl, Or.inl rfl, _, rfl⟩) (hb hby own_d_method_2_19) (by decide) (by decide) (⟨0, rfl, N0, e0, fun q => by simp only [own_lt] at *; omega, fun _ => rfl⟩)
  · refine Goes.st (fun t k => XS.icmpNo X0.here hx rfl (hb hby own_d_method_2_2) rfl (flt hc1).2.2.1 k) ?_
    show Goes p e below s _ _ _ (s₁.setTop (mkF m 5 #[.val (.int i), .val (.int fr), .val (.int to), .val (.int y), .val (.int n)] []))
    refine Goes.st (fun t k => XS.iloadN X0.here hx rfl (hb hby own_d_method_2_5) rfl  k) ?_
    show Goes p e below s _ _ _ (s₁.setTop (mkF m 6 #[.val (.int i), .val (.int fr), .val (.int to), .val (.int y), .val (.int n)] [(.int i)]))
    refine Goes.st (fun t k => XS.iloadN X0.here hx rfl (hb hby own_d_method_2_6) rfl  k) ?_
    show Goes p e below s _ _ _ (s₁.setTop (mkF m 7 #[.val (.int i), .val (.int fr), .val (.int to), .val (.int y), .val (.int n)] [(.int to), (.int i)]))
    by_cases hc2 : i < to
    · refine Goes.st (fun t k => XS.icmpNo X0.here hx rfl (hb hby own_d_method_2_7) rfl (tlt hc2).2.1 k) ?_
      show Goes p e below s _ _ _ (s₁.setTop (mkF m 10 #[.val (.int i), .val (.int fr), .val (.int to), .val (.int y), .val (.int n)] []))
      refine Goes.st (fun t k => XS.iloadN X0.here hx rfl (hb hby own_d_method_2_10) rfl  k) ?_
      show Goes p e below s _ _ _ (s₁.setTop (mkF m 11 #[.val (.int i), .val (.int fr), .val (.int to), .val (.int y), .val (.int n)] [(.int y)]))
      refine Goes.st (fun t k => XS.iload X0.here hx rfl (hb hby own_d_method_2_11) rfl  k) ?_
      show Goes p e below s _ _ _ (s₁.setTop (mkF m 13 #[.val (.int i), .val (.int fr), .val (.int to), .val (.int y), .val (.int n)] [(.int n), (.int y)]))
      by_cases hc3 : y < n
      · refine Goes.st (fun t k => XS.icmpNo X0.here hx rfl (hb hby own_d_method_2_13) rfl (tlt hc3).2.1 k) ?_
        show Goes p e below s _ _ _ (s₁.setTop (mkF m 16 #[.val (.int i), .val (.int fr), .val (.int to), .val (.int y), .val (.int n)] []))
        refine Goes.st (fun t k => XS.iconst X0.here hx rfl (hb hby own_d_method_2_16) k) ?_
        show Goes p e below s _ _ _ (s₁.setTop (mkF m 17 #[.val (.int i), .val (.int fr), .val (.int to), .val (.int y), .val (.int n)] [(.int (1 : Int32))]))
        exact Goes.retO X0 hx hret hlk rfl (Or.inl ⟨rfl, Or.inl rfl, _, rfl⟩) (hb hby own_d_method_2_17) (by decide) (by decide) (⟨1, rfl, N0, e0, fun _ => rfl, fun q => by simp only [own_lt] at *; omega⟩)
      · refine Goes.st (fun t k => XS.icmpYes X0.here hx rfl (pc0 := 13) (pc' := 18) rfl (hb hby own_d_method_2_13) rfl (flt hc3).2.1 (by decide) (by decide) k) ?_
        show Goes p e below s _ _ _ (s₁.setTop (mkF m 18 #[.val (.int i), .val (.int fr), .val (.int to), .val (.int y), .val (.int n)] []))
        refine Goes.st (fun t k => XS.iconst X0.here hx rfl (hb hby own_d_method_2_18) k) ?_
        show Goes p e below s _ _ _ (s₁.setTop (mkF m 19 #[.val (.int i), .val (.int fr), .val (.int to), .val (.int y), .val (.int n)] [(.int (0 : Int32))]))
        exact Goes.retO X0 hx hret hlk rfl (Or.inl ⟨rfl, Or.inl rfl, _, rfl⟩) (hb hby own_d_method_2_19) (by decide) (by decide) (⟨0, rfl, N0, e0, fun q => by simp only [own_lt] at *; omega, fun _ => rfl⟩)
    · refine Goes.st (fun t k => XS.icmpYes X0.here hx rfl (pc0 := 7) (pc' := 18) rfl (hb hby own_d_method_2_7) rfl (flt hc2).2.1 (by decide) (by decide) k) ?_
      show Goes p e below s _ _ _ (s₁.setTop (mkF m 18 #[.val (.int i), .val (.int fr), .val (.int to), .val (.int y), .val (.int n)] []))
      refine Goes.st (fun t k => XS.iconst X0.here hx rfl (hb hby own_d_method_2_18) k) ?_
      show Goes p e below s _ _ _ (s₁.setTop (mkF m 19 #[.val (.int i), .val (.int fr), .val (.int to), .val (.int y), .val (.int n)] [(.int (0 : Int32))]))
      exact Goes.retO X0 hx hret hlk rfl (Or.inl ⟨rfl, Or.inl rfl, _, rfl⟩) (hb hby own_d_method_2_19) (by decide) (by decide) (⟨0, rfl, N0, e0, fun q => by simp only [own_lt] at *; omega, fun _ => rfl⟩)
theorem own_rm0_ef (m : MethodId) (v0 : Int32) (v1 : Int32) (v2 : Int32) (v3 : Int32) (sh : Int32) (nu : Int32) : entryFrame m #[(.int v0), (.int v1), (.int v2), (.int v3), (.int sh), (.int nu)] maxLocals = mkF m 0 #[.val (.int v0), .val (.int v1), .val (.int v2), .val (.int v3), .val (.int sh), .val (.int nu), .unset, .unset, .unset, .unset, .unset, .unset, .unset, .unset, .unset, .unset, .unset, .unset, .unset, .unset, .unset, .unset, .unset] [] := by first | (simp [entryFrame, mkF, argsToLocals, Value.category, maxLocals]; done) | rfl
set_option maxRecDepth 65536 in
set_option maxHeartbeats 40000000 in
theorem own_rm0 (l : Launch) (Z : State) (a0 : Array Value) (hw : ∀ d ∈ tables_1, d.before a0 Z = true) (ws : List Jvm.Cond) (v0 v1 v2 v3 sh nu : Int32) (h0 : Heap) (n0 : Nat) (Z0 : n0 ≤ h0.size)  :
    MetFree l x (head1 (Jvm.Cond.code x code maxLocals ret :: ws) room_1) (fun aa_ U => aa_ = #[(.int v0), (.int v1), (.int v2), (.int v3), (.int sh), (.int nu)] ∧ Z.Warmed39 U.vm ∧ U.heap = h0) (fun _ _ _ _ _ => True) (fun _ U oo_ U' => ∃ vv_ LL_, oo_ = .returned vv_ ∧ own_Q0 Z  h0 n0 vv_ U'.heap LL_ ∧ FrameEnd U oo_ U' LL_ 1 4) := by
  refine MetFree.of_bodySF (plainFor_of_name own_pn56) hisR ?_
  intro p e s m args below meth c s₁ Bd hml0 hP hK
  obtain ⟨rfl, hZ, hh⟩ := hP
  have hx := Bd.exec
  have hby := Bd.bytes
  have hml : c.maxLocals = 23 := hml0
  have hown : s.vm.findClass "com/example/lockwright/lockwright/planning/ChainSpansAtLeastPinLaw" = some m.cls := findClass_of_methodNamed Bd.named
  have hnm := (name_of_methodNamed Bd.named Bd.method).1
  have hlk := Bd.notSynchronized
  have hret := Bd.returns
  have X0 : Stand p l e room_1 s m #[(.int v0), (.int v1), (.int v2), (.int v3), (.int sh), (.int nu)] below meth c s₁ [] 0 0 := Stand.of_body Bd
  have e0 : s₁.heap = h0 := by rw [← hh, Bd.state]; rfl
  have N0 := Fr.nil n0
  show Goes p e below s (own_Q0 Z  h0 n0) (1) (4) _
  refine Goes.cast (own_rm0_ef m v0 v1 v2 v3 sh nu) ?_
  show Goes p e below s _ _ _ (s₁.setTop (mkF m 0 #[.val (.int v0), .val (.int v1), .val (.int v2), .val (.int v3), .val (.int sh), .val (.int nu), .unset, .unset, .unset, .unset, .unset, .unset, .unset, .unset, .unset, .unset, .unset, .unset, .unset, .unset, .unset, .unset, .unset] []))
  refine Goes.st (fun t k => XS.iload X0.here hx rfl (hb hby at_0) rfl  k) ?_
  show Goes p e below s _ _ _ (s₁.setTop (mkF m 2 #[.val (.int v0), .val (.int v1), .val (.int v2), .val (.int v3), .val (.int sh), .val (.int nu), .unset, .unset, .unset, .unset, .unset, .unset, .unset, .unset, .unset, .unset, .unset, .unset, .unset, .unset, .unset, .unset, .unset] [(.int sh)]))
  refine Goes.st (fun t k => XS.bipush X0.here hx rfl (hb hby at_2) k) ?_
  show Goes p e below s _ _ _ (s₁.setTop (mkF m 4 #[.val (.int v0), .val (.int v1), .val (.int v2), .val (.int v3), .val (.int sh), .val (.int nu), .unset, .unset, .unset, .unset, .unset, .unset, .unset, .unset, .unset, .unset, .unset, .unset, .unset, .unset, .unset, .unset, .unset] [(.int (21 : Int32)), (.int sh)]))
  refine Goes.st (fun t k => XS.iushr X0.here hx rfl (hb hby at_4) rfl k) ?_
  show Goes p e below s _ _ _ (s₁.setTop (mkF m 5 #[.val (.int v0), .val (.int v1), .val (.int v2), .val (.int v3), .val (.int sh), .val (.int nu), .unset, .unset, .unset, .unset, .unset, .unset, .unset, .unset, .unset, .unset, .unset, .unset, .unset, .unset, .unset, .unset, .unset] [(.int ((sh.toUInt32 >>> ((21 : Int32) &&& 31).toUInt32).toInt32))]))
  refine Goes.st (fun t k => XS.iconst X0.here hx rfl (hb hby at_5) k) ?_
  show Goes p e below s _ _ _ (s₁.setTop (mkF m 6 #[.val (.int v0), .val (.int v1), .val (.int v2), .val (.int v3), .val (.int sh), .val (.int nu), .unset, .unset, .unset, .unset, .unset, .unset, .unset, .unset, .unset, .unset, .unset, .unset, .unset, .unset, .unset, .unset, .unset] [(.int (1 : Int32)), (.int ((sh.toUInt32 >>> ((21 : Int32) &&& 31).toUInt32).toInt32))]))
  refine Goes.st (fun t k => XS.iand X0.here hx rfl (hb hby at_6) rfl k) ?_
  show Goes p e below s _ _ _ (s₁.setTop (mkF m 7 #[.val (.int v0), .val (.int v1), .val (.int v2), .val (.int v3), .val (.int sh), .val (.int nu), .unset, .unset, .unset, .unset, .unset, .unset, .unset, .unset, .unset, .unset, .unset, .unset, .unset, .unset, .unset, .unset, .unset] [(.int (((sh.toUInt32 >>> ((21 : Int32) &&& 31).toUInt32).toInt32) &&& (1 : Int32)))]))
  have hj1 : ∀ w1 : Int32, Goes p e below s (own_Q0 Z h0 n0) (1) (4) (s₁.setTop (mkF m 15 #[.val (.int v0), .val (.int v1), .val (.int v2), .val (.int v3), .val (.int sh), .val (.int nu), .unset, .unset, .unset, .unset, .unset, .unset, .unset, .unset, .unset, .unset, .unset, .unset, .unset, .unset, .unset, .unset, .unset] [(.int w1)])) := by
    intro w1
    show Goes p e below s _ _ _ (s₁.setTop (mkF m 15 #[.val (.int v0), .val (.int v1), .val (.int v2), .val (.int v3), .val (.int sh), .val (.int nu), .unset, .unset, .unset, .unset, .unset, .unset, .unset, .unset, .unset, .unset, .unset, .unset, .unset, .unset, .unset, .unset, .unset] [(.int w1)]))
    refine Goes.st (fun t k => XS.istore X0.here hx rfl (hb hby at_15) rfl  (l' := #[.val (.int v0), .val (.int v1), .val (.int v2), .val (.int v3), .val (.int sh), .val (.int nu), .val (.int w1), .unset, .unset, .unset, .unset, .unset, .unset, .unset, .unset, .unset, .unset, .unset, .unset, .unset, .unset, .unset, .unset]) rfl k) ?_
    show Goes p e below s _ _ _ (s₁.setTop (mkF m 17 #[.val (.int v0), .val (.int v1), .val (.int v2), .val (.int v3), .val (.int sh), .val (.int nu), .val (.int w1), .unset, .unset, .unset, .unset, .unset, .unset, .unset, .unset, .unset, .unset, .unset, .unset, .unset, .unset, .unset, .unset] []))
    refine Goes.st (fun t k => XS.iloadN X0.here hx rfl (hb hby at_17) rfl  k) ?_
    show Goes p e below s _ _ _ (s₁.setTop (mkF m 18 #[.val (.int v0), .val (.int v1), .val (.int v2), .val (.int v3), .val (.int sh), .val (.int nu), .val (.int w1), .unset, .unset, .unset, .unset, .unset, .unset, .unset, .unset, .unset, .unset, .unset, .unset, .unset, .unset, .unset, .unset] [(.int v0)]))
    refine Goes.st (fun t k => XS.iload X0.here hx rfl (hb hby at_18) rfl  k) ?_
    show Goes p e below s _ _ _ (s₁.setTop (mkF m 20 #[.val (.int v0), .val (.int v1), .val (.int v2), .val (.int v3), .val (.int sh), .val (.int nu), .val (.int w1), .unset, .unset, .unset, .unset, .unset, .unset, .unset, .unset, .unset, .unset, .unset, .unset, .unset, .unset, .unset, .unset] [(.int w1), (.int v0)]))
    obtain ⟨_, _, ⟨T2, L2, k2, n2⟩, -, X2, ⟨Lc2, hQ2, l2, y2, z2⟩, st2⟩ := Jvm.LawKit.callS X0 hx (y := (⟨"java/lang/Math", "min", "(II)I"⟩ : MethodName)) hown (mvT hZ (hw _ (List.mem_of_getElem? (i := 0) rfl))) (mvT hZ (hw _ (List.mem_of_getElem? (i := 1) rfl))) (mvT hZ (hw _ (List.mem_of_getElem? (i := 2) rfl))) (mvT hZ (hw _ (List.mem_of_getElem? (i := 3) rfl))) (by decide) (backOf (W := 0) (own_rmMin l Z a0 hw [] v0 w1 h0 n0 Z0 ) hZ (hw _ (List.mem_of_getElem? (i := 3) rfl)) (hw _ (List.mem_of_getElem? (i := 2) rfl)) (by decide) (by decide)) (g := (mkF m 20 #[.val (.int v0), .val (.int v1), .val (.int v2), .val (.int v3), .val (.int sh), .val (.int nu), .val (.int w1), .unset, .unset, .unset, .unset, .unset, .unset, .unset, .unset, .unset, .unset, .unset, .unset, .unset, .unset, .unset, .unset] [(.int w1), (.int v0)])) rfl (by rw [hml]; rfl) (argsL := [(.int v0), (.int w1)]) (rest := []) (lenOf own_pd57 rfl) rfl (by show 2 * 0 + _ ≤ _; exact Nat.le_of_eq rfl) (hb hby at_20) (fun _ _ => ⟨rfl, e0, (by decide : 0 + 0 ≤ _), (by decide : 0 + 0 ≤ _)⟩)
    dsimp only [Pt.U, Pt.locs, Pt.cells, Pt.slots] at X2 l2 y2 z2 st2 hQ2
    subst l2 y2 z2
    obtain ⟨ma, rfl, N2q, EQ0, hr_ma⟩ := hQ2
    have N2 := Fr.app N0 N2q
    refine Goes.st st2 ?_
    show Goes p e below s _ _ _ (T2.setTop (mkF m 23 #[.val (.int v0), .val (.int v1), .val (.int v2), .val (.int v3), .val (.int sh), .val (.int nu), .val (.int w1), .unset, .unset, .unset, .unset, .unset, .unset, .unset, .unset, .unset, .unset, .unset, .unset, .unset, .unset, .unset, .unset] [(.int ma)]))
    refine Goes.st (fun t k => XS.istore X2.here hx rfl (hb hby at_23) rfl  (l' := #[.val (.int v0), .val (.int v1), .val (.int v2), .val (.int v3), .val (.int sh), .val (.int nu), .val (.int w1), .val (.int ma), .unset, .unset, .unset, .unset, .unset, .unset, .unset, .unset, .unset, .unset, .unset, .unset, .unset, .unset, .unset]) rfl k) ?_
    show Goes p e below s _ _ _ (T2.setTop (mkF m 25 #[.val (.int v0), .val (.int v1), .val (.int v2), .val (.int v3), .val (.int sh), .val (.int nu), .val (.int w1), .val (.int ma), .unset, .unset, .unset, .unset, .unset, .unset, .unset, .unset, .unset, .unset, .unset, .unset, .unset, .unset, .unset] []))
    refine Goes.st (fun t k => XS.iloadN X2.here hx rfl (hb hby at_25) rfl  k) ?_
    show Goes p e below s _ _ _ (T2.setTop (mkF m 26 #[.val (.int v0), .val (.int v1), .val (.int v2), .val (.int v3), .val (.int sh), .val (.int nu), .val (.int w1), .val (.int ma), .unset, .unset, .unset, .unset, .unset, .unset, .unset, .unset, .unset, .unset, .unset, .unset, .unset, .unset, .unset] [(.int v0)]))
    refine Goes.st (fun t k => XS.iload X2.here hx rfl (hb hby at_26) rfl  k) ?_
    show Goes p e below s _ _ _ (T2.setTop (mkF m 28 #[.val (.int v0), .val (.int v1), .val (.int v2), .val (.int v3), .val (.int sh), .val (.int nu), .val (.int w1), .val (.int ma), .unset, .unset, .unset, .unset, .unset, .unset, .unset, .unset, .unset, .unset, .unset, .unset, .unset, .unset, .unset] [(.int w1), (.int v0)]))
    obtain ⟨_, _, ⟨T3, L3, k3, n3⟩, -, X3, ⟨Lc3, hQ3, l3, y3, z3⟩, st3⟩ := Jvm.LawKit.callS X2 hx (y := (⟨"java/lang/Math", "max", "(II)I"⟩ : MethodName)) hown (mvT hZ (hw _ (List.mem_of_getElem? (i := 4) rfl))) (mvT hZ (hw _ (List.mem_of_getElem? (i := 5) rfl))) (mvT hZ (hw _ (List.mem_of_getElem? (i := 2) rfl))) (mvT hZ (hw _ (List.mem_of_getElem? (i := 6) rfl))) (by decide) (backOf (W := 0) (own_rmMax l Z a0 hw [] v0 w1 h0 n0 Z0 ) hZ (hw _ (List.mem_of_getElem? (i := 6) rfl)) (hw _ (List.mem_of_getElem? (i := 2) rfl)) (by decide) (by decide)) (g := (mkF m 28 #[.val (.int v0), .val (.int v1), .val (.int v2), .val (.int v3), .val (.int sh), .val (.int nu), .val (.int w1), .val (.int ma), .unset, .unset, .unset, .unset, .unset, .unset, .unset, .unset, .unset, .unset, .unset, .unset, .unset, .unset, .unset] [(.int w1), (.int v0)])) rfl (by rw [hml]; rfl) (argsL := [(.int v0), (.int w1)]) (rest := []) (lenOf own_pd57 rfl) rfl (by show 2 * 0 + _ ≤ _; exact Nat.le_of_eq rfl) (hb hby at_28) (fun _ _ => ⟨rfl, EQ0, (by decide : 0 + 0 ≤ _), (by decide : 0 + 0 ≤ _)⟩)
    dsimp only [Pt.U, Pt.locs, Pt.cells, Pt.slots] at X3 l3 y3 z3 st3 hQ3
    subst l3 y3 z3
    obtain ⟨mb, rfl, N3q, EQ1, hr_mb⟩ := hQ3
    have N3 := Fr.app N2 N3q
    refine Goes.st st3 ?_
    show Goes p e below s _ _ _ (T3.setTop (mkF m 31 #[.val (.int v0), .val (.int v1), .val (.int v2), .val (.int v3), .val (.int sh), .val (.int nu), .val (.int w1), .val (.int ma), .unset, .unset, .unset, .unset, .unset, .unset, .unset, .unset, .unset, .unset, .unset, .unset, .unset, .unset, .unset] [(.int mb)]))
    refine Goes.st (fun t k => XS.istore X3.here hx rfl (hb hby at_31) rfl  (l' := #[.val (.int v0), .val (.int v1), .val (.int v2), .val (.int v3), .val (.int sh), .val (.int nu), .val (.int w1), .val (.int ma), .val (.int mb), .unset, .unset, .unset, .unset, .unset, .unset, .unset, .unset, .unset, .unset, .unset, .unset, .unset, .unset]) rfl k) ?_
    show Goes p e below s _ _ _ (T3.setTop (mkF m 33 #[.val (.int v0), .val (.int v1), .val (.int v2), .val (.int v3), .val (.int sh), .val (.int nu), .val (.int w1), .val (.int ma), .val (.int mb), .unset, .unset, .unset, .unset, .unset, .unset, .unset, .unset, .unset, .unset, .unset, .unset, .unset, .unset] []))
    refine Goes.st (fun t k => XS.iloadN X3.here hx rfl (hb hby at_33) rfl  k) ?_
    show Goes p e below s _ _ _ (T3.setTop (mkF m 34 #[.val (.int v0), .val (.int v1), .val (.int v2), .val (.int v3), .val (.int sh), .val (.int nu), .val (.int w1), .val (.int ma), .val (.int mb), .unset, .unset, .unset, .unset, .unset, .unset, .unset, .unset, .unset, .unset, .unset, .unset, .unset, .unset] [(.int v2)]))
    refine Goes.st (fun t k => XS.iloadN X3.here hx rfl (hb hby at_34) rfl  k) ?_
    show Goes p e below s _ _ _ (T3.setTop (mkF m 35 #[.val (.int v0), .val (.int v1), .val (.int v2), .val (.int v3), .val (.int sh), .val (.int nu), .val (.int w1), .val (.int ma), .val (.int mb), .unset, .unset, .unset, .unset, .unset, .unset, .unset, .unset, .unset, .unset, .unset, .unset, .unset, .unset] [(.int v3), (.int v2)]))
    obtain ⟨_, _, ⟨T4, L4, k4, n4⟩, -, X4, ⟨Lc4, hQ4, l4, y4, z4⟩, st4⟩ := Jvm.LawKit.callS X3 hx (y := (⟨"java/lang/Math", "min", "(II)I"⟩ : MethodName)) hown (mvT hZ (hw _ (List.mem_of_getElem? (i := 0) rfl))) (mvT hZ (hw _ (List.mem_of_getElem? (i := 1) rfl))) (mvT hZ (hw _ (List.mem_of_getElem? (i := 2) rfl))) (mvT hZ (hw _ (List.mem_of_getElem? (i := 3) rfl))) (by decide) (backOf (W := 0) (own_rmMin l Z a0 hw [] v2 v3 h0 n0 Z0 ) hZ (hw _ (List.mem_of_getElem? (i := 3) rfl)) (hw _ (List.mem_of_getElem? (i := 2) rfl)) (by decide) (by decide)) (g := (mkF m 35 #[.val (.int v0), .val (.int v1), .val (.int v2), .val (.int v3), .val (.int sh), .val (.int nu), .val (.int w1), .val (.int ma), .val (.int mb), .unset, .unset, .unset, .unset, .unset, .unset, .unset, .unset, .unset, .unset, .unset, .unset, .unset, .unset] [(.int v3), (.int v2)])) rfl (by rw [hml]; rfl) (argsL := [(.int v2), (.int v3)]) (rest := []) (lenOf own_pd57 rfl) rfl (by show 2 * 0 + _ ≤ _; exact Nat.le_of_eq rfl) (hb hby at_35) (fun _ _ => ⟨rfl, EQ1, (by decide : 0 + 0 ≤ _), (by decide : 0 + 0 ≤ _)⟩)
    dsimp only [Pt.U, Pt.locs, Pt.cells, Pt.slots] at X4 l4 y4 z4 st4 hQ4
    subst l4 y4 z4
    obtain ⟨mc, rfl, N4q, EQ2, hr_mc⟩ := hQ4
    have N4 := Fr.app N3 N4q
    refine Goes.st st4 ?_
    show Goes p e below s _ _ _ (T4.setTop (mkF m 38 #[.val (.int v0), .val (.int v1), .val (.int v2), .val (.int v3), .val (.int sh), .val (.int nu), .val (.int w1), .val (.int ma), .val (.int mb), .unset, .unset, .unset, .unset, .unset, .unset, .unset, .unset, .unset, .unset, .unset, .unset, .unset, .unset] [(.int mc)]))
    refine Goes.st (fun t k => XS.istore X4.here hx rfl (hb hby at_38) rfl  (l' := #[.val (.int v0), .val (.int v1), .val (.int v2), .val (.int v3), .val (.int sh), .val (.int nu), .val (.int w1), .val (.int ma), .val (.int mb), .val (.int mc), .unset, .unset, .unset, .unset, .unset, .unset, .unset, .unset, .unset, .unset, .unset, .unset, .unset]) rfl k) ?_
    show Goes p e below s _ _ _ (T4.setTop (mkF m 40 #[.val (.int v0), .val (.int v1), .val (.int v2), .val (.int v3), .val (.int sh), .val (.int nu), .val (.int w1), .val (.int ma), .val (.int mb), .val (.int mc), .unset, .unset, .unset, .unset, .unset, .unset, .unset, .unset, .unset, .unset, .unset, .unset, .unset] []))
    refine Goes.st (fun t k => XS.iloadN X4.here hx rfl (hb hby at_40) rfl  k) ?_
    show Goes p e below s _ _ _ (T4.setTop (mkF m 41 #[.val (.int v0), .val (.int v1), .val (.int v2), .val (.int v3), .val (.int sh), .val (.int nu), .val (.int w1), .val (.int ma), .val (.int mb), .val (.int mc), .unset, .unset, .unset, .unset, .unset, .unset, .unset, .unset, .unset, .unset, .unset, .unset, .unset] [(.int v2)]))
    refine Goes.st (fun t k => XS.iloadN X4.here hx rfl (hb hby at_41) rfl  k) ?_
    show Goes p e below s _ _ _ (T4.setTop (mkF m 42 #[.val (.int v0), .val (.int v1), .val (.int v2), .val (.int v3), .val (.int sh), .val (.int nu), .val (.int w1), .val (.int ma), .val (.int mb), .val (.int mc), .unset, .unset, .unset, .unset, .unset, .unset, .unset, .unset, .unset, .unset, .unset, .unset, .unset] [(.int v3), (.int v2)]))
    obtain ⟨_, _, ⟨T5, L5, k5, n5⟩, -, X5, ⟨Lc5, hQ5, l5, y5, z5⟩, st5⟩ := Jvm.LawKit.callS X4 hx (y := (⟨"java/lang/Math", "max", "(II)I"⟩ : MethodName)) hown (mvT hZ (hw _ (List.mem_of_getElem? (i := 4) rfl))) (mvT hZ (hw _ (List.mem_of_getElem? (i := 5) rfl))) (mvT hZ (hw _ (List.mem_of_getElem? (i := 2) rfl))) (mvT hZ (hw _ (List.mem_of_getElem? (i := 6) rfl))) (by decide) (backOf (W := 0) (own_rmMax l Z a0 hw [] v2 v3 h0 n0 Z0 ) hZ (hw _ (List.mem_of_getElem? (i := 6) rfl)) (hw _ (List.mem_of_getElem? (i := 2) rfl)) (by decide) (by decide)) (g := (mkF m 42 #[.val (.int v0), .val (.int v1), .val (.int v2), .val (.int v3), .val (.int sh), .val (.int nu), .val (.int w1), .val (.int ma), .val (.int mb), .val (.int mc), .unset, .unset, .unset, .unset, .unset, .unset, .unset, .unset, .unset, .unset, .unset, .unset, .unset] [(.int v3), (.int v2)])) rfl (by rw [hml]; rfl) (argsL := [(.int v2), (.int v3)]) (rest := []) (lenOf own_pd57 rfl) rfl (by show 2 * 0 + _ ≤ _; exact Nat.le_of_eq rfl) (hb hby at_42) (fun _ _ => ⟨rfl, EQ2, (by decide : 0 + 0 ≤ _), (by decide : 0 + 0 ≤ _)⟩)
    dsimp only [Pt.U, Pt.locs, Pt.cells, Pt.slots] at X5 l5 y5 z5 st5 hQ5
    subst l5 y5 z5
    obtain ⟨md, rfl, N5q, EQ3, hr_md⟩ := hQ5
    have N5 := Fr.app N4 N5q
    refine Goes.st st5 ?_
    show Goes p e below s _ _ _ (T5.setTop (mkF m 45 #[.val (.int v0), .val (.int v1), .val (.int v2), .val (.int v3), .val (.int sh), .val (.int nu), .val (.int w1), .val (.int ma), .val (.int mb), .val (.int mc), .unset, .unset, .unset, .unset, .unset, .unset, .unset, .unset, .unset, .unset, .unset, .unset, .unset] [(.int md)]))
    refine Goes.st (fun t k => XS.istore X5.here hx rfl (hb hby at_45) rfl  (l' := #[.val (.int v0), .val (.int v1), .val (.int v2), .val (.int v3), .val (.int sh), .val (.int nu), .val (.int w1), .val (.int ma), .val (.int mb), .val (.int mc), .val (.int md), .unset, .unset, .unset, .unset, .unset, .unset, .unset, .unset, .unset, .unset, .unset, .unset]) rfl k) ?_
    show Goes p e below s _ _ _ (T5.setTop (mkF m 47 #[.val (.int v0), .val (.int v1), .val (.int v2), .val (.int v3), .val (.int sh), .val (.int nu), .val (.int w1), .val (.int ma), .val (.int mb), .val (.int mc), .val (.int md), .unset, .unset, .unset, .unset, .unset, .unset, .unset, .unset, .unset, .unset, .unset, .unset] []))
    refine Goes.st (fun t k => XS.iload X5.here hx rfl (hb hby at_47) rfl  k) ?_
    show Goes p e below s _ _ _ (T5.setTop (mkF m 49 #[.val (.int v0), .val (.int v1), .val (.int v2), .val (.int v3), .val (.int sh), .val (.int nu), .val (.int w1), .val (.int ma), .val (.int mb), .val (.int mc), .val (.int md), .unset, .unset, .unset, .unset, .unset, .unset, .unset, .unset, .unset, .unset, .unset, .unset] [(.int ma)]))
    refine Goes.st (fun t k => XS.iload X5.here hx rfl (hb hby at_49) rfl  k) ?_
    show Goes p e below s _ _ _ (T5.setTop (mkF m 51 #[.val (.int v0), .val (.int v1), .val (.int v2), .val (.int v3), .val (.int sh), .val (.int nu), .val (.int w1), .val (.int ma), .val (.int mb), .val (.int mc), .val (.int md), .unset, .unset, .unset, .unset, .unset, .unset, .unset, .unset, .unset, .unset, .unset, .unset] [(.int mc), (.int ma)]))
    obtain ⟨_, _, ⟨T6, L6, k6, n6⟩, -, X6, ⟨Lc6, hQ6, l6, y6, z6⟩, st6⟩ := Jvm.LawKit.callS X5 hx (y := (⟨"java/lang/Math", "min", "(II)I"⟩ : MethodName)) hown (mvT hZ (hw _ (List.mem_of_getElem? (i := 0) rfl))) (mvT hZ (hw _ (List.mem_of_getElem? (i := 1) rfl))) (mvT hZ (hw _ (List.mem_of_getElem? (i := 2) rfl))) (mvT hZ (hw _ (List.mem_of_getElem? (i := 3) rfl))) (by decide) (backOf (W := 0) (own_rmMin l Z a0 hw [] ma mc h0 n0 Z0 ) hZ (hw _ (List.mem_of_getElem? (i := 3) rfl)) (hw _ (List.mem_of_getElem? (i := 2) rfl)) (by decide) (by decide)) (g := (mkF m 51 #[.val (.int v0), .val (.int v1), .val (.int v2), .val (.int v3), .val (.int sh), .val (.int nu), .val (.int w1), .val (.int ma), .val (.int mb), .val (.int mc), .val (.int md), .unset, .unset, .unset, .unset, .unset, .unset, .unset, .unset, .unset, .unset, .unset, .unset] [(.int mc), (.int ma)])) rfl (by rw [hml]; rfl) (argsL := [(.int ma), (.int mc)]) (rest := []) (lenOf own_pd57 rfl) rfl (by show 2 * 0 + _ ≤ _; exact Nat.le_of_eq rfl) (hb hby at_51) (fun _ _ => ⟨rfl, EQ3, (by decide : 0 + 0 ≤ _), (by decide : 0 + 0 ≤ _)⟩)
    dsimp only [Pt.U, Pt.locs, Pt.cells, Pt.slots] at X6 l6 y6 z6 st6 hQ6
    subst l6 y6 z6
    obtain ⟨s0, rfl, N6q, EQ4, hr_s0⟩ := hQ6
    have N6 := Fr.app N5 N6q
    refine Goes.st st6 ?_
    show Goes p e below s _ _ _ (T6.setTop (mkF m 54 #[.val (.int v0), .val (.int v1), .val (.int v2), .val (.int v3), .val (.int sh), .val (.int nu), .val (.int w1), .val (.int ma), .val (.int mb), .val (.int mc), .val (.int md), .unset, .unset, .unset, .unset, .unset, .unset, .unset, .unset, .unset, .unset, .unset, .unset] [(.int s0)]))
    refine Goes.st (fun t k => XS.istore X6.here hx rfl (hb hby at_54) rfl  (l' := #[.val (.int v0), .val (.int v1), .val (.int v2), .val (.int v3), .val (.int sh), .val (.int nu), .val (.int w1), .val (.int ma), .val (.int mb), .val (.int mc), .val (.int md), .val (.int s0), .unset, .unset, .unset, .unset, .unset, .unset, .unset, .unset, .unset, .unset, .unset]) rfl k) ?_
    show Goes p e below s _ _ _ (T6.setTop (mkF m 56 #[.val (.int v0), .val (.int v1), .val (.int v2), .val (.int v3), .val (.int sh), .val (.int nu), .val (.int w1), .val (.int ma), .val (.int mb), .val (.int mc), .val (.int md), .val (.int s0), .unset, .unset, .unset, .unset, .unset, .unset, .unset, .unset, .unset, .unset, .unset] []))
    refine Goes.st (fun t k => XS.iload X6.here hx rfl (hb hby at_56) rfl  k) ?_
    show Goes p e below s _ _ _ (T6.setTop (mkF m 58 #[.val (.int v0), .val (.int v1), .val (.int v2), .val (.int v3), .val (.int sh), .val (.int nu), .val (.int w1), .val (.int ma), .val (.int mb), .val (.int mc), .val (.int md), .val (.int s0), .unset, .unset, .unset, .unset, .unset, .unset, .unset, .unset, .unset, .unset, .unset] [(.int ma)]))
    refine Goes.st (fun t k => XS.iload X6.here hx rfl (hb hby at_58) rfl  k) ?_
    show Goes p e below s _ _ _ (T6.setTop (mkF m 60 #[.val (.int v0), .val (.int v1), .val (.int v2), .val (.int v3), .val (.int sh), .val (.int nu), .val (.int w1), .val (.int ma), .val (.int mb), .val (.int mc), .val (.int md), .val (.int s0), .unset, .unset, .unset, .unset, .unset, .unset, .unset, .unset, .unset, .unset, .unset] [(.int mc), (.int ma)]))
    obtain ⟨_, _, ⟨T7, L7, k7, n7⟩, -, X7, ⟨Lc7, hQ7, l7, y7, z7⟩, st7⟩ := Jvm.LawKit.callS X6 hx (y := (⟨"java/lang/Math", "max", "(II)I"⟩ : MethodName)) hown (mvT hZ (hw _ (List.mem_of_getElem? (i := 4) rfl))) (mvT hZ (hw _ (List.mem_of_getElem? (i := 5) rfl))) (mvT hZ (hw _ (List.mem_of_getElem? (i := 2) rfl))) (mvT hZ (hw _ (List.mem_of_getElem? (i := 6) rfl))) (by decide) (backOf (W := 0) (own_rmMax l Z a0 hw [] ma mc h0 n0 Z0 ) hZ (hw _ (List.mem_of_getElem? (i := 6) rfl)) (hw _ (List.mem_of_getElem? (i := 2) rfl)) (by decide) (by decide)) (g := (mkF m 60 #[.val (.int v0), .val (.int v1), .val (.int v2), .val (.int v3), .val (.int sh), .val (.int nu), .val (.int w1), .val (.int ma), .val (.int mb), .val (.int mc), .val (.int md), .val (.int s0), .unset, .unset, .unset, .unset, .unset, .unset, .unset, .unset, .unset, .unset, .unset] [(.int mc), (.int ma)])) rfl (by rw [hml]; rfl) (argsL := [(.int ma), (.int mc)]) (rest := []) (lenOf own_pd57 rfl) rfl (by show 2 * 0 + _ ≤ _; exact Nat.le_of_eq rfl) (hb hby at_60) (fun _ _ => ⟨rfl, EQ4, (by decide : 0 + 0 ≤ _), (by decide : 0 + 0 ≤ _)⟩)
    dsimp only [Pt.U, Pt.locs, Pt.cells, Pt.slots] at X7 l7 y7 z7 st7 hQ7
    subst l7 y7 z7
    obtain ⟨hi0, rfl, N7q, EQ5, hr_hi0⟩ := hQ7
    have N7 := Fr.app N6 N7q
    refine Goes.st st7 ?_
    show Goes p e below s _ _ _ (T7.setTop (mkF m 63 #[.val (.int v0), .val (.int v1), .val (.int v2), .val (.int v3), .val (.int sh), .val (.int nu), .val (.int w1), .val (.int ma), .val (.int mb), .val (.int mc), .val (.int md), .val (.int s0), .unset, .unset, .unset, .unset, .unset, .unset, .unset, .unset, .unset, .unset, .unset] [(.int hi0)]))
    refine Goes.st (fun t k => XS.istore X7.here hx rfl (hb hby at_63) rfl  (l' := #[.val (.int v0), .val (.int v1), .val (.int v2), .val (.int v3), .val (.int sh), .val (.int nu), .val (.int w1), .val (.int ma), .val (.int mb), .val (.int mc), .val (.int md), .val (.int s0), .val (.int hi0), .unset, .unset, .unset, .unset, .unset, .unset, .unset, .unset, .unset, .unset]) rfl k) ?_
    show Goes p e below s _ _ _ (T7.setTop (mkF m 65 #[.val (.int v0), .val (.int v1), .val (.int v2), .val (.int v3), .val (.int sh), .val (.int nu), .val (.int w1), .val (.int ma), .val (.int mb), .val (.int mc), .val (.int md), .val (.int s0), .val (.int hi0), .unset, .unset, .unset, .unset, .unset, .unset, .unset, .unset, .unset, .unset] []))
    refine Goes.st (fun t k => XS.iload X7.here hx rfl (hb hby at_65) rfl  k) ?_
    show Goes p e below s _ _ _ (T7.setTop (mkF m 67 #[.val (.int v0), .val (.int v1), .val (.int v2), .val (.int v3), .val (.int sh), .val (.int nu), .val (.int w1), .val (.int ma), .val (.int mb), .val (.int mc), .val (.int md), .val (.int s0), .val (.int hi0), .unset, .unset, .unset, .unset, .unset, .unset, .unset, .unset, .unset, .unset] [(.int mb)]))
    refine Goes.st (fun t k => XS.iload X7.here hx rfl (hb hby at_67) rfl  k) ?_
    show Goes p e below s _ _ _ (T7.setTop (mkF m 69 #[.val (.int v0), .val (.int v1), .val (.int v2), .val (.int v3), .val (.int sh), .val (.int nu), .val (.int w1), .val (.int ma), .val (.int mb), .val (.int mc), .val (.int md), .val (.int s0), .val (.int hi0), .unset, .unset, .unset, .unset, .unset, .unset, .unset, .unset, .unset, .unset] [(.int md), (.int mb)]))
    obtain ⟨_, _, ⟨T8, L8, k8, n8⟩, -, X8, ⟨Lc8, hQ8, l8, y8, z8⟩, st8⟩ := Jvm.LawKit.callS X7 hx (y := (⟨"java/lang/Math", "min", "(II)I"⟩ : MethodName)) hown (mvT hZ (hw _ (List.mem_of_getElem? (i := 0) rfl))) (mvT hZ (hw _ (List.mem_of_getElem? (i := 1) rfl))) (mvT hZ (hw _ (List.mem_of_getElem? (i := 2) rfl))) (mvT hZ (hw _ (List.mem_of_getElem? (i := 3) rfl))) (by decide) (backOf (W := 0) (own_rmMin l Z a0 hw [] mb md h0 n0 Z0 ) hZ (hw _ (List.mem_of_getElem? (i := 3) rfl)) (hw _ (List.mem_of_getElem? (i := 2) rfl)) (by decide) (by decide)) (g := (mkF m 69 #[.val (.int v0), .val (.int v1), .val (.int v2), .val (.int v3), .val (.int sh), .val (.int nu), .val (.int w1), .val (.int ma), .val (.int mb), .val (.int mc), .val (.int md), .val (.int s0), .val (.int hi0), .unset, .unset, .unset, .unset, .unset, .unset, .unset, .unset, .unset, .unset] [(.int md), (.int mb)])) rfl (by rw [hml]; rfl) (argsL := [(.int mb), (.int md)]) (rest := []) (lenOf own_pd57 rfl) rfl (by show 2 * 0 + _ ≤ _; exact Nat.le_of_eq rfl) (hb hby at_69) (fun _ _ => ⟨rfl, EQ5, (by decide : 0 + 0 ≤ _), (by decide : 0 + 0 ≤ _)⟩)
    dsimp only [Pt.U, Pt.locs, Pt.cells, Pt.slots] at X8 l8 y8 z8 st8 hQ8
    subst l8 y8 z8
    obtain ⟨lo1, rfl, N8q, EQ6, hr_lo1⟩ := hQ8
    have N8 := Fr.app N7 N8q
    refine Goes.st st8 ?_
    show Goes p e below s _ _ _ (T8.setTop (mkF m 72 #[.val (.int v0), .val (.int v1), .val (.int v2), .val (.int v3), .val (.int sh), .val (.int nu), .val (.int w1), .val (.int ma), .val (.int mb), .val (.int mc), .val (.int md), .val (.int s0), .val (.int hi0), .unset, .unset, .unset, .unset, .unset, .unset, .unset, .unset, .unset, .unset] [(.int lo1)]))
    refine Goes.st (fun t k => XS.istore X8.here hx rfl (hb hby at_72) rfl  (l' := #[.val (.int v0), .val (.int v1), .val (.int v2), .val (.int v3), .val (.int sh), .val (.int nu), .val (.int w1), .val (.int ma), .val (.int mb), .val (.int mc), .val (.int md), .val (.int s0), .val (.int hi0), .val (.int lo1), .unset, .unset, .unset, .unset, .unset, .unset, .unset, .unset, .unset]) rfl k) ?_
    show Goes p e below s _ _ _ (T8.setTop (mkF m 74 #[.val (.int v0), .val (.int v1), .val (.int v2), .val (.int v3), .val (.int sh), .val (.int nu), .val (.int w1), .val (.int ma), .val (.int mb), .val (.int mc), .val (.int md), .val (.int s0), .val (.int hi0), .val (.int lo1), .unset, .unset, .unset, .unset, .unset, .unset, .unset, .unset, .unset] []))
    refine Goes.st (fun t k => XS.iload X8.here hx rfl (hb hby at_74) rfl  k) ?_
    show Goes p e below s _ _ _ (T8.setTop (mkF m 76 #[.val (.int v0), .val (.int v1), .val (.int v2), .val (.int v3), .val (.int sh), .val (.int nu), .val (.int w1), .val (.int ma), .val (.int mb), .val (.int mc), .val (.int md), .val (.int s0), .val (.int hi0), .val (.int lo1), .unset, .unset, .unset, .unset, .unset, .unset, .unset, .unset, .unset] [(.int mb)]))
    refine Goes.st (fun t k => XS.iload X8.here hx rfl (hb hby at_76) rfl  k) ?_
    show Goes p e below s _ _ _ (T8.setTop (mkF m 78 #[.val (.int v0), .val (.int v1), .val (.int v2), .val (.int v3), .val (.int sh), .val (.int nu), .val (.int w1), .val (.int ma), .val (.int mb), .val (.int mc), .val (.int md), .val (.int s0), .val (.int hi0), .val (.int lo1), .unset, .unset, .unset, .unset, .unset, .unset, .unset, .unset, .unset] [(.int md), (.int mb)]))
    obtain ⟨_, _, ⟨T9, L9, k9, n9⟩, -, X9, ⟨Lc9, hQ9, l9, y9, z9⟩, st9⟩ := Jvm.LawKit.callS X8 hx (y := (⟨"java/lang/Math", "max", "(II)I"⟩ : MethodName)) hown (mvT hZ (hw _ (List.mem_of_getElem? (i := 4) rfl))) (mvT hZ (hw _ (List.mem_of_getElem? (i := 5) rfl))) (mvT hZ (hw _ (List.mem_of_getElem? (i := 2) rfl))) (mvT hZ (hw _ (List.mem_of_getElem? (i := 6) rfl))) (by decide) (backOf (W := 0) (own_rmMax l Z a0 hw [] mb md h0 n0 Z0 ) hZ (hw _ (List.mem_of_getElem? (i := 6) rfl)) (hw _ (List.mem_of_getElem? (i := 2) rfl)) (by decide) (by decide)) (g := (mkF m 78 #[.val (.int v0), .val (.int v1), .val (.int v2), .val (.int v3), .val (.int sh), .val (.int nu), .val (.int w1), .val (.int ma), .val (.int mb), .val (.int mc), .val (.int md), .val (.int s0), .val (.int hi0), .val (.int lo1), .unset, .unset, .unset, .unset, .unset, .unset, .unset, .unset, .unset] [(.int md), (.int mb)])) rfl (by rw [hml]; rfl) (argsL := [(.int mb), (.int md)]) (rest := []) (lenOf own_pd57 rfl) rfl (by show 2 * 0 + _ ≤ _; exact Nat.le_of_eq rfl) (hb hby at_78) (fun _ _ => ⟨rfl, EQ6, (by decide : 0 + 0 ≤ _), (by decide : 0 + 0 ≤ _)⟩)
    dsimp only [Pt.U, Pt.locs, Pt.cells, Pt.slots] at X9 l9 y9 z9 st9 hQ9
    subst l9 y9 z9
    obtain ⟨s3, rfl, N9q, EQ7, hr_s3⟩ := hQ9
    have N9 := Fr.app N8 N9q
    refine Goes.st st9 ?_
    show Goes p e below s _ _ _ (T9.setTop (mkF m 81 #[.val (.int v0), .val (.int v1), .val (.int v2), .val (.int v3), .val (.int sh), .val (.int nu), .val (.int w1), .val (.int ma), .val (.int mb), .val (.int mc), .val (.int md), .val (.int s0), .val (.int hi0), .val (.int lo1), .unset, .unset, .unset, .unset, .unset, .unset, .unset, .unset, .unset] [(.int s3)]))
    refine Goes.st (fun t k => XS.istore X9.here hx rfl (hb hby at_81) rfl  (l' := #[.val (.int v0), .val (.int v1), .val (.int v2), .val (.int v3), .val (.int sh), .val (.int nu), .val (.int w1), .val (.int ma), .val (.int mb), .val (.int mc), .val (.int md), .val (.int s0), .val (.int hi0), .val (.int lo1), .val (.int s3), .unset, .unset, .unset, .unset, .unset, .unset, .unset, .unset]) rfl k) ?_
    show Goes p e below s _ _ _ (T9.setTop (mkF m 83 #[.val (.int v0), .val (.int v1), .val (.int v2), .val (.int v3), .val (.int sh), .val (.int nu), .val (.int w1), .val (.int ma), .val (.int mb), .val (.int mc), .val (.int md), .val (.int s0), .val (.int hi0), .val (.int lo1), .val (.int s3), .unset, .unset, .unset, .unset, .unset, .unset, .unset, .unset] []))
    refine Goes.st (fun t k => XS.iload X9.here hx rfl (hb hby at_83) rfl  k) ?_
    show Goes p e below s _ _ _ (T9.setTop (mkF m 85 #[.val (.int v0), .val (.int v1), .val (.int v2), .val (.int v3), .val (.int sh), .val (.int nu), .val (.int w1), .val (.int ma), .val (.int mb), .val (.int mc), .val (.int md), .val (.int s0), .val (.int hi0), .val (.int lo1), .val (.int s3), .unset, .unset, .unset, .unset, .unset, .unset, .unset, .unset] [(.int hi0)]))
    refine Goes.st (fun t k => XS.iload X9.here hx rfl (hb hby at_85) rfl  k) ?_
    show Goes p e below s _ _ _ (T9.setTop (mkF m 87 #[.val (.int v0), .val (.int v1), .val (.int v2), .val (.int v3), .val (.int sh), .val (.int nu), .val (.int w1), .val (.int ma), .val (.int mb), .val (.int mc), .val (.int md), .val (.int s0), .val (.int hi0), .val (.int lo1), .val (.int s3), .unset, .unset, .unset, .unset, .unset, .unset, .unset, .unset] [(.int lo1), (.int hi0)]))
    obtain ⟨_, _, ⟨T10, L10, k10, n10⟩, -, X10, ⟨Lc10, hQ10, l10, y10, z10⟩, st10⟩ := Jvm.LawKit.callS X9 hx (y := (⟨"java/lang/Math", "min", "(II)I"⟩ : MethodName)) hown (mvT hZ (hw _ (List.mem_of_getElem? (i := 0) rfl))) (mvT hZ (hw _ (List.mem_of_getElem? (i := 1) rfl))) (mvT hZ (hw _ (List.mem_of_getElem? (i := 2) rfl))) (mvT hZ (hw _ (List.mem_of_getElem? (i := 3) rfl))) (by decide) (backOf (W := 0) (own_rmMin l Z a0 hw [] hi0 lo1 h0 n0 Z0 ) hZ (hw _ (List.mem_of_getElem? (i := 3) rfl)) (hw _ (List.mem_of_getElem? (i := 2) rfl)) (by decide) (by decide)) (g := (mkF m 87 #[.val (.int v0), .val (.int v1), .val (.int v2), .val (.int v3), .val (.int sh), .val (.int nu), .val (.int w1), .val (.int ma), .val (.int mb), .val (.int mc), .val (.int md), .val (.int s0), .val (.int hi0), .val (.int lo1), .val (.int s3), .unset, .unset, .unset, .unset, .unset, .unset, .unset, .unset] [(.int lo1), (.int hi0)])) rfl (by rw [hml]; rfl) (argsL := [(.int hi0), (.int lo1)]) (rest := []) (lenOf own_pd57 rfl) rfl (by show 2 * 0 + _ ≤ _; exact Nat.le_of_eq rfl) (hb hby at_87) (fun _ _ => ⟨rfl, EQ7, (by decide : 0 + 0 ≤ _), (by decide : 0 + 0 ≤ _)⟩)
    dsimp only [Pt.U, Pt.locs, Pt.cells, Pt.slots] at X10 l10 y10 z10 st10 hQ10
    subst l10 y10 z10
    obtain ⟨s1, rfl, N10q, EQ8, hr_s1⟩ := hQ10
    have N10 := Fr.app N9 N10q
    refine Goes.st st10 ?_
    show Goes p e below s _ _ _ (T10.setTop (mkF m 90 #[.val (.int v0), .val (.int v1), .val (.int v2), .val (.int v3), .val (.int sh), .val (.int nu), .val (.int w1), .val (.int ma), .val (.int mb), .val (.int mc), .val (.int md), .val (.int s0), .val (.int hi0), .val (.int lo1), .val (.int s3), .unset, .unset, .unset, .unset, .unset, .unset, .unset, .unset] [(.int s1)]))
    refine Goes.st (fun t k => XS.istore X10.here hx rfl (hb hby at_90) rfl  (l' := #[.val (.int v0), .val (.int v1), .val (.int v2), .val (.int v3), .val (.int sh), .val (.int nu), .val (.int w1), .val (.int ma), .val (.int mb), .val (.int mc), .val (.int md), .val (.int s0), .val (.int hi0), .val (.int lo1), .val (.int s3), .val (.int s1), .unset, .unset, .unset, .unset, .unset, .unset, .unset]) rfl k) ?_
    show Goes p e below s _ _ _ (T10.setTop (mkF m 92 #[.val (.int v0), .val (.int v1), .val (.int v2), .val (.int v3), .val (.int sh), .val (.int nu), .val (.int w1), .val (.int ma), .val (.int mb), .val (.int mc), .val (.int md), .val (.int s0), .val (.int hi0), .val (.int lo1), .val (.int s3), .val (.int s1), .unset, .unset, .unset, .unset, .unset, .unset, .unset] []))
    refine Goes.st (fun t k => XS.iload X10.here hx rfl (hb hby at_92) rfl  k) ?_
    show Goes p e below s _ _ _ (T10.setTop (mkF m 94 #[.val (.int v0), .val (.int v1), .val (.int v2), .val (.int v3), .val (.int sh), .val (.int nu), .val (.int w1), .val (.int ma), .val (.int mb), .val (.int mc), .val (.int md), .val (.int s0), .val (.int hi0), .val (.int lo1), .val (.int s3), .val (.int s1), .unset, .unset, .unset, .unset, .unset, .unset, .unset] [(.int hi0)]))
    refine Goes.st (fun t k => XS.iload X10.here hx rfl (hb hby at_94) rfl  k) ?_
    show Goes p e below s _ _ _ (T10.setTop (mkF m 96 #[.val (.int v0), .val (.int v1), .val (.int v2), .val (.int v3), .val (.int sh), .val (.int nu), .val (.int w1), .val (.int ma), .val (.int mb), .val (.int mc), .val (.int md), .val (.int s0), .val (.int hi0), .val (.int lo1), .val (.int s3), .val (.int s1), .unset, .unset, .unset, .unset, .unset, .unset, .unset] [(.int lo1), (.int hi0)]))
    obtain ⟨_, _, ⟨T11, L11, k11, n11⟩, -, X11, ⟨Lc11, hQ11, l11, y11, z11⟩, st11⟩ := Jvm.LawKit.callS X10 hx (y := (⟨"java/lang/Math", "max", "(II)I"⟩ : MethodName)) hown (mvT hZ (hw _ (List.mem_of_getElem? (i := 4) rfl))) (mvT hZ (hw _ (List.mem_of_getElem? (i := 5) rfl))) (mvT hZ (hw _ (List.mem_of_getElem? (i := 2) rfl))) (mvT hZ (hw _ (List.mem_of_getElem? (i := 6) rfl))) (by decide) (backOf (W := 0) (own_rmMax l Z a0 hw [] hi0 lo1 h0 n0 Z0 ) hZ (hw _ (List.mem_of_getElem? (i := 6) rfl)) (hw _ (List.mem_of_getElem? (i := 2) rfl)) (by decide) (by decide)) (g := (mkF m 96 #[.val (.int v0), .val (.int v1), .val (.int v2), .val (.int v3), .val (.int sh), .val (.int nu), .val (.int w1), .val (.int ma), .val (.int mb), .val (.int mc), .val (.int md), .val (.int s0), .val (.int hi0), .val (.int lo1), .val (.int s3), .val (.int s1), .unset, .unset, .unset, .unset, .unset, .unset, .unset] [(.int lo1), (.int hi0)])) rfl (by rw [hml]; rfl) (argsL := [(.int hi0), (.int lo1)]) (rest := []) (lenOf own_pd57 rfl) rfl (by show 2 * 0 + _ ≤ _; exact Nat.le_of_eq rfl) (hb hby at_96) (fun _ _ => ⟨rfl, EQ8, (by decide : 0 + 0 ≤ _), (by decide : 0 + 0 ≤ _)⟩)
    dsimp only [Pt.U, Pt.locs, Pt.cells, Pt.slots] at X11 l11 y11 z11 st11 hQ11
    subst l11 y11 z11
    obtain ⟨s2, rfl, N11q, EQ9, hr_s2⟩ := hQ11
    have N11 := Fr.app N10 N11q
    refine Goes.st st11 ?_
    have hs : s0.toInt ≤ s1.toInt ∧ s1.toInt ≤ s2.toInt ∧ s2.toInt ≤ s3.toInt := by omega
    clear hr_ma hr_mb hr_mc hr_md hr_s0 hr_hi0 hr_lo1 hr_s3 hr_s1 hr_s2
    show Goes p e below s _ _ _ (T11.setTop (mkF m 99 #[.val (.int v0), .val (.int v1), .val (.int v2), .val (.int v3), .val (.int sh), .val (.int nu), .val (.int w1), .val (.int ma), .val (.int mb), .val (.int mc), .val (.int md), .val (.int s0), .val (.int hi0), .val (.int lo1), .val (.int s3), .val (.int s1), .unset, .unset, .unset, .unset, .unset, .unset, .unset] [(.int s2)]))
    refine Goes.st (fun t k => XS.istore X11.here hx rfl (hb hby at_99) rfl  (l' := #[.val (.int v0), .val (.int v1), .val (.int v2), .val (.int v3), .val (.int sh), .val (.int nu), .val (.int w1), .val (.int ma), .val (.int mb), .val (.int mc), .val (.int md), .val (.int s0), .val (.int hi0), .val (.int lo1), .val (.int s3), .val (.int s1), .val (.int s2), .unset, .unset, .unset, .unset, .unset, .unset]) rfl k) ?_
    show Goes p e below s _ _ _ (T11.setTop (mkF m 101 #[.val (.int v0), .val (.int v1), .val (.int v2), .val (.int v3), .val (.int sh), .val (.int nu), .val (.int w1), .val (.int ma), .val (.int mb), .val (.int mc), .val (.int md), .val (.int s0), .val (.int hi0), .val (.int lo1), .val (.int s3), .val (.int s1), .val (.int s2), .unset, .unset, .unset, .unset, .unset, .unset] []))
    refine Goes.st (fun t k => XS.iconst X11.here hx rfl (hb hby at_101) k) ?_
    show Goes p e below s _ _ _ (T11.setTop (mkF m 102 #[.val (.int v0), .val (.int v1), .val (.int v2), .val (.int v3), .val (.int sh), .val (.int nu), .val (.int w1), .val (.int ma), .val (.int mb), .val (.int mc), .val (.int md), .val (.int s0), .val (.int hi0), .val (.int lo1), .val (.int s3), .val (.int s1), .val (.int s2), .unset, .unset, .unset, .unset, .unset, .unset] [(.int (4 : Int32))]))
    obtain ⟨T12, h12, k12, X12, e12, E12, A12, st12⟩ := newP X11 hx hZ (hw _ (List.mem_of_getElem? (i := 7) rfl)) EQ9 (g := (mkF m 102 #[.val (.int v0), .val (.int v1), .val (.int v2), .val (.int v3), .val (.int sh), .val (.int nu), .val (.int w1), .val (.int ma), .val (.int mb), .val (.int mc), .val (.int md), .val (.int s0), .val (.int hi0), .val (.int lo1), .val (.int s3), .val (.int s1), .val (.int s2), .unset, .unset, .unset, .unset, .unset, .unset] [(.int (4 : Int32))])) rfl (hb hby at_102) rfl (by decide) (cap := 4) (by decide) (by decide) (by decide) (by decide)
    obtain ⟨b12, g12⟩ : ∃ z, z = h0.size := ⟨_, rfl⟩
    rw [← g12] at A12 st12
    have gn_b12 : n0 ≤ b12 := Nat.le_trans Z0 (Nat.le_of_eq g12.symm)
    refine Goes.st st12 ?_
    have Z0' := Nat.le_trans Z0 E12.1
    have V_b12 : Arv Z h12 b12 k12 .int (4 : Int32) [(.int (0 : Int32)), (.int (0 : Int32)), (.int (0 : Int32)), (.int (0 : Int32))] (.int (0 : Int32)) := (Arv.new A12 (by decide)).pad (pad_rep [] (.int (0 : Int32)) 4)
    show Goes p e below s _ _ _ (T12.setTop (mkF m 104 #[.val (.int v0), .val (.int v1), .val (.int v2), .val (.int v3), .val (.int sh), .val (.int nu), .val (.int w1), .val (.int ma), .val (.int mb), .val (.int mc), .val (.int md), .val (.int s0), .val (.int hi0), .val (.int lo1), .val (.int s3), .val (.int s1), .val (.int s2), .unset, .unset, .unset, .unset, .unset, .unset] [(.ref b12)]))
    refine Goes.st (fun t k => XS.dup X12.here hx rfl (hb hby at_104) rfl rfl k) ?_
    show Goes p e below s _ _ _ (T12.setTop (mkF m 105 #[.val (.int v0), .val (.int v1), .val (.int v2), .val (.int v3), .val (.int sh), .val (.int nu), .val (.int w1), .val (.int ma), .val (.int mb), .val (.int mc), .val (.int md), .val (.int s0), .val (.int hi0), .val (.int lo1), .val (.int s3), .val (.int s1), .val (.int s2), .unset, .unset, .unset, .unset, .unset, .unset] [(.ref b12), (.ref b12)]))
    refine Goes.st (fun t k => XS.iconst X12.here hx rfl (hb hby at_105) k) ?_
    show Goes p e below s _ _ _ (T12.setTop (mkF m 106 #[.val (.int v0), .val (.int v1), .val (.int v2), .val (.int v3), .val (.int sh), .val (.int nu), .val (.int w1), .val (.int ma), .val (.int mb), .val (.int mc), .val (.int md), .val (.int s0), .val (.int hi0), .val (.int lo1), .val (.int s3), .val (.int s1), .val (.int s2), .unset, .unset, .unset, .unset, .unset, .unset] [(.int (0 : Int32)), (.ref b12), (.ref b12)]))
    refine Goes.st (fun t k => XS.iload X12.here hx rfl (hb hby at_106) rfl  k) ?_
    show Goes p e below s _ _ _ (T12.setTop (mkF m 108 #[.val (.int v0), .val (.int v1), .val (.int v2), .val (.int v3), .val (.int sh), .val (.int nu), .val (.int w1), .val (.int ma), .val (.int mb), .val (.int mc), .val (.int md), .val (.int s0), .val (.int hi0), .val (.int lo1), .val (.int s3), .val (.int s1), .val (.int s2), .unset, .unset, .unset, .unset, .unset, .unset] [(.int s0), (.int (0 : Int32)), (.ref b12), (.ref b12)]))
    obtain ⟨cl13, Ar13, q13, S13, M13, H13, G13⟩ := V_b12
    obtain ⟨T13, h13, X13, e13, W13, st13⟩ := stI X12 hx hZ e12 Ar13 (j := (0 : Int32)) (inb_of S13 ⟨by decide, by decide⟩) (g := (mkF m 108 #[.val (.int v0), .val (.int v1), .val (.int v2), .val (.int v3), .val (.int sh), .val (.int nu), .val (.int w1), .val (.int ma), .val (.int mb), .val (.int mc), .val (.int md), .val (.int s0), .val (.int hi0), .val (.int lo1), .val (.int s3), .val (.int s1), .val (.int s2), .unset, .unset, .unset, .unset, .unset, .unset] [(.int s0), (.int (0 : Int32)), (.ref b12), (.ref b12)])) rfl rfl (hb hby at_108)
    have V_b12 := Arv.set Ar13 q13 S13 M13 H13 G13 rfl W13 0 rfl (Nat.le_of_ble_eq_true rfl)
    refine Goes.st st13 ?_
    have V_b12 : Arv Z h13 b12 k12 .int (4 : Int32) [(.int s0), (.int (0 : Int32)), (.int (0 : Int32)), (.int (0 : Int32))] (.int (0 : Int32)) := V_b12
    have N13 := Fr.snoc X13 N11 gn_b12
    have Z0'' := Nat.le_trans Z0' (Keep.of_wr W13).1
    show Goes p e below s _ _ _ (T13.setTop (mkF m 109 #[.val (.int v0), .val (.int v1), .val (.int v2), .val (.int v3), .val (.int sh), .val (.int nu), .val (.int w1), .val (.int ma), .val (.int mb), .val (.int mc), .val (.int md), .val (.int s0), .val (.int hi0), .val (.int lo1), .val (.int s3), .val (.int s1), .val (.int s2), .unset, .unset, .unset, .unset, .unset, .unset] [(.ref b12)]))
    refine Goes.st (fun t k => XS.dup X13.here hx rfl (hb hby at_109) rfl rfl k) ?_
    show Goes p e below s _ _ _ (T13.setTop (mkF m 110 #[.val (.int v0), .val (.int v1), .val (.int v2), .val (.int v3), .val (.int sh), .val (.int nu), .val (.int w1), .val (.int ma), .val (.int mb), .val (.int mc), .val (.int md), .val (.int s0), .val (.int hi0), .val (.int lo1), .val (.int s3), .val (.int s1), .val (.int s2), .unset, .unset, .unset, .unset, .unset, .unset] [(.ref b12), (.ref b12)]))
    refine Goes.st (fun t k => XS.iconst X13.here hx rfl (hb hby at_110) k) ?_
    show Goes p e below s _ _ _ (T13.setTop (mkF m 111 #[.val (.int v0), .val (.int v1), .val (.int v2), .val (.int v3), .val (.int sh), .val (.int nu), .val (.int w1), .val (.int ma), .val (.int mb), .val (.int mc), .val (.int md), .val (.int s0), .val (.int hi0), .val (.int lo1), .val (.int s3), .val (.int s1), .val (.int s2), .unset, .unset, .unset, .unset, .unset, .unset] [(.int (1 : Int32)), (.ref b12), (.ref b12)]))
    refine Goes.st (fun t k => XS.iload X13.here hx rfl (hb hby at_111) rfl  k) ?_
    show Goes p e below s _ _ _ (T13.setTop (mkF m 113 #[.val (.int v0), .val (.int v1), .val (.int v2), .val (.int v3), .val (.int sh), .val (.int nu), .val (.int w1), .val (.int ma), .val (.int mb), .val (.int mc), .val (.int md), .val (.int s0), .val (.int hi0), .val (.int lo1), .val (.int s3), .val (.int s1), .val (.int s2), .unset, .unset, .unset, .unset, .unset, .unset] [(.int s1), (.int (1 : Int32)), (.ref b12), (.ref b12)]))
    obtain ⟨cl14, Ar14, q14, S14, M14, H14, G14⟩ := V_b12
    obtain ⟨T14, h14, X14, e14, W14, st14⟩ := stI X13 hx hZ e13 Ar14 (j := (1 : Int32)) (inb_of S14 ⟨by decide, by decide⟩) (g := (mkF m 113 #[.val (.int v0), .val (.int v1), .val (.int v2), .val (.int v3), .val (.int sh), .val (.int nu), .val (.int w1), .val (.int ma), .val (.int mb), .val (.int mc), .val (.int md), .val (.int s0), .val (.int hi0), .val (.int lo1), .val (.int s3), .val (.int s1), .val (.int s2), .unset, .unset, .unset, .unset, .unset, .unset] [(.int s1), (.int (1 : Int32)), (.ref b12), (.ref b12)])) rfl rfl (hb hby at_113)
    have V_b12 := Arv.set Ar14 q14 S14 M14 H14 G14 rfl W14 1 rfl (Nat.le_of_ble_eq_true rfl)
    refine Goes.st st14 ?_
    have V_b12 : Arv Z h14 b12 k12 .int (4 : Int32) [(.int s0), (.int s1), (.int (0 : Int32)), (.int (0 : Int32))] (.int (0 : Int32)) := V_b12
    have N14 := Fr.snoc X14 N13 gn_b12
    have Z0''' := Nat.le_trans Z0'' (Keep.of_wr W14).1
    show Goes p e below s _ _ _ (T14.setTop (mkF m 114 #[.val (.int v0), .val (.int v1), .val (.int v2), .val (.int v3), .val (.int sh), .val (.int nu), .val (.int w1), .val (.int ma), .val (.int mb), .val (.int mc), .val (.int md), .val (.int s0), .val (.int hi0), .val (.int lo1), .val (.int s3), .val (.int s1), .val (.int s2), .unset, .unset, .unset, .unset, .unset, .unset] [(.ref b12)]))
    refine Goes.st (fun t k => XS.dup X14.here hx rfl (hb hby at_114) rfl rfl k) ?_
    show Goes p e below s _ _ _ (T14.setTop (mkF m 115 #[.val (.int v0), .val (.int v1), .val (.int v2), .val (.int v3), .val (.int sh), .val (.int nu), .val (.int w1), .val (.int ma), .val (.int mb), .val (.int mc), .val (.int md), .val (.int s0), .val (.int hi0), .val (.int lo1), .val (.int s3), .val (.int s1), .val (.int s2), .unset, .unset, .unset, .unset, .unset, .unset] [(.ref b12), (.ref b12)]))
    refine Goes.st (fun t k => XS.iconst X14.here hx rfl (hb hby at_115) k) ?_
    show Goes p e below s _ _ _ (T14.setTop (mkF m 116 #[.val (.int v0), .val (.int v1), .val (.int v2), .val (.int v3), .val (.int sh), .val (.int nu), .val (.int w1), .val (.int ma), .val (.int mb), .val (.int mc), .val (.int md), .val (.int s0), .val (.int hi0), .val (.int lo1), .val (.int s3), .val (.int s1), .val (.int s2), .unset, .unset, .unset, .unset, .unset, .unset] [(.int (2 : Int32)), (.ref b12), (.ref b12)]))
    refine Goes.st (fun t k => XS.iload X14.here hx rfl (hb hby at_116) rfl  k) ?_
    show Goes p e below s _ _ _ (T14.setTop (mkF m 118 #[.val (.int v0), .val (.int v1), .val (.int v2), .val (.int v3), .val (.int sh), .val (.int nu), .val (.int w1), .val (.int ma), .val (.int mb), .val (.int mc), .val (.int md), .val (.int s0), .val (.int hi0), .val (.int lo1), .val (.int s3), .val (.int s1), .val (.int s2), .unset, .unset, .unset, .unset, .unset, .unset] [(.int s2), (.int (2 : Int32)), (.ref b12), (.ref b12)]))
    obtain ⟨cl15, Ar15, q15, S15, M15, H15, G15⟩ := V_b12
    obtain ⟨T15, h15, X15, e15, W15, st15⟩ := stI X14 hx hZ e14 Ar15 (j := (2 : Int32)) (inb_of S15 ⟨by decide, by decide⟩) (g := (mkF m 118 #[.val (.int v0), .val (.int v1), .val (.int v2), .val (.int v3), .val (.int sh), .val (.int nu), .val (.int w1), .val (.int ma), .val (.int mb), .val (.int mc), .val (.int md), .val (.int s0), .val (.int hi0), .val (.int lo1), .val (.int s3), .val (.int s1), .val (.int s2), .unset, .unset, .unset, .unset, .unset, .unset] [(.int s2), (.int (2 : Int32)), (.ref b12), (.ref b12)])) rfl rfl (hb hby at_118)
    have V_b12 := Arv.set Ar15 q15 S15 M15 H15 G15 rfl W15 2 rfl (Nat.le_of_ble_eq_true rfl)
    refine Goes.st st15 ?_
    have V_b12 : Arv Z h15 b12 k12 .int (4 : Int32) [(.int s0), (.int s1), (.int s2), (.int (0 : Int32))] (.int (0 : Int32)) := V_b12
    have N15 := Fr.snoc X15 N14 gn_b12
    have Z0'''' := Nat.le_trans Z0''' (Keep.of_wr W15).1
    show Goes p e below s _ _ _ (T15.setTop (mkF m 119 #[.val (.int v0), .val (.int v1), .val (.int v2), .val (.int v3), .val (.int sh), .val (.int nu), .val (.int w1), .val (.int ma), .val (.int mb), .val (.int mc), .val (.int md), .val (.int s0), .val (.int hi0), .val (.int lo1), .val (.int s3), .val (.int s1), .val (.int s2), .unset, .unset, .unset, .unset, .unset, .unset] [(.ref b12)]))
    refine Goes.st (fun t k => XS.dup X15.here hx rfl (hb hby at_119) rfl rfl k) ?_
    show Goes p e below s _ _ _ (T15.setTop (mkF m 120 #[.val (.int v0), .val (.int v1), .val (.int v2), .val (.int v3), .val (.int sh), .val (.int nu), .val (.int w1), .val (.int ma), .val (.int mb), .val (.int mc), .val (.int md), .val (.int s0), .val (.int hi0), .val (.int lo1), .val (.int s3), .val (.int s1), .val (.int s2), .unset, .unset, .unset, .unset, .unset, .unset] [(.ref b12), (.ref b12)]))
    refine Goes.st (fun t k => XS.iconst X15.here hx rfl (hb hby at_120) k) ?_
    show Goes p e below s _ _ _ (T15.setTop (mkF m 121 #[.val (.int v0), .val (.int v1), .val (.int v2), .val (.int v3), .val (.int sh), .val (.int nu), .val (.int w1), .val (.int ma), .val (.int mb), .val (.int mc), .val (.int md), .val (.int s0), .val (.int hi0), .val (.int lo1), .val (.int s3), .val (.int s1), .val (.int s2), .unset, .unset, .unset, .unset, .unset, .unset] [(.int (3 : Int32)), (.ref b12), (.ref b12)]))
    refine Goes.st (fun t k => XS.iload X15.here hx rfl (hb hby at_121) rfl  k) ?_
    show Goes p e below s _ _ _ (T15.setTop (mkF m 123 #[.val (.int v0), .val (.int v1), .val (.int v2), .val (.int v3), .val (.int sh), .val (.int nu), .val (.int w1), .val (.int ma), .val (.int mb), .val (.int mc), .val (.int md), .val (.int s0), .val (.int hi0), .val (.int lo1), .val (.int s3), .val (.int s1), .val (.int s2), .unset, .unset, .unset, .unset, .unset, .unset] [(.int s3), (.int (3 : Int32)), (.ref b12), (.ref b12)]))
    obtain ⟨cl16, Ar16, q16, S16, M16, H16, G16⟩ := V_b12
    obtain ⟨T16, h16, X16, e16, W16, st16⟩ := stI X15 hx hZ e15 Ar16 (j := (3 : Int32)) (inb_of S16 ⟨by decide, by decide⟩) (g := (mkF m 123 #[.val (.int v0), .val (.int v1), .val (.int v2), .val (.int v3), .val (.int sh), .val (.int nu), .val (.int w1), .val (.int ma), .val (.int mb), .val (.int mc), .val (.int md), .val (.int s0), .val (.int hi0), .val (.int lo1), .val (.int s3), .val (.int s1), .val (.int s2), .unset, .unset, .unset, .unset, .unset, .unset] [(.int s3), (.int (3 : Int32)), (.ref b12), (.ref b12)])) rfl rfl (hb hby at_123)
    have V_b12 := Arv.set Ar16 q16 S16 M16 H16 G16 rfl W16 3 rfl (Nat.le_of_ble_eq_true rfl)
    refine Goes.st st16 ?_
    have V_b12 : Arv Z h16 b12 k12 .int (4 : Int32) [(.int s0), (.int s1), (.int s2), (.int s3)] (.int (0 : Int32)) := V_b12
    have N16 := Fr.snoc X16 N15 gn_b12
    have Z0''''' := Nat.le_trans Z0'''' (Keep.of_wr W16).1
    show Goes p e below s _ _ _ (T16.setTop (mkF m 124 #[.val (.int v0), .val (.int v1), .val (.int v2), .val (.int v3), .val (.int sh), .val (.int nu), .val (.int w1), .val (.int ma), .val (.int mb), .val (.int mc), .val (.int md), .val (.int s0), .val (.int hi0), .val (.int lo1), .val (.int s3), .val (.int s1), .val (.int s2), .unset, .unset, .unset, .unset, .unset, .unset] [(.ref b12)]))
    refine Goes.st (fun t k => XS.astore X16.here hx rfl (hb hby at_124) rfl rfl (l' := #[.val (.int v0), .val (.int v1), .val (.int v2), .val (.int v3), .val (.int sh), .val (.int nu), .val (.int w1), .val (.int ma), .val (.int mb), .val (.int mc), .val (.int md), .val (.int s0), .val (.int hi0), .val (.int lo1), .val (.int s3), .val (.int s1), .val (.int s2), .val (.ref b12), .unset, .unset, .unset, .unset, .unset]) rfl k) ?_
    show Goes p e below s _ _ _ (T16.setTop (mkF m 126 #[.val (.int v0), .val (.int v1), .val (.int v2), .val (.int v3), .val (.int sh), .val (.int nu), .val (.int w1), .val (.int ma), .val (.int mb), .val (.int mc), .val (.int md), .val (.int s0), .val (.int hi0), .val (.int lo1), .val (.int s3), .val (.int s1), .val (.int s2), .val (.ref b12), .unset, .unset, .unset, .unset, .unset] []))
    refine Goes.st (fun t k => XS.iload X16.here hx rfl (hb hby at_126) rfl  k) ?_
    show Goes p e below s _ _ _ (T16.setTop (mkF m 128 #[.val (.int v0), .val (.int v1), .val (.int v2), .val (.int v3), .val (.int sh), .val (.int nu), .val (.int w1), .val (.int ma), .val (.int mb), .val (.int mc), .val (.int md), .val (.int s0), .val (.int hi0), .val (.int lo1), .val (.int s3), .val (.int s1), .val (.int s2), .val (.ref b12), .unset, .unset, .unset, .unset, .unset] [(.int sh)]))
    refine Goes.st (fun t k => XS.sipush X16.here hx rfl (hb hby at_128) k) ?_
    show Goes p e below s _ _ _ (T16.setTop (mkF m 131 #[.val (.int v0), .val (.int v1), .val (.int v2), .val (.int v3), .val (.int sh), .val (.int nu), .val (.int w1), .val (.int ma), .val (.int mb), .val (.int mc), .val (.int md), .val (.int s0), .val (.int hi0), .val (.int lo1), .val (.int s3), .val (.int s1), .val (.int s2), .val (.ref b12), .unset, .unset, .unset, .unset, .unset] [(.int (255 : Int32)), (.int sh)]))
    refine Goes.st (fun t k => XS.iand X16.here hx rfl (hb hby at_131) rfl k) ?_
    show Goes p e below s _ _ _ (T16.setTop (mkF m 132 #[.val (.int v0), .val (.int v1), .val (.int v2), .val (.int v3), .val (.int sh), .val (.int nu), .val (.int w1), .val (.int ma), .val (.int mb), .val (.int mc), .val (.int md), .val (.int s0), .val (.int hi0), .val (.int lo1), .val (.int s3), .val (.int s1), .val (.int s2), .val (.ref b12), .unset, .unset, .unset, .unset, .unset] [(.int (sh &&& (255 : Int32)))]))
    refine Goes.st (fun t k => XS.iconst X16.here hx rfl (hb hby at_132) k) ?_
    show Goes p e below s _ _ _ (T16.setTop (mkF m 133 #[.val (.int v0), .val (.int v1), .val (.int v2), .val (.int v3), .val (.int sh), .val (.int nu), .val (.int w1), .val (.int ma), .val (.int mb), .val (.int mc), .val (.int md), .val (.int s0), .val (.int hi0), .val (.int lo1), .val (.int s3), .val (.int s1), .val (.int s2), .val (.ref b12), .unset, .unset, .unset, .unset, .unset] [(.int (5 : Int32)), (.int (sh &&& (255 : Int32)))]))
    refine Goes.st (fun t k => iremM (g := (mkF m 133 #[.val (.int v0), .val (.int v1), .val (.int v2), .val (.int v3), .val (.int sh), .val (.int nu), .val (.int w1), .val (.int ma), .val (.int mb), .val (.int mc), .val (.int md), .val (.int s0), .val (.int hi0), .val (.int lo1), .val (.int s3), .val (.int s1), .val (.int s2), .val (.ref b12), .unset, .unset, .unset, .unset, .unset] [(.int (5 : Int32)), (.int (sh &&& (255 : Int32)))])) X16 hx rfl (hb hby at_133) rfl (by decide) k) ?_
    show Goes p e below s _ _ _ (T16.setTop (mkF m 134 #[.val (.int v0), .val (.int v1), .val (.int v2), .val (.int v3), .val (.int sh), .val (.int nu), .val (.int w1), .val (.int ma), .val (.int mb), .val (.int mc), .val (.int md), .val (.int s0), .val (.int hi0), .val (.int lo1), .val (.int s3), .val (.int s1), .val (.int s2), .val (.ref b12), .unset, .unset, .unset, .unset, .unset] [(.int ((sh &&& (255 : Int32)) % (5 : Int32)))]))
    refine Goes.st (fun t k => XS.istore X16.here hx rfl (hb hby at_134) rfl  (l' := #[.val (.int v0), .val (.int v1), .val (.int v2), .val (.int v3), .val (.int sh), .val (.int nu), .val (.int w1), .val (.int ma), .val (.int mb), .val (.int mc), .val (.int md), .val (.int s0), .val (.int hi0), .val (.int lo1), .val (.int s3), .val (.int s1), .val (.int s2), .val (.ref b12), .val (.int ((sh &&& (255 : Int32)) % (5 : Int32))), .unset, .unset, .unset, .unset]) rfl k) ?_
    show Goes p e below s _ _ _ (T16.setTop (mkF m 136 #[.val (.int v0), .val (.int v1), .val (.int v2), .val (.int v3), .val (.int sh), .val (.int nu), .val (.int w1), .val (.int ma), .val (.int mb), .val (.int mc), .val (.int md), .val (.int s0), .val (.int hi0), .val (.int lo1), .val (.int s3), .val (.int s1), .val (.int s2), .val (.ref b12), .val (.int ((sh &&& (255 : Int32)) % (5 : Int32))), .unset, .unset, .unset, .unset] []))
    refine Goes.st (fun t k => XS.iload X16.here hx rfl (hb hby at_136) rfl  k) ?_
    show Goes p e below s _ _ _ (T16.setTop (mkF m 138 #[.val (.int v0), .val (.int v1), .val (.int v2), .val (.int v3), .val (.int sh), .val (.int nu), .val (.int w1), .val (.int ma), .val (.int mb), .val (.int mc), .val (.int md), .val (.int s0), .val (.int hi0), .val (.int lo1), .val (.int s3), .val (.int s1), .val (.int s2), .val (.ref b12), .val (.int ((sh &&& (255 : Int32)) % (5 : Int32))), .unset, .unset, .unset, .unset] [(.int sh)]))
    refine Goes.st (fun t k => XS.bipush X16.here hx rfl (hb hby at_138) k) ?_
    show Goes p e below s _ _ _ (T16.setTop (mkF m 140 #[.val (.int v0), .val (.int v1), .val (.int v2), .val (.int v3), .val (.int sh), .val (.int nu), .val (.int w1), .val (.int ma), .val (.int mb), .val (.int mc), .val (.int md), .val (.int s0), .val (.int hi0), .val (.int lo1), .val (.int s3), .val (.int s1), .val (.int s2), .val (.ref b12), .val (.int ((sh &&& (255 : Int32)) % (5 : Int32))), .unset, .unset, .unset, .unset] [(.int (8 : Int32)), (.int sh)]))
    refine Goes.st (fun t k => XS.iushr X16.here hx rfl (hb hby at_140) rfl k) ?_
    show Goes p e below s _ _ _ (T16.setTop (mkF m 141 #[.val (.int v0), .val (.int v1), .val (.int v2), .val (.int v3), .val (.int sh), .val (.int nu), .val (.int w1), .val (.int ma), .val (.int mb), .val (.int mc), .val (.int md), .val (.int s0), .val (.int hi0), .val (.int lo1), .val (.int s3), .val (.int s1), .val (.int s2), .val (.ref b12), .val (.int ((sh &&& (255 : Int32)) % (5 : Int32))), .unset, .unset, .unset, .unset] [(.int ((sh.toUInt32 >>> ((8 : Int32) &&& 31).toUInt32).toInt32))]))
    refine Goes.st (fun t k => XS.sipush X16.here hx rfl (hb hby at_141) k) ?_
    show Goes p e below s _ _ _ (T16.setTop (mkF m 144 #[.val (.int v0), .val (.int v1), .val (.int v2), .val (.int v3), .val (.int sh), .val (.int nu), .val (.int w1), .val (.int ma), .val (.int mb), .val (.int mc), .val (.int md), .val (.int s0), .val (.int hi0), .val (.int lo1), .val (.int s3), .val (.int s1), .val (.int s2), .val (.ref b12), .val (.int ((sh &&& (255 : Int32)) % (5 : Int32))), .unset, .unset, .unset, .unset] [(.int (255 : Int32)), (.int ((sh.toUInt32 >>> ((8 : Int32) &&& 31).toUInt32).toInt32))]))
    refine Goes.st (fun t k => XS.iand X16.here hx rfl (hb hby at_144) rfl k) ?_
    show Goes p e below s _ _ _ (T16.setTop (mkF m 145 #[.val (.int v0), .val (.int v1), .val (.int v2), .val (.int v3), .val (.int sh), .val (.int nu), .val (.int w1), .val (.int ma), .val (.int mb), .val (.int mc), .val (.int md), .val (.int s0), .val (.int hi0), .val (.int lo1), .val (.int s3), .val (.int s1), .val (.int s2), .val (.ref b12), .val (.int ((sh &&& (255 : Int32)) % (5 : Int32))), .unset, .unset, .unset, .unset] [(.int (((sh.toUInt32 >>> ((8 : Int32) &&& 31).toUInt32).toInt32) &&& (255 : Int32)))]))
    refine Goes.st (fun t k => XS.iconst X16.here hx rfl (hb hby at_145) k) ?_
    show Goes p e below s _ _ _ (T16.setTop (mkF m 146 #[.val (.int v0), .val (.int v1), .val (.int v2), .val (.int v3), .val (.int sh), .val (.int nu), .val (.int w1), .val (.int ma), .val (.int mb), .val (.int mc), .val (.int md), .val (.int s0), .val (.int hi0), .val (.int lo1), .val (.int s3), .val (.int s1), .val (.int s2), .val (.ref b12), .val (.int ((sh &&& (255 : Int32)) % (5 : Int32))), .unset, .unset, .unset, .unset] [(.int (5 : Int32)), (.int (((sh.toUInt32 >>> ((8 : Int32) &&& 31).toUInt32).toInt32) &&& (255 : Int32)))]))
    refine Goes.st (fun t k => iremM (g := (mkF m 146 #[.val (.int v0), .val (.int v1), .val (.int v2), .val (.int v3), .val (.int sh), .val (.int nu), .val (.int w1), .val (.int ma), .val (.int mb), .val (.int mc), .val (.int md), .val (.int s0), .val (.int hi0), .val (.int lo1), .val (.int s3), .val (.int s1), .val (.int s2), .val (.ref b12), .val (.int ((sh &&& (255 : Int32)) % (5 : Int32))), .unset, .unset, .unset, .unset] [(.int (5 : Int32)), (.int (((sh.toUInt32 >>> ((8 : Int32) &&& 31).toUInt32).toInt32) &&& (255 : Int32)))])) X16 hx rfl (hb hby at_146) rfl (by decide) k) ?_
    show Goes p e below s _ _ _ (T16.setTop (mkF m 147 #[.val (.int v0), .val (.int v1), .val (.int v2), .val (.int v3), .val (.int sh), .val (.int nu), .val (.int w1), .val (.int ma), .val (.int mb), .val (.int mc), .val (.int md), .val (.int s0), .val (.int hi0), .val (.int lo1), .val (.int s3), .val (.int s1), .val (.int s2), .val (.ref b12), .val (.int ((sh &&& (255 : Int32)) % (5 : Int32))), .unset, .unset, .unset, .unset] [(.int ((((sh.toUInt32 >>> ((8 : Int32) &&& 31).toUInt32).toInt32) &&& (255 : Int32)) % (5 : Int32)))]))
    refine Goes.st (fun t k => XS.istore X16.here hx rfl (hb hby at_147) rfl  (l' := #[.val (.int v0), .val (.int v1), .val (.int v2), .val (.int v3), .val (.int sh), .val (.int nu), .val (.int w1), .val (.int ma), .val (.int mb), .val (.int mc), .val (.int md), .val (.int s0), .val (.int hi0), .val (.int lo1), .val (.int s3), .val (.int s1), .val (.int s2), .val (.ref b12), .val (.int ((sh &&& (255 : Int32)) % (5 : Int32))), .val (.int ((((sh.toUInt32 >>> ((8 : Int32) &&& 31).toUInt32).toInt32) &&& (255 : Int32)) % (5 : Int32))), .unset, .unset, .unset]) rfl k) ?_
    show Goes p e below s _ _ _ (T16.setTop (mkF m 149 #[.val (.int v0), .val (.int v1), .val (.int v2), .val (.int v3), .val (.int sh), .val (.int nu), .val (.int w1), .val (.int ma), .val (.int mb), .val (.int mc), .val (.int md), .val (.int s0), .val (.int hi0), .val (.int lo1), .val (.int s3), .val (.int s1), .val (.int s2), .val (.ref b12), .val (.int ((sh &&& (255 : Int32)) % (5 : Int32))), .val (.int ((((sh.toUInt32 >>> ((8 : Int32) &&& 31).toUInt32).toInt32) &&& (255 : Int32)) % (5 : Int32))), .unset, .unset, .unset] []))
    obtain ⟨f0, hd_f0⟩ : ∃ z : Int32, z = ((sh &&& (255 : Int32)) % (5 : Int32)) := ⟨_, rfl⟩
    rw [← hd_f0]
    show Goes p e below s _ _ _ (T16.setTop (mkF m 149 #[.val (.int v0), .val (.int v1), .val (.int v2), .val (.int v3), .val (.int sh), .val (.int nu), .val (.int w1), .val (.int ma), .val (.int mb), .val (.int mc), .val (.int md), .val (.int s0), .val (.int hi0), .val (.int lo1), .val (.int s3), .val (.int s1), .val (.int s2), .val (.ref b12), .val (.int f0), .val (.int ((((sh.toUInt32 >>> ((8 : Int32) &&& 31).toUInt32).toInt32) &&& (255 : Int32)) % (5 : Int32))), .unset, .unset, .unset] []))
    obtain ⟨t0, hd_t0⟩ : ∃ z : Int32, z = ((((sh.toUInt32 >>> ((8 : Int32) &&& 31).toUInt32).toInt32) &&& (255 : Int32)) % (5 : Int32)) := ⟨_, rfl⟩
    rw [← hd_t0]
    show Goes p e below s _ _ _ (T16.setTop (mkF m 149 #[.val (.int v0), .val (.int v1), .val (.int v2), .val (.int v3), .val (.int sh), .val (.int nu), .val (.int w1), .val (.int ma), .val (.int mb), .val (.int mc), .val (.int md), .val (.int s0), .val (.int hi0), .val (.int lo1), .val (.int s3), .val (.int s1), .val (.int s2), .val (.ref b12), .val (.int f0), .val (.int t0), .unset, .unset, .unset] []))
    have hf0 : 0 ≤ f0.toInt ∧ f0.toInt ≤ 4 := by rw [hd_f0]; exact own_r5 _
    have ht0 : 0 ≤ t0.toInt ∧ t0.toInt ≤ 4 := by rw [hd_t0]; exact own_r5 _
    clear hd_f0 hd_t0
    show Goes p e below s _ _ _ (T16.setTop (mkF m 149 #[.val (.int v0), .val (.int v1), .val (.int v2), .val (.int v3), .val (.int sh), .val (.int nu), .val (.int w1), .val (.int ma), .val (.int mb), .val (.int mc), .val (.int md), .val (.int s0), .val (.int hi0), .val (.int lo1), .val (.int s3), .val (.int s1), .val (.int s2), .val (.ref b12), .val (.int f0), .val (.int t0), .unset, .unset, .unset] []))
    refine Goes.st (fun t k => XS.iload X16.here hx rfl (hb hby at_149) rfl  k) ?_
    show Goes p e below s _ _ _ (T16.setTop (mkF m 151 #[.val (.int v0), .val (.int v1), .val (.int v2), .val (.int v3), .val (.int sh), .val (.int nu), .val (.int w1), .val (.int ma), .val (.int mb), .val (.int mc), .val (.int md), .val (.int s0), .val (.int hi0), .val (.int lo1), .val (.int s3), .val (.int s1), .val (.int s2), .val (.ref b12), .val (.int f0), .val (.int t0), .unset, .unset, .unset] [(.int f0)]))
    refine Goes.st (fun t k => XS.iload X16.here hx rfl (hb hby at_151) rfl  k) ?_
    show Goes p e below s _ _ _ (T16.setTop (mkF m 153 #[.val (.int v0), .val (.int v1), .val (.int v2), .val (.int v3), .val (.int sh), .val (.int nu), .val (.int w1), .val (.int ma), .val (.int mb), .val (.int mc), .val (.int md), .val (.int s0), .val (.int hi0), .val (.int lo1), .val (.int s3), .val (.int s1), .val (.int s2), .val (.ref b12), .val (.int f0), .val (.int t0), .unset, .unset, .unset] [(.int t0), (.int f0)]))
    have hj2 : ∀ (T17 : State) (h17 : Heap) (L17 : List Loc) (fr to : Int32) (s20 : Slot) (X17 : Stand p l e room_1 s m #[(.int v0), (.int v1), (.int v2), (.int v3), (.int sh), (.int nu)] below meth c T17 L17 1 4) (e17 : T17.heap = h17) (N17 : Fr n0 L17) (Z17 : n0 ≤ h17.size) (V_b12 : Arv Z h17 b12 k12 .int (4 : Int32) [(.int s0), (.int s1), (.int s2), (.int s3)] (.int (0 : Int32))) (hs20 : One s20) (hf : 0 ≤ fr.toInt) (hft : fr.toInt ≤ to.toInt) (ht : to.toInt ≤ 4), Goes p e below s (own_Q0 Z  h0 n0) (1) (4) (T17.setTop (mkF m 168 #[.val (.int v0), .val (.int v1), .val (.int v2), .val (.int v3), .val (.int sh), .val (.int nu), .val (.int w1), .val (.int ma), .val (.int mb), .val (.int mc), .val (.int md), .val (.int s0), .val (.int hi0), .val (.int lo1), .val (.int s3), .val (.int s1), .val (.int s2), .val (.ref b12), .val (.int fr), .val (.int to), s20, .unset, .unset] [])) := by
      intro T17 h17 L17 fr to s20 X17 e17 N17 Z17 V_b12    hs20 hf hft ht
      show Goes p e below s _ _ _ (T17.setTop (mkF m 168 #[.val (.int v0), .val (.int v1), .val (.int v2), .val (.int v3), .val (.int sh), .val (.int nu), .val (.int w1), .val (.int ma), .val (.int mb), .val (.int mc), .val (.int md), .val (.int s0), .val (.int hi0), .val (.int lo1), .val (.int s3), .val (.int s1), .val (.int s2), .val (.ref b12), .val (.int fr), .val (.int to), s20, .unset, .unset] []))
      refine Goes.st (fun t k => XS.iload X17.here hx rfl (hb hby at_168) rfl  k) ?_
      show Goes p e below s _ _ _ (T17.setTop (mkF m 170 #[.val (.int v0), .val (.int v1), .val (.int v2), .val (.int v3), .val (.int sh), .val (.int nu), .val (.int w1), .val (.int ma), .val (.int mb), .val (.int mc), .val (.int md), .val (.int s0), .val (.int hi0), .val (.int lo1), .val (.int s3), .val (.int s1), .val (.int s2), .val (.ref b12), .val (.int fr), .val (.int to), s20, .unset, .unset] [(.int nu)]))
      refine Goes.st (fun t k => XS.istore X17.here hx rfl (hb hby at_170) rfl  (l' := #[.val (.int v0), .val (.int v1), .val (.int v2), .val (.int v3), .val (.int sh), .val (.int nu), .val (.int w1), .val (.int ma), .val (.int mb), .val (.int mc), .val (.int md), .val (.int s0), .val (.int hi0), .val (.int lo1), .val (.int s3), .val (.int s1), .val (.int s2), .val (.ref b12), .val (.int fr), .val (.int to), .val (.int nu), .unset, .unset]) (by rcases hs20 with rfl | ⟨w, rfl, hw⟩ <;> first | rfl | (cases w <;> first | rfl | (simp [Value.category] at hw))) k) ?_
      show Goes p e below s _ _ _ (T17.setTop (mkF m 172 #[.val (.int v0), .val (.int v1), .val (.int v2), .val (.int v3), .val (.int sh), .val (.int nu), .val (.int w1), .val (.int ma), .val (.int mb), .val (.int mc), .val (.int md), .val (.int s0), .val (.int hi0), .val (.int lo1), .val (.int s3), .val (.int s1), .val (.int s2), .val (.ref b12), .val (.int fr), .val (.int to), .val (.int nu), .unset, .unset] []))
      refine Goes.st (fun t k => XS.iload X17.here hx rfl (hb hby at_172) rfl  k) ?_
      show Goes p e below s _ _ _ (T17.setTop (mkF m 174 #[.val (.int v0), .val (.int v1), .val (.int v2), .val (.int v3), .val (.int sh), .val (.int nu), .val (.int w1), .val (.int ma), .val (.int mb), .val (.int mc), .val (.int md), .val (.int s0), .val (.int hi0), .val (.int lo1), .val (.int s3), .val (.int s1), .val (.int s2), .val (.ref b12), .val (.int fr), .val (.int to), .val (.int nu), .unset, .unset] [(.int sh)]))
      refine Goes.st (fun t k => XS.bipush X17.here hx rfl (hb hby at_174) k) ?_
      show Goes p e below s _ _ _ (T17.setTop (mkF m 176 #[.val (.int v0), .val (.int v1), .val (.int v2), .val (.int v3), .val (.int sh), .val (.int nu), .val (.int w1), .val (.int ma), .val (.int mb), .val (.int mc), .val (.int md), .val (.int s0), .val (.int hi0), .val (.int lo1), .val (.int s3), .val (.int s1), .val (.int s2), .val (.ref b12), .val (.int fr), .val (.int to), .val (.int nu), .unset, .unset] [(.int (16 : Int32)), (.int sh)]))
      refine Goes.st (fun t k => XS.iushr X17.here hx rfl (hb hby at_176) rfl k) ?_
      show Goes p e below s _ _ _ (T17.setTop (mkF m 177 #[.val (.int v0), .val (.int v1), .val (.int v2), .val (.int v3), .val (.int sh), .val (.int nu), .val (.int w1), .val (.int ma), .val (.int mb), .val (.int mc), .val (.int md), .val (.int s0), .val (.int hi0), .val (.int lo1), .val (.int s3), .val (.int s1), .val (.int s2), .val (.ref b12), .val (.int fr), .val (.int to), .val (.int nu), .unset, .unset] [(.int ((sh.toUInt32 >>> ((16 : Int32) &&& 31).toUInt32).toInt32))]))
      refine Goes.st (fun t k => XS.iconst X17.here hx rfl (hb hby at_177) k) ?_
      show Goes p e below s _ _ _ (T17.setTop (mkF m 178 #[.val (.int v0), .val (.int v1), .val (.int v2), .val (.int v3), .val (.int sh), .val (.int nu), .val (.int w1), .val (.int ma), .val (.int mb), .val (.int mc), .val (.int md), .val (.int s0), .val (.int hi0), .val (.int lo1), .val (.int s3), .val (.int s1), .val (.int s2), .val (.ref b12), .val (.int fr), .val (.int to), .val (.int nu), .unset, .unset] [(.int (1 : Int32)), (.int ((sh.toUInt32 >>> ((16 : Int32) &&& 31).toUInt32).toInt32))]))
      refine Goes.st (fun t k => XS.iand X17.here hx rfl (hb hby at_178) rfl k) ?_
      show Goes p e below s _ _ _ (T17.setTop (mkF m 179 #[.val (.int v0), .val (.int v1), .val (.int v2), .val (.int v3), .val (.int sh), .val (.int nu), .val (.int w1), .val (.int ma), .val (.int mb), .val (.int mc), .val (.int md), .val (.int s0), .val (.int hi0), .val (.int lo1), .val (.int s3), .val (.int s1), .val (.int s2), .val (.ref b12), .val (.int fr), .val (.int to), .val (.int nu), .unset, .unset] [(.int (((sh.toUInt32 >>> ((16 : Int32) &&& 31).toUInt32).toInt32) &&& (1 : Int32)))]))
      have hj3 : ∀ nm : Int32, Goes p e below s (own_Q0 Z h0 n0) (1) (4) (T17.setTop (mkF m 204 #[.val (.int v0), .val (.int v1), .val (.int v2), .val (.int v3), .val (.int sh), .val (.int nu), .val (.int w1), .val (.int ma), .val (.int mb), .val (.int mc), .val (.int md), .val (.int s0), .val (.int hi0), .val (.int lo1), .val (.int s3), .val (.int s1), .val (.int s2), .val (.ref b12), .val (.int fr), .val (.int to), .val (.int nm), .unset, .unset] [])) := by
        intro nm
        show Goes p e below s _ _ _ (T17.setTop (mkF m 204 #[.val (.int v0), .val (.int v1), .val (.int v2), .val (.int v3), .val (.int sh), .val (.int nu), .val (.int w1), .val (.int ma), .val (.int mb), .val (.int mc), .val (.int md), .val (.int s0), .val (.int hi0), .val (.int lo1), .val (.int s3), .val (.int s1), .val (.int s2), .val (.ref b12), .val (.int fr), .val (.int to), .val (.int nm), .unset, .unset] []))
        refine Goes.st (fun t k => XS.aload X17.here hx rfl (hb hby at_204) rfl rfl k) ?_
        show Goes p e below s _ _ _ (T17.setTop (mkF m 206 #[.val (.int v0), .val (.int v1), .val (.int v2), .val (.int v3), .val (.int sh), .val (.int nu), .val (.int w1), .val (.int ma), .val (.int mb), .val (.int mc), .val (.int md), .val (.int s0), .val (.int hi0), .val (.int lo1), .val (.int s3), .val (.int s1), .val (.int s2), .val (.ref b12), .val (.int fr), .val (.int to), .val (.int nm), .unset, .unset] [(.ref b12)]))
        refine Goes.st (fun t k => XS.iload X17.here hx rfl (hb hby at_206) rfl  k) ?_
        show Goes p e below s _ _ _ (T17.setTop (mkF m 208 #[.val (.int v0), .val (.int v1), .val (.int v2), .val (.int v3), .val (.int sh), .val (.int nu), .val (.int w1), .val (.int ma), .val (.int mb), .val (.int mc), .val (.int md), .val (.int s0), .val (.int hi0), .val (.int lo1), .val (.int s3), .val (.int s1), .val (.int s2), .val (.ref b12), .val (.int fr), .val (.int to), .val (.int nm), .unset, .unset] [(.int fr), (.ref b12)]))
        refine Goes.st (fun t k => XS.iload X17.here hx rfl (hb hby at_208) rfl  k) ?_
        show Goes p e below s _ _ _ (T17.setTop (mkF m 210 #[.val (.int v0), .val (.int v1), .val (.int v2), .val (.int v3), .val (.int sh), .val (.int nu), .val (.int w1), .val (.int ma), .val (.int mb), .val (.int mc), .val (.int md), .val (.int s0), .val (.int hi0), .val (.int lo1), .val (.int s3), .val (.int s1), .val (.int s2), .val (.ref b12), .val (.int fr), .val (.int to), .val (.int nm), .unset, .unset] [(.int to), (.int fr), (.ref b12)]))
        refine Goes.st (fun t k => XS.iload X17.here hx rfl (hb hby at_210) rfl  k) ?_
        show Goes p e below s _ _ _ (T17.setTop (mkF m 212 #[.val (.int v0), .val (.int v1), .val (.int v2), .val (.int v3), .val (.int sh), .val (.int nu), .val (.int w1), .val (.int ma), .val (.int mb), .val (.int mc), .val (.int md), .val (.int s0), .val (.int hi0), .val (.int lo1), .val (.int s3), .val (.int s1), .val (.int s2), .val (.ref b12), .val (.int fr), .val (.int to), .val (.int nm), .unset, .unset] [(.int nm), (.int to), (.int fr), (.ref b12)]))
        obtain ⟨_, _, ⟨T18, L18, k18, n18⟩, -, X18, ⟨Lc18, hQ18, l18, y18, z18⟩, st18⟩ := Jvm.LawKit.callS X17 hx (y := (⟨"com/example/lockwright/lockwright/planning/ChainSpans", "atLeast", "([IIII)I"⟩ : MethodName)) hown (mvT hZ (hw _ (List.mem_of_getElem? (i := 8) rfl))) (mvT hZ (hw _ (List.mem_of_getElem? (i := 9) rfl))) (mvT hZ (hw _ (List.mem_of_getElem? (i := 10) rfl))) (mvT hZ (hw _ (List.mem_of_getElem? (i := 11) rfl))) (by decide) (backOf (W := 0) (own_rmA l Z a0 hw [] b12 fr to nm k12 s0 s1 s2 s3 h17 n0 Z17 V_b12 hs hf hft ht) hZ (hw _ (List.mem_of_getElem? (i := 11) rfl)) (hw _ (List.mem_of_getElem? (i := 10) rfl)) (by decide) (by decide)) (g := (mkF m 212 #[.val (.int v0), .val (.int v1), .val (.int v2), .val (.int v3), .val (.int sh), .val (.int nu), .val (.int w1), .val (.int ma), .val (.int mb), .val (.int mc), .val (.int md), .val (.int s0), .val (.int hi0), .val (.int lo1), .val (.int s3), .val (.int s1), .val (.int s2), .val (.ref b12), .val (.int fr), .val (.int to), .val (.int nm), .unset, .unset] [(.int nm), (.int to), (.int fr), (.ref b12)])) rfl (by rw [hml]; rfl) (argsL := [(.ref b12), (.int fr), (.int to), (.int nm)]) (rest := []) (lenOf own_pd58 rfl) rfl (by show 2 * 0 + _ ≤ _; exact Nat.le_of_eq rfl) (hb hby at_212) (fun _ _ => ⟨rfl, e17, (by decide : 1 + 0 ≤ _), (by decide : 4 + 0 ≤ _)⟩)
        dsimp only [Pt.U, Pt.locs, Pt.cells, Pt.slots] at X18 l18 y18 z18 st18 hQ18
        subst l18 y18 z18
        obtain ⟨r, rfl, N18q, EQa, ra1, ra2, ra3, ra4⟩ := hQ18
        have N18 := Fr.app N17 N18q
        refine Goes.st st18 ?_
        show Goes p e below s _ _ _ (T18.setTop (mkF m 215 #[.val (.int v0), .val (.int v1), .val (.int v2), .val (.int v3), .val (.int sh), .val (.int nu), .val (.int w1), .val (.int ma), .val (.int mb), .val (.int mc), .val (.int md), .val (.int s0), .val (.int hi0), .val (.int lo1), .val (.int s3), .val (.int s1), .val (.int s2), .val (.ref b12), .val (.int fr), .val (.int to), .val (.int nm), .unset, .unset] [(.int r)]))
        refine Goes.st (fun t k => XS.istore X18.here hx rfl (hb hby at_215) rfl  (l' := #[.val (.int v0), .val (.int v1), .val (.int v2), .val (.int v3), .val (.int sh), .val (.int nu), .val (.int w1), .val (.int ma), .val (.int mb), .val (.int mc), .val (.int md), .val (.int s0), .val (.int hi0), .val (.int lo1), .val (.int s3), .val (.int s1), .val (.int s2), .val (.ref b12), .val (.int fr), .val (.int to), .val (.int nm), .val (.int r), .unset]) rfl k) ?_
        show Goes p e below s _ _ _ (T18.setTop (mkF m 217 #[.val (.int v0), .val (.int v1), .val (.int v2), .val (.int v3), .val (.int sh), .val (.int nu), .val (.int w1), .val (.int ma), .val (.int mb), .val (.int mc), .val (.int md), .val (.int s0), .val (.int hi0), .val (.int lo1), .val (.int s3), .val (.int s1), .val (.int s2), .val (.ref b12), .val (.int fr), .val (.int to), .val (.int nm), .val (.int r), .unset] []))
        refine Goes.st (fun t k => XS.iload X18.here hx rfl (hb hby at_217) rfl  k) ?_
        show Goes p e below s _ _ _ (T18.setTop (mkF m 219 #[.val (.int v0), .val (.int v1), .val (.int v2), .val (.int v3), .val (.int sh), .val (.int nu), .val (.int w1), .val (.int ma), .val (.int mb), .val (.int mc), .val (.int md), .val (.int s0), .val (.int hi0), .val (.int lo1), .val (.int s3), .val (.int s1), .val (.int s2), .val (.ref b12), .val (.int fr), .val (.int to), .val (.int nm), .val (.int r), .unset] [(.int fr)]))
        refine Goes.st (fun t k => XS.iconst X18.here hx rfl (hb hby at_219) k) ?_
        show Goes p e below s _ _ _ (T18.setTop (mkF m 220 #[.val (.int v0), .val (.int v1), .val (.int v2), .val (.int v3), .val (.int sh), .val (.int nu), .val (.int w1), .val (.int ma), .val (.int mb), .val (.int mc), .val (.int md), .val (.int s0), .val (.int hi0), .val (.int lo1), .val (.int s3), .val (.int s1), .val (.int s2), .val (.ref b12), .val (.int fr), .val (.int to), .val (.int nm), .val (.int r), .unset] [(.int (0 : Int32)), (.int fr)]))
        refine Goes.st (fun t k => XS.iload X18.here hx rfl (hb hby at_220) rfl  k) ?_
        show Goes p e below s _ _ _ (T18.setTop (mkF m 222 #[.val (.int v0), .val (.int v1), .val (.int v2), .val (.int v3), .val (.int sh), .val (.int nu), .val (.int w1), .val (.int ma), .val (.int mb), .val (.int mc), .val (.int md), .val (.int s0), .val (.int hi0), .val (.int lo1), .val (.int s3), .val (.int s1), .val (.int s2), .val (.ref b12), .val (.int fr), .val (.int to), .val (.int nm), .val (.int r), .unset] [(.int fr), (.int (0 : Int32)), (.int fr)]))
        refine Goes.st (fun t k => XS.iload X18.here hx rfl (hb hby at_222) rfl  k) ?_
        show Goes p e below s _ _ _ (T18.setTop (mkF m 224 #[.val (.int v0), .val (.int v1), .val (.int v2), .val (.int v3), .val (.int sh), .val (.int nu), .val (.int w1), .val (.int ma), .val (.int mb), .val (.int mc), .val (.int md), .val (.int s0), .val (.int hi0), .val (.int lo1), .val (.int s3), .val (.int s1), .val (.int s2), .val (.ref b12), .val (.int fr), .val (.int to), .val (.int nm), .val (.int r), .unset] [(.int to), (.int fr), (.int (0 : Int32)), (.int fr)]))
        refine Goes.st (fun t k => XS.iload X18.here hx rfl (hb hby at_224) rfl  k) ?_
        show Goes p e below s _ _ _ (T18.setTop (mkF m 226 #[.val (.int v0), .val (.int v1), .val (.int v2), .val (.int v3), .val (.int sh), .val (.int nu), .val (.int w1), .val (.int ma), .val (.int mb), .val (.int mc), .val (.int md), .val (.int s0), .val (.int hi0), .val (.int lo1), .val (.int s3), .val (.int s1), .val (.int s2), .val (.ref b12), .val (.int fr), .val (.int to), .val (.int nm), .val (.int r), .unset] [(.int s0), (.int to), (.int fr), (.int (0 : Int32)), (.int fr)]))
        refine Goes.st (fun t k => XS.iload X18.here hx rfl (hb hby at_226) rfl  k) ?_
        show Goes p e below s _ _ _ (T18.setTop (mkF m 228 #[.val (.int v0), .val (.int v1), .val (.int v2), .val (.int v3), .val (.int sh), .val (.int nu), .val (.int w1), .val (.int ma), .val (.int mb), .val (.int mc), .val (.int md), .val (.int s0), .val (.int hi0), .val (.int lo1), .val (.int s3), .val (.int s1), .val (.int s2), .val (.ref b12), .val (.int fr), .val (.int to), .val (.int nm), .val (.int r), .unset] [(.int nm), (.int s0), (.int to), (.int fr), (.int (0 : Int32)), (.int fr)]))
        obtain ⟨_, _, ⟨T19, L19, k19, n19⟩, -, X19, ⟨Lc19, hQ19, l19, y19, z19⟩, st19⟩ := Jvm.LawKit.callS X18 hx (y := (⟨"com/example/lockwright/lockwright/planning/ChainSpansAtLeastPinLaw", "below", "(IIIII)I"⟩ : MethodName)) hown (mvT hZ (hw _ (List.mem_of_getElem? (i := 12) rfl))) (mvT hZ (hw _ (List.mem_of_getElem? (i := 13) rfl))) (mvT hZ (hw _ (List.mem_of_getElem? (i := 14) rfl))) (mvT hZ (hw _ (List.mem_of_getElem? (i := 15) rfl))) (by decide) (backOf (W := 1) (own_rmB l Z a0 hw [] 0 fr to s0 nm h17 n0 Z17 ) hZ (hw _ (List.mem_of_getElem? (i := 15) rfl)) (hw _ (List.mem_of_getElem? (i := 14) rfl)) (by decide) (by decide)) (g := (mkF m 228 #[.val (.int v0), .val (.int v1), .val (.int v2), .val (.int v3), .val (.int sh), .val (.int nu), .val (.int w1), .val (.int ma), .val (.int mb), .val (.int mc), .val (.int md), .val (.int s0), .val (.int hi0), .val (.int lo1), .val (.int s3), .val (.int s1), .val (.int s2), .val (.ref b12), .val (.int fr), .val (.int to), .val (.int nm), .val (.int r), .unset] [(.int nm), (.int s0), (.int to), (.int fr), (.int (0 : Int32)), (.int fr)])) rfl (by rw [hml]; rfl) (argsL := [(.int (0 : Int32)), (.int fr), (.int to), (.int s0), (.int nm)]) (rest := [(.int fr)]) (lenOf own_pd59 rfl) rfl (by show 2 * 0 + _ ≤ _; exact Nat.le_of_eq rfl) (hb hby at_228) (fun _ _ => ⟨rfl, EQa, (by decide : 1 + 0 ≤ _), (by decide : 4 + 0 ≤ _)⟩)
        dsimp only [Pt.U, Pt.locs, Pt.cells, Pt.slots] at X19 l19 y19 z19 st19 hQ19
        subst l19 y19 z19
        obtain ⟨b0, rfl, N19q, EQb0, hb0⟩ := hQ19
        have N19 := Fr.app N18 N19q
        refine Goes.st st19 ?_
        show Goes p e below s _ _ _ (T19.setTop (mkF m 231 #[.val (.int v0), .val (.int v1), .val (.int v2), .val (.int v3), .val (.int sh), .val (.int nu), .val (.int w1), .val (.int ma), .val (.int mb), .val (.int mc), .val (.int md), .val (.int s0), .val (.int hi0), .val (.int lo1), .val (.int s3), .val (.int s1), .val (.int s2), .val (.ref b12), .val (.int fr), .val (.int to), .val (.int nm), .val (.int r), .unset] [(.int b0), (.int fr)]))
        refine Goes.st (fun t k => XS.iadd X19.here hx rfl (hb hby at_231) rfl k) ?_
        show Goes p e below s _ _ _ (T19.setTop (mkF m 232 #[.val (.int v0), .val (.int v1), .val (.int v2), .val (.int v3), .val (.int sh), .val (.int nu), .val (.int w1), .val (.int ma), .val (.int mb), .val (.int mc), .val (.int md), .val (.int s0), .val (.int hi0), .val (.int lo1), .val (.int s3), .val (.int s1), .val (.int s2), .val (.ref b12), .val (.int fr), .val (.int to), .val (.int nm), .val (.int r), .unset] [(.int (fr + b0))]))
        refine Goes.st (fun t k => XS.iconst X19.here hx rfl (hb hby at_232) k) ?_
        show Goes p e below s _ _ _ (T19.setTop (mkF m 233 #[.val (.int v0), .val (.int v1), .val (.int v2), .val (.int v3), .val (.int sh), .val (.int nu), .val (.int w1), .val (.int ma), .val (.int mb), .val (.int mc), .val (.int md), .val (.int s0), .val (.int hi0), .val (.int lo1), .val (.int s3), .val (.int s1), .val (.int s2), .val (.ref b12), .val (.int fr), .val (.int to), .val (.int nm), .val (.int r), .unset] [(.int (1 : Int32)), (.int (fr + b0))]))
        refine Goes.st (fun t k => XS.iload X19.here hx rfl (hb hby at_233) rfl  k) ?_
        show Goes p e below s _ _ _ (T19.setTop (mkF m 235 #[.val (.int v0), .val (.int v1), .val (.int v2), .val (.int v3), .val (.int sh), .val (.int nu), .val (.int w1), .val (.int ma), .val (.int mb), .val (.int mc), .val (.int md), .val (.int s0), .val (.int hi0), .val (.int lo1), .val (.int s3), .val (.int s1), .val (.int s2), .val (.ref b12), .val (.int fr), .val (.int to), .val (.int nm), .val (.int r), .unset] [(.int fr), (.int (1 : Int32)), (.int (fr + b0))]))
        refine Goes.st (fun t k => XS.iload X19.here hx rfl (hb hby at_235) rfl  k) ?_
        show Goes p e below s _ _ _ (T19.setTop (mkF m 237 #[.val (.int v0), .val (.int v1), .val (.int v2), .val (.int v3), .val (.int sh), .val (.int nu), .val (.int w1), .val (.int ma), .val (.int mb), .val (.int mc), .val (.int md), .val (.int s0), .val (.int hi0), .val (.int lo1), .val (.int s3), .val (.int s1), .val (.int s2), .val (.ref b12), .val (.int fr), .val (.int to), .val (.int nm), .val (.int r), .unset] [(.int to), (.int fr), (.int (1 : Int32)), (.int (fr + b0))]))
        refine Goes.st (fun t k => XS.iload X19.here hx rfl (hb hby at_237) rfl  k) ?_
        show Goes p e below s _ _ _ (T19.setTop (mkF m 239 #[.val (.int v0), .val (.int v1), .val (.int v2), .val (.int v3), .val (.int sh), .val (.int nu), .val (.int w1), .val (.int ma), .val (.int mb), .val (.int mc), .val (.int md), .val (.int s0), .val (.int hi0), .val (.int lo1), .val (.int s3), .val (.int s1), .val (.int s2), .val (.ref b12), .val (.int fr), .val (.int to), .val (.int nm), .val (.int r), .unset] [(.int s1), (.int to), (.int fr), (.int (1 : Int32)), (.int (fr + b0))]))
        refine Goes.st (fun t k => XS.iload X19.here hx rfl (hb hby at_239) rfl  k) ?_
        show Goes p e below s _ _ _ (T19.setTop (mkF m 241 #[.val (.int v0), .val (.int v1), .val (.int v2), .val (.int v3), .val (.int sh), .val (.int nu), .val (.int w1), .val (.int ma), .val (.int mb), .val (.int mc), .val (.int md), .val (.int s0), .val (.int hi0), .val (.int lo1), .val (.int s3), .val (.int s1), .val (.int s2), .val (.ref b12), .val (.int fr), .val (.int to), .val (.int nm), .val (.int r), .unset] [(.int nm), (.int s1), (.int to), (.int fr), (.int (1 : Int32)), (.int (fr + b0))]))
        obtain ⟨_, _, ⟨T20, L20, k20, n20⟩, -, X20, ⟨Lc20, hQ20, l20, y20, z20⟩, st20⟩ := Jvm.LawKit.callS X19 hx (y := (⟨"com/example/lockwright/lockwright/planning/ChainSpansAtLeastPinLaw", "below", "(IIIII)I"⟩ : MethodName)) hown (mvT hZ (hw _ (List.mem_of_getElem? (i := 12) rfl))) (mvT hZ (hw _ (List.mem_of_getElem? (i := 13) rfl))) (mvT hZ (hw _ (List.mem_of_getElem? (i := 14) rfl))) (mvT hZ (hw _ (List.mem_of_getElem? (i := 15) rfl))) (by decide) (backOf (W := 1) (own_rmB l Z a0 hw [] 1 fr to s1 nm h17 n0 Z17 ) hZ (hw _ (List.mem_of_getElem? (i := 15) rfl)) (hw _ (List.mem_of_getElem? (i := 14) rfl)) (by decide) (by decide)) (g := (mkF m 241 #[.val (.int v0), .val (.int v1), .val (.int v2), .val (.int v3), .val (.int sh), .val (.int nu), .val (.int w1), .val (.int ma), .val (.int mb), .val (.int mc), .val (.int md), .val (.int s0), .val (.int hi0), .val (.int lo1), .val (.int s3), .val (.int s1), .val (.int s2), .val (.ref b12), .val (.int fr), .val (.int to), .val (.int nm), .val (.int r), .unset] [(.int nm), (.int s1), (.int to), (.int fr), (.int (1 : Int32)), (.int (fr + b0))])) rfl (by rw [hml]; rfl) (argsL := [(.int (1 : Int32)), (.int fr), (.int to), (.int s1), (.int nm)]) (rest := [(.int (fr + b0))]) (lenOf own_pd59 rfl) rfl (by show 2 * 0 + _ ≤ _; exact Nat.le_of_eq rfl) (hb hby at_241) (fun _ _ => ⟨rfl, EQb0, (by decide : 1 + 0 ≤ _), (by decide : 4 + 0 ≤ _)⟩)
        dsimp only [Pt.U, Pt.locs, Pt.cells, Pt.slots] at X20 l20 y20 z20 st20 hQ20
        subst l20 y20 z20
        obtain ⟨b1, rfl, N20q, EQb1, hb1⟩ := hQ20
        have N20 := Fr.app N19 N20q
        refine Goes.st st20 ?_
        show Goes p e below s _ _ _ (T20.setTop (mkF m 244 #[.val (.int v0), .val (.int v1), .val (.int v2), .val (.int v3), .val (.int sh), .val (.int nu), .val (.int w1), .val (.int ma), .val (.int mb), .val (.int mc), .val (.int md), .val (.int s0), .val (.int hi0), .val (.int lo1), .val (.int s3), .val (.int s1), .val (.int s2), .val (.ref b12), .val (.int fr), .val (.int to), .val (.int nm), .val (.int r), .unset] [(.int b1), (.int (fr + b0))]))
        refine Goes.st (fun t k => XS.iadd X20.here hx rfl (hb hby at_244) rfl k) ?_
        show Goes p e below s _ _ _ (T20.setTop (mkF m 245 #[.val (.int v0), .val (.int v1), .val (.int v2), .val (.int v3), .val (.int sh), .val (.int nu), .val (.int w1), .val (.int ma), .val (.int mb), .val (.int mc), .val (.int md), .val (.int s0), .val (.int hi0), .val (.int lo1), .val (.int s3), .val (.int s1), .val (.int s2), .val (.ref b12), .val (.int fr), .val (.int to), .val (.int nm), .val (.int r), .unset] [(.int ((fr + b0) + b1))]))
        refine Goes.st (fun t k => XS.iconst X20.here hx rfl (hb hby at_245) k) ?_
        show Goes p e below s _ _ _ (T20.setTop (mkF m 246 #[.val (.int v0), .val (.int v1), .val (.int v2), .val (.int v3), .val (.int sh), .val (.int nu), .val (.int w1), .val (.int ma), .val (.int mb), .val (.int mc), .val (.int md), .val (.int s0), .val (.int hi0), .val (.int lo1), .val (.int s3), .val (.int s1), .val (.int s2), .val (.ref b12), .val (.int fr), .val (.int to), .val (.int nm), .val (.int r), .unset] [(.int (2 : Int32)), (.int ((fr + b0) + b1))]))
        refine Goes.st (fun t k => XS.iload X20.here hx rfl (hb hby at_246) rfl  k) ?_
        show Goes p e below s _ _ _ (T20.setTop (mkF m 248 #[.val (.int v0), .val (.int v1), .val (.int v2), .val (.int v3), .val (.int sh), .val (.int nu), .val (.int w1), .val (.int ma), .val (.int mb), .val (.int mc), .val (.int md), .val (.int s0), .val (.int hi0), .val (.int lo1), .val (.int s3), .val (.int s1), .val (.int s2), .val (.ref b12), .val (.int fr), .val (.int to), .val (.int nm), .val (.int r), .unset] [(.int fr), (.int (2 : Int32)), (.int ((fr + b0) + b1))]))
        refine Goes.st (fun t k => XS.iload X20.here hx rfl (hb hby at_248) rfl  k) ?_
        show Goes p e below s _ _ _ (T20.setTop (mkF m 250 #[.val (.int v0), .val (.int v1), .val (.int v2), .val (.int v3), .val (.int sh), .val (.int nu), .val (.int w1), .val (.int ma), .val (.int mb), .val (.int mc), .val (.int md), .val (.int s0), .val (.int hi0), .val (.int lo1), .val (.int s3), .val (.int s1), .val (.int s2), .val (.ref b12), .val (.int fr), .val (.int to), .val (.int nm), .val (.int r), .unset] [(.int to), (.int fr), (.int (2 : Int32)), (.int ((fr + b0) + b1))]))
        refine Goes.st (fun t k => XS.iload X20.here hx rfl (hb hby at_250) rfl  k) ?_
        show Goes p e below s _ _ _ (T20.setTop (mkF m 252 #[.val (.int v0), .val (.int v1), .val (.int v2), .val (.int v3), .val (.int sh), .val (.int nu), .val (.int w1), .val (.int ma), .val (.int mb), .val (.int mc), .val (.int md), .val (.int s0), .val (.int hi0), .val (.int lo1), .val (.int s3), .val (.int s1), .val (.int s2), .val (.ref b12), .val (.int fr), .val (.int to), .val (.int nm), .val (.int r), .unset] [(.int s2), (.int to), (.int fr), (.int (2 : Int32)), (.int ((fr + b0) + b1))]))
        refine Goes.st (fun t k => XS.iload X20.here hx rfl (hb hby at_252) rfl  k) ?_
        show Goes p e below s _ _ _ (T20.setTop (mkF m 254 #[.val (.int v0), .val (.int v1), .val (.int v2), .val (.int v3), .val (.int sh), .val (.int nu), .val (.int w1), .val (.int ma), .val (.int mb), .val (.int mc), .val (.int md), .val (.int s0), .val (.int hi0), .val (.int lo1), .val (.int s3), .val (.int s1), .val (.int s2), .val (.ref b12), .val (.int fr), .val (.int to), .val (.int nm), .val (.int r), .unset] [(.int nm), (.int s2), (.int to), (.int fr), (.int (2 : Int32)), (.int ((fr + b0) + b1))]))
        obtain ⟨_, _, ⟨T21, L21, k21, n21⟩, -, X21, ⟨Lc21, hQ21, l21, y21, z21⟩, st21⟩ := Jvm.LawKit.callS X20 hx (y := (⟨"com/example/lockwright/lockwright/planning/ChainSpansAtLeastPinLaw", "below", "(IIIII)I"⟩ : MethodName)) hown (mvT hZ (hw _ (List.mem_of_getElem? (i := 12) rfl))) (mvT hZ (hw _ (List.mem_of_getElem? (i := 13) rfl))) (mvT hZ (hw _ (List.mem_of_getElem? (i := 14) rfl))) (mvT hZ (hw _ (List.mem_of_getElem? (i := 15) rfl))) (by decide) (backOf (W := 1) (own_rmB l Z a0 hw [] 2 fr to s2 nm h17 n0 Z17 ) hZ (hw _ (List.mem_of_getElem? (i := 15) rfl)) (hw _ (List.mem_of_getElem? (i := 14) rfl)) (by decide) (by decide)) (g := (mkF m 254 #[.val (.int v0), .val (.int v1), .val (.int v2), .val (.int v3), .val (.int sh), .val (.int nu), .val (.int w1), .val (.int ma), .val (.int mb), .val (.int mc), .val (.int md), .val (.int s0), .val (.int hi0), .val (.int lo1), .val (.int s3), .val (.int s1), .val (.int s2), .val (.ref b12), .val (.int fr), .val (.int to), .val (.int nm), .val (.int r), .unset] [(.int nm), (.int s2), (.int to), (.int fr), (.int (2 : Int32)), (.int ((fr + b0) + b1))])) rfl (by rw [hml]; rfl) (argsL := [(.int (2 : Int32)), (.int fr), (.int to), (.int s2), (.int nm)]) (rest := [(.int ((fr + b0) + b1))]) (lenOf own_pd59 rfl) rfl (by show 2 * 0 + _ ≤ _; exact Nat.le_of_eq rfl) (hb hby at_254) (fun _ _ => ⟨rfl, EQb1, (by decide : 1 + 0 ≤ _), (by decide : 4 + 0 ≤ _)⟩)
        dsimp only [Pt.U, Pt.locs, Pt.cells, Pt.slots] at X21 l21 y21 z21 st21 hQ21
        subst l21 y21 z21
        obtain ⟨b2, rfl, N21q, EQb2, hb2⟩ := hQ21
        have N21 := Fr.app N20 N21q
        refine Goes.st st21 ?_
        show Goes p e below s _ _ _ (T21.setTop (mkF m 257 #[.val (.int v0), .val (.int v1), .val (.int v2), .val (.int v3), .val (.int sh), .val (.int nu), .val (.int w1), .val (.int ma), .val (.int mb), .val (.int mc), .val (.int md), .val (.int s0), .val (.int hi0), .val (.int lo1), .val (.int s3), .val (.int s1), .val (.int s2), .val (.ref b12), .val (.int fr), .val (.int to), .val (.int nm), .val (.int r), .unset] [(.int b2), (.int ((fr + b0) + b1))]))
        refine Goes.st (fun t k => XS.iadd X21.here hx rfl (hb hby at_257) rfl k) ?_
        show Goes p e below s _ _ _ (T21.setTop (mkF m 258 #[.val (.int v0), .val (.int v1), .val (.int v2), .val (.int v3), .val (.int sh), .val (.int nu), .val (.int w1), .val (.int ma), .val (.int mb), .val (.int mc), .val (.int md), .val (.int s0), .val (.int hi0), .val (.int lo1), .val (.int s3), .val (.int s1), .val (.int s2), .val (.ref b12), .val (.int fr), .val (.int to), .val (.int nm), .val (.int r), .unset] [(.int (((fr + b0) + b1) + b2))]))
        refine Goes.st (fun t k => XS.iconst X21.here hx rfl (hb hby at_258) k) ?_
        show Goes p e below s _ _ _ (T21.setTop (mkF m 259 #[.val (.int v0), .val (.int v1), .val (.int v2), .val (.int v3), .val (.int sh), .val (.int nu), .val (.int w1), .val (.int ma), .val (.int mb), .val (.int mc), .val (.int md), .val (.int s0), .val (.int hi0), .val (.int lo1), .val (.int s3), .val (.int s1), .val (.int s2), .val (.ref b12), .val (.int fr), .val (.int to), .val (.int nm), .val (.int r), .unset] [(.int (3 : Int32)), (.int (((fr + b0) + b1) + b2))]))
        refine Goes.st (fun t k => XS.iload X21.here hx rfl (hb hby at_259) rfl  k) ?_
        show Goes p e below s _ _ _ (T21.setTop (mkF m 261 #[.val (.int v0), .val (.int v1), .val (.int v2), .val (.int v3), .val (.int sh), .val (.int nu), .val (.int w1), .val (.int ma), .val (.int mb), .val (.int mc), .val (.int md), .val (.int s0), .val (.int hi0), .val (.int lo1), .val (.int s3), .val (.int s1), .val (.int s2), .val (.ref b12), .val (.int fr), .val (.int to), .val (.int nm), .val (.int r), .unset] [(.int fr), (.int (3 : Int32)), (.int (((fr + b0) + b1) + b2))]))
        refine Goes.st (fun t k => XS.iload X21.here hx rfl (hb hby at_261) rfl  k) ?_
        show Goes p e below s _ _ _ (T21.setTop (mkF m 263 #[.val (.int v0), .val (.int v1), .val (.int v2), .val (.int v3), .val (.int sh), .val (.int nu), .val (.int w1), .val (.int ma), .val (.int mb), .val (.int mc), .val (.int md), .val (.int s0), .val (.int hi0), .val (.int lo1), .val (.int s3), .val (.int s1), .val (.int s2), .val (.ref b12), .val (.int fr), .val (.int to), .val (.int nm), .val (.int r), .unset] [(.int to), (.int fr), (.int (3 : Int32)), (.int (((fr + b0) + b1) + b2))]))
        refine Goes.st (fun t k => XS.iload X21.here hx rfl (hb hby at_263) rfl  k) ?_
        show Goes p e below s _ _ _ (T21.setTop (mkF m 265 #[.val (.int v0), .val (.int v1), .val (.int v2), .val (.int v3), .val (.int sh), .val (.int nu), .val (.int w1), .val (.int ma), .val (.int mb), .val (.int mc), .val (.int md), .val (.int s0), .val (.int hi0), .val (.int lo1), .val (.int s3), .val (.int s1), .val (.int s2), .val (.ref b12), .val (.int fr), .val (.int to), .val (.int nm), .val (.int r), .unset] [(.int s3), (.int to), (.int fr), (.int (3 : Int32)), (.int (((fr + b0) + b1) + b2))]))
        refine Goes.st (fun t k => XS.iload X21.here hx rfl (hb hby at_265) rfl  k) ?_
        show Goes p e below s _ _ _ (T21.setTop (mkF m 267 #[.val (.int v0), .val (.int v1), .val (.int v2), .val (.int v3), .val (.int sh), .val (.int nu), .val (.int w1), .val (.int ma), .val (.int mb), .val (.int mc), .val (.int md), .val (.int s0), .val (.int hi0), .val (.int lo1), .val (.int s3), .val (.int s1), .val (.int s2), .val (.ref b12), .val (.int fr), .val (.int to), .val (.int nm), .val (.int r), .unset] [(.int nm), (.int s3), (.int to), (.int fr), (.int (3 : Int32)), (.int (((fr + b0) + b1) + b2))]))
        obtain ⟨_, _, ⟨T22, L22, k22, n22⟩, -, X22, ⟨Lc22, hQ22, l22, y22, z22⟩, st22⟩ := Jvm.LawKit.callS X21 hx (y := (⟨"com/example/lockwright/lockwright/planning/ChainSpansAtLeastPinLaw", "below", "(IIIII)I"⟩ : MethodName)) hown (mvT hZ (hw _ (List.mem_of_getElem? (i := 12) rfl))) (mvT hZ (hw _ (List.mem_of_getElem? (i := 13) rfl))) (mvT hZ (hw _ (List.mem_of_getElem? (i := 14) rfl))) (mvT hZ (hw _ (List.mem_of_getElem? (i := 15) rfl))) (by decide) (backOf (W := 1) (own_rmB l Z a0 hw [] 3 fr to s3 nm h17 n0 Z17 ) hZ (hw _ (List.mem_of_getElem? (i := 15) rfl)) (hw _ (List.mem_of_getElem? (i := 14) rfl)) (by decide) (by decide)) (g := (mkF m 267 #[.val (.int v0), .val (.int v1), .val (.int v2), .val (.int v3), .val (.int sh), .val (.int nu), .val (.int w1), .val (.int ma), .val (.int mb), .val (.int mc), .val (.int md), .val (.int s0), .val (.int hi0), .val (.int lo1), .val (.int s3), .val (.int s1), .val (.int s2), .val (.ref b12), .val (.int fr), .val (.int to), .val (.int nm), .val (.int r), .unset] [(.int nm), (.int s3), (.int to), (.int fr), (.int (3 : Int32)), (.int (((fr + b0) + b1) + b2))])) rfl (by rw [hml]; rfl) (argsL := [(.int (3 : Int32)), (.int fr), (.int to), (.int s3), (.int nm)]) (rest := [(.int (((fr + b0) + b1) + b2))]) (lenOf own_pd59 rfl) rfl (by show 2 * 0 + _ ≤ _; exact Nat.le_of_eq rfl) (hb hby at_267) (fun _ _ => ⟨rfl, EQb2, (by decide : 1 + 0 ≤ _), (by decide : 4 + 0 ≤ _)⟩)
        dsimp only [Pt.U, Pt.locs, Pt.cells, Pt.slots] at X22 l22 y22 z22 st22 hQ22
        subst l22 y22 z22
        obtain ⟨b3, rfl, N22q, EQb3, hb3⟩ := hQ22
        have N22 := Fr.app N21 N22q
        refine Goes.st st22 ?_
        show Goes p e below s _ _ _ (T22.setTop (mkF m 270 #[.val (.int v0), .val (.int v1), .val (.int v2), .val (.int v3), .val (.int sh), .val (.int nu), .val (.int w1), .val (.int ma), .val (.int mb), .val (.int mc), .val (.int md), .val (.int s0), .val (.int hi0), .val (.int lo1), .val (.int s3), .val (.int s1), .val (.int s2), .val (.ref b12), .val (.int fr), .val (.int to), .val (.int nm), .val (.int r), .unset] [(.int b3), (.int (((fr + b0) + b1) + b2))]))
        refine Goes.st (fun t k => XS.iadd X22.here hx rfl (hb hby at_270) rfl k) ?_
        show Goes p e below s _ _ _ (T22.setTop (mkF m 271 #[.val (.int v0), .val (.int v1), .val (.int v2), .val (.int v3), .val (.int sh), .val (.int nu), .val (.int w1), .val (.int ma), .val (.int mb), .val (.int mc), .val (.int md), .val (.int s0), .val (.int hi0), .val (.int lo1), .val (.int s3), .val (.int s1), .val (.int s2), .val (.ref b12), .val (.int fr), .val (.int to), .val (.int nm), .val (.int r), .unset] [(.int ((((fr + b0) + b1) + b2) + b3))]))
        refine Goes.st (fun t k => XS.istore X22.here hx rfl (hb hby at_271) rfl  (l' := #[.val (.int v0), .val (.int v1), .val (.int v2), .val (.int v3), .val (.int sh), .val (.int nu), .val (.int w1), .val (.int ma), .val (.int mb), .val (.int mc), .val (.int md), .val (.int s0), .val (.int hi0), .val (.int lo1), .val (.int s3), .val (.int s1), .val (.int s2), .val (.ref b12), .val (.int fr), .val (.int to), .val (.int nm), .val (.int r), .val (.int ((((fr + b0) + b1) + b2) + b3))]) rfl k) ?_
        show Goes p e below s _ _ _ (T22.setTop (mkF m 273 #[.val (.int v0), .val (.int v1), .val (.int v2), .val (.int v3), .val (.int sh), .val (.int nu), .val (.int w1), .val (.int ma), .val (.int mb), .val (.int mc), .val (.int md), .val (.int s0), .val (.int hi0), .val (.int lo1), .val (.int s3), .val (.int s1), .val (.int s2), .val (.ref b12), .val (.int fr), .val (.int to), .val (.int nm), .val (.int r), .val (.int ((((fr + b0) + b1) + b2) + b3))] []))
        refine Goes.st (fun t k => XS.iload X22.here hx rfl (hb hby at_273) rfl  k) ?_
        show Goes p e below s _ _ _ (T22.setTop (mkF m 275 #[.val (.int v0), .val (.int v1), .val (.int v2), .val (.int v3), .val (.int sh), .val (.int nu), .val (.int w1), .val (.int ma), .val (.int mb), .val (.int mc), .val (.int md), .val (.int s0), .val (.int hi0), .val (.int lo1), .val (.int s3), .val (.int s1), .val (.int s2), .val (.ref b12), .val (.int fr), .val (.int to), .val (.int nm), .val (.int r), .val (.int ((((fr + b0) + b1) + b2) + b3))] [(.int r)]))
        refine Goes.st (fun t k => XS.iload X22.here hx rfl (hb hby at_275) rfl  k) ?_
        show Goes p e below s _ _ _ (T22.setTop (mkF m 277 #[.val (.int v0), .val (.int v1), .val (.int v2), .val (.int v3), .val (.int sh), .val (.int nu), .val (.int w1), .val (.int ma), .val (.int mb), .val (.int mc), .val (.int md), .val (.int s0), .val (.int hi0), .val (.int lo1), .val (.int s3), .val (.int s1), .val (.int s2), .val (.ref b12), .val (.int fr), .val (.int to), .val (.int nm), .val (.int r), .val (.int ((((fr + b0) + b1) + b2) + b3))] [(.int ((((fr + b0) + b1) + b2) + b3)), (.int r)]))
        refine Goes.st (fun t k => XS.icmpNo X22.here hx rfl (hb hby at_277) rfl (teq (own_law hf hft ht ra1 ra2 ra3 ra4 hb0 hb1 hb2 hb3)).2 k) ?_
        show Goes p e below s _ _ _ (T22.setTop (mkF m 280 #[.val (.int v0), .val (.int v1), .val (.int v2), .val (.int v3), .val (.int sh), .val (.int nu), .val (.int w1), .val (.int ma), .val (.int mb), .val (.int mc), .val (.int md), .val (.int s0), .val (.int hi0), .val (.int lo1), .val (.int s3), .val (.int s1), .val (.int s2), .val (.ref b12), .val (.int fr), .val (.int to), .val (.int nm), .val (.int r), .val (.int ((((fr + b0) + b1) + b2) + b3))] []))
        refine Goes.st (fun t k => XS.iconst X22.here hx rfl (hb hby at_280) k) ?_
        show Goes p e below s _ _ _ (T22.setTop (mkF m 281 #[.val (.int v0), .val (.int v1), .val (.int v2), .val (.int v3), .val (.int sh), .val (.int nu), .val (.int w1), .val (.int ma), .val (.int mb), .val (.int mc), .val (.int md), .val (.int s0), .val (.int hi0), .val (.int lo1), .val (.int s3), .val (.int s1), .val (.int s2), .val (.ref b12), .val (.int fr), .val (.int to), .val (.int nm), .val (.int r), .val (.int ((((fr + b0) + b1) + b2) + b3))] [(.int (1 : Int32))]))
        refine Goes.st (fun t k => XS.goto X22.here hx rfl (pc0 := 281) (pc' := 285) rfl (hb hby at_281) (by decide) (by decide) k) ?_
        show Goes p e below s _ _ _ (T22.setTop (mkF m 285 #[.val (.int v0), .val (.int v1), .val (.int v2), .val (.int v3), .val (.int sh), .val (.int nu), .val (.int w1), .val (.int ma), .val (.int mb), .val (.int mc), .val (.int md), .val (.int s0), .val (.int hi0), .val (.int lo1), .val (.int s3), .val (.int s1), .val (.int s2), .val (.ref b12), .val (.int fr), .val (.int to), .val (.int nm), .val (.int r), .val (.int ((((fr + b0) + b1) + b2) + b3))] [(.int (1 : Int32))]))
        exact Goes.retN X22 hx (t := .boolean) hret hlk (by simp) (hb hby at_285) (by decide) (by decide) (⟨rfl, N22⟩)
      by_cases hk : (((sh.toUInt32 >>> ((16 : Int32) &&& 31).toUInt32).toInt32) &&& (1 : Int32)) = (0 : Int32)
      · refine Goes.st (fun t k => XS.ifYes X17.here hx rfl (pc0 := 179) (pc' := 204) rfl (hb hby at_179) rfl ((if0 _ _).trans (teq hk).1) (by decide) (by decide) k) ?_
        exact hj3 _
      · refine Goes.st (fun t k => XS.ifNo X17.here hx rfl (hb hby at_179) rfl ((if0 _ _).trans (feq hk).1) k) ?_
        show Goes p e below s _ _ _ (T17.setTop (mkF m 182 #[.val (.int v0), .val (.int v1), .val (.int v2), .val (.int v3), .val (.int sh), .val (.int nu), .val (.int w1), .val (.int ma), .val (.int mb), .val (.int mc), .val (.int md), .val (.int s0), .val (.int hi0), .val (.int lo1), .val (.int s3), .val (.int s1), .val (.int s2), .val (.ref b12), .val (.int fr), .val (.int to), .val (.int nu), .unset, .unset] []))
        refine Goes.st (fun t k => XS.aload X17.here hx rfl (hb hby at_182) rfl rfl k) ?_
        show Goes p e below s _ _ _ (T17.setTop (mkF m 184 #[.val (.int v0), .val (.int v1), .val (.int v2), .val (.int v3), .val (.int sh), .val (.int nu), .val (.int w1), .val (.int ma), .val (.int mb), .val (.int mc), .val (.int md), .val (.int s0), .val (.int hi0), .val (.int lo1), .val (.int s3), .val (.int s1), .val (.int s2), .val (.ref b12), .val (.int fr), .val (.int to), .val (.int nu), .unset, .unset] [(.ref b12)]))
        refine Goes.st (fun t k => XS.iload X17.here hx rfl (hb hby at_184) rfl  k) ?_
        show Goes p e below s _ _ _ (T17.setTop (mkF m 186 #[.val (.int v0), .val (.int v1), .val (.int v2), .val (.int v3), .val (.int sh), .val (.int nu), .val (.int w1), .val (.int ma), .val (.int mb), .val (.int mc), .val (.int md), .val (.int s0), .val (.int hi0), .val (.int lo1), .val (.int s3), .val (.int s1), .val (.int s2), .val (.ref b12), .val (.int fr), .val (.int to), .val (.int nu), .unset, .unset] [(.int sh), (.ref b12)]))
        refine Goes.st (fun t k => XS.bipush X17.here hx rfl (hb hby at_186) k) ?_
        show Goes p e below s _ _ _ (T17.setTop (mkF m 188 #[.val (.int v0), .val (.int v1), .val (.int v2), .val (.int v3), .val (.int sh), .val (.int nu), .val (.int w1), .val (.int ma), .val (.int mb), .val (.int mc), .val (.int md), .val (.int s0), .val (.int hi0), .val (.int lo1), .val (.int s3), .val (.int s1), .val (.int s2), .val (.ref b12), .val (.int fr), .val (.int to), .val (.int nu), .unset, .unset] [(.int (17 : Int32)), (.int sh), (.ref b12)]))
        refine Goes.st (fun t k => XS.iushr X17.here hx rfl (hb hby at_188) rfl k) ?_
        show Goes p e below s _ _ _ (T17.setTop (mkF m 189 #[.val (.int v0), .val (.int v1), .val (.int v2), .val (.int v3), .val (.int sh), .val (.int nu), .val (.int w1), .val (.int ma), .val (.int mb), .val (.int mc), .val (.int md), .val (.int s0), .val (.int hi0), .val (.int lo1), .val (.int s3), .val (.int s1), .val (.int s2), .val (.ref b12), .val (.int fr), .val (.int to), .val (.int nu), .unset, .unset] [(.int ((sh.toUInt32 >>> ((17 : Int32) &&& 31).toUInt32).toInt32)), (.ref b12)]))
        refine Goes.st (fun t k => XS.iconst X17.here hx rfl (hb hby at_189) k) ?_
        show Goes p e below s _ _ _ (T17.setTop (mkF m 190 #[.val (.int v0), .val (.int v1), .val (.int v2), .val (.int v3), .val (.int sh), .val (.int nu), .val (.int w1), .val (.int ma), .val (.int mb), .val (.int mc), .val (.int md), .val (.int s0), .val (.int hi0), .val (.int lo1), .val (.int s3), .val (.int s1), .val (.int s2), .val (.ref b12), .val (.int fr), .val (.int to), .val (.int nu), .unset, .unset] [(.int (3 : Int32)), (.int ((sh.toUInt32 >>> ((17 : Int32) &&& 31).toUInt32).toInt32)), (.ref b12)]))
        refine Goes.st (fun t k => XS.iand X17.here hx rfl (hb hby at_190) rfl k) ?_
        show Goes p e below s _ _ _ (T17.setTop (mkF m 191 #[.val (.int v0), .val (.int v1), .val (.int v2), .val (.int v3), .val (.int sh), .val (.int nu), .val (.int w1), .val (.int ma), .val (.int mb), .val (.int mc), .val (.int md), .val (.int s0), .val (.int hi0), .val (.int lo1), .val (.int s3), .val (.int s1), .val (.int s2), .val (.ref b12), .val (.int fr), .val (.int to), .val (.int nu), .unset, .unset] [(.int (((sh.toUInt32 >>> ((17 : Int32) &&& 31).toUInt32).toInt32) &&& (3 : Int32))), (.ref b12)]))
        have hj := own_m3 ((sh.toUInt32 >>> ((17 : Int32) &&& 31).toUInt32).toInt32)
        show Goes p e below s _ _ _ (T17.setTop (mkF m 191 #[.val (.int v0), .val (.int v1), .val (.int v2), .val (.int v3), .val (.int sh), .val (.int nu), .val (.int w1), .val (.int ma), .val (.int mb), .val (.int mc), .val (.int md), .val (.int s0), .val (.int hi0), .val (.int lo1), .val (.int s3), .val (.int s1), .val (.int s2), .val (.ref b12), .val (.int fr), .val (.int to), .val (.int nu), .unset, .unset] [(.int (((sh.toUInt32 >>> ((17 : Int32) &&& 31).toUInt32).toInt32) &&& (3 : Int32))), (.ref b12)]))
        have VV23 := V_b12
        obtain ⟨cl23, Ar23, -, S23, M23, H23, -⟩ := VV23
        have hin23 := inb_of S23 (j := (((sh.toUInt32 >>> ((17 : Int32) &&& 31).toUInt32).toInt32) &&& (3 : Int32))) (own_in (n := 4) rfl hj.1 hj.2)
        refine Goes.st (fun t k => X17.iaload hx (j := (((sh.toUInt32 >>> ((17 : Int32) &&& 31).toUInt32).toInt32) &&& (3 : Int32))) (v := (.int (own_g s0 s1 s2 s3 (((sh.toUInt32 >>> ((17 : Int32) &&& 31).toUInt32).toInt32) &&& (3 : Int32))))) (by rw [e17]; exact Ar23.1) (State.isArrayOf_alike hZ.alike Ar23.2.1) Ar23.2.2 hin23 (Has.at H23 hin23 (own_gD hj.1 hj.2)) (g := (mkF m 191 #[.val (.int v0), .val (.int v1), .val (.int v2), .val (.int v3), .val (.int sh), .val (.int nu), .val (.int w1), .val (.int ma), .val (.int mb), .val (.int mc), .val (.int md), .val (.int s0), .val (.int hi0), .val (.int lo1), .val (.int s3), .val (.int s1), .val (.int s2), .val (.ref b12), .val (.int fr), .val (.int to), .val (.int nu), .unset, .unset] [(.int (((sh.toUInt32 >>> ((17 : Int32) &&& 31).toUInt32).toInt32) &&& (3 : Int32))), (.ref b12)])) rfl rfl (hb hby at_191) _ k) ?_
        show Goes p e below s _ _ _ (T17.setTop (mkF m 192 #[.val (.int v0), .val (.int v1), .val (.int v2), .val (.int v3), .val (.int sh), .val (.int nu), .val (.int w1), .val (.int ma), .val (.int mb), .val (.int mc), .val (.int md), .val (.int s0), .val (.int hi0), .val (.int lo1), .val (.int s3), .val (.int s1), .val (.int s2), .val (.ref b12), .val (.int fr), .val (.int to), .val (.int nu), .unset, .unset] [(.int (own_g s0 s1 s2 s3 (((sh.toUInt32 >>> ((17 : Int32) &&& 31).toUInt32).toInt32) &&& (3 : Int32))))]))
        refine Goes.st (fun t k => XS.iload X17.here hx rfl (hb hby at_192) rfl  k) ?_
        show Goes p e below s _ _ _ (T17.setTop (mkF m 194 #[.val (.int v0), .val (.int v1), .val (.int v2), .val (.int v3), .val (.int sh), .val (.int nu), .val (.int w1), .val (.int ma), .val (.int mb), .val (.int mc), .val (.int md), .val (.int s0), .val (.int hi0), .val (.int lo1), .val (.int s3), .val (.int s1), .val (.int s2), .val (.ref b12), .val (.int fr), .val (.int to), .val (.int nu), .unset, .unset] [(.int sh), (.int (own_g s0 s1 s2 s3 (((sh.toUInt32 >>> ((17 : Int32) &&& 31).toUInt32).toInt32) &&& (3 : Int32))))]))
        refine Goes.st (fun t k => XS.bipush X17.here hx rfl (hb hby at_194) k) ?_
        show Goes p e below s _ _ _ (T17.setTop (mkF m 196 #[.val (.int v0), .val (.int v1), .val (.int v2), .val (.int v3), .val (.int sh), .val (.int nu), .val (.int w1), .val (.int ma), .val (.int mb), .val (.int mc), .val (.int md), .val (.int s0), .val (.int hi0), .val (.int lo1), .val (.int s3), .val (.int s1), .val (.int s2), .val (.ref b12), .val (.int fr), .val (.int to), .val (.int nu), .unset, .unset] [(.int (19 : Int32)), (.int sh), (.int (own_g s0 s1 s2 s3 (((sh.toUInt32 >>> ((17 : Int32) &&& 31).toUInt32).toInt32) &&& (3 : Int32))))]))
        refine Goes.st (fun t k => XS.iushr X17.here hx rfl (hb hby at_196) rfl k) ?_
        show Goes p e below s _ _ _ (T17.setTop (mkF m 197 #[.val (.int v0), .val (.int v1), .val (.int v2), .val (.int v3), .val (.int sh), .val (.int nu), .val (.int w1), .val (.int ma), .val (.int mb), .val (.int mc), .val (.int md), .val (.int s0), .val (.int hi0), .val (.int lo1), .val (.int s3), .val (.int s1), .val (.int s2), .val (.ref b12), .val (.int fr), .val (.int to), .val (.int nu), .unset, .unset] [(.int ((sh.toUInt32 >>> ((19 : Int32) &&& 31).toUInt32).toInt32)), (.int (own_g s0 s1 s2 s3 (((sh.toUInt32 >>> ((17 : Int32) &&& 31).toUInt32).toInt32) &&& (3 : Int32))))]))
        refine Goes.st (fun t k => XS.iconst X17.here hx rfl (hb hby at_197) k) ?_
        show Goes p e below s _ _ _ (T17.setTop (mkF m 198 #[.val (.int v0), .val (.int v1), .val (.int v2), .val (.int v3), .val (.int sh), .val (.int nu), .val (.int w1), .val (.int ma), .val (.int mb), .val (.int mc), .val (.int md), .val (.int s0), .val (.int hi0), .val (.int lo1), .val (.int s3), .val (.int s1), .val (.int s2), .val (.ref b12), .val (.int fr), .val (.int to), .val (.int nu), .unset, .unset] [(.int (3 : Int32)), (.int ((sh.toUInt32 >>> ((19 : Int32) &&& 31).toUInt32).toInt32)), (.int (own_g s0 s1 s2 s3 (((sh.toUInt32 >>> ((17 : Int32) &&& 31).toUInt32).toInt32) &&& (3 : Int32))))]))
        refine Goes.st (fun t k => XS.iand X17.here hx rfl (hb hby at_198) rfl k) ?_
        show Goes p e below s _ _ _ (T17.setTop (mkF m 199 #[.val (.int v0), .val (.int v1), .val (.int v2), .val (.int v3), .val (.int sh), .val (.int nu), .val (.int w1), .val (.int ma), .val (.int mb), .val (.int mc), .val (.int md), .val (.int s0), .val (.int hi0), .val (.int lo1), .val (.int s3), .val (.int s1), .val (.int s2), .val (.ref b12), .val (.int fr), .val (.int to), .val (.int nu), .unset, .unset] [(.int (((sh.toUInt32 >>> ((19 : Int32) &&& 31).toUInt32).toInt32) &&& (3 : Int32))), (.int (own_g s0 s1 s2 s3 (((sh.toUInt32 >>> ((17 : Int32) &&& 31).toUInt32).toInt32) &&& (3 : Int32))))]))
        refine Goes.st (fun t k => XS.iconst X17.here hx rfl (hb hby at_199) k) ?_
        show Goes p e below s _ _ _ (T17.setTop (mkF m 200 #[.val (.int v0), .val (.int v1), .val (.int v2), .val (.int v3), .val (.int sh), .val (.int nu), .val (.int w1), .val (.int ma), .val (.int mb), .val (.int mc), .val (.int md), .val (.int s0), .val (.int hi0), .val (.int lo1), .val (.int s3), .val (.int s1), .val (.int s2), .val (.ref b12), .val (.int fr), .val (.int to), .val (.int nu), .unset, .unset] [(.int (1 : Int32)), (.int (((sh.toUInt32 >>> ((19 : Int32) &&& 31).toUInt32).toInt32) &&& (3 : Int32))), (.int (own_g s0 s1 s2 s3 (((sh.toUInt32 >>> ((17 : Int32) &&& 31).toUInt32).toInt32) &&& (3 : Int32))))]))
        refine Goes.st (fun t k => XS.isub X17.here hx rfl (hb hby at_200) rfl k) ?_
        show Goes p e below s _ _ _ (T17.setTop (mkF m 201 #[.val (.int v0), .val (.int v1), .val (.int v2), .val (.int v3), .val (.int sh), .val (.int nu), .val (.int w1), .val (.int ma), .val (.int mb), .val (.int mc), .val (.int md), .val (.int s0), .val (.int hi0), .val (.int lo1), .val (.int s3), .val (.int s1), .val (.int s2), .val (.ref b12), .val (.int fr), .val (.int to), .val (.int nu), .unset, .unset] [(.int ((((sh.toUInt32 >>> ((19 : Int32) &&& 31).toUInt32).toInt32) &&& (3 : Int32)) - (1 : Int32))), (.int (own_g s0 s1 s2 s3 (((sh.toUInt32 >>> ((17 : Int32) &&& 31).toUInt32).toInt32) &&& (3 : Int32))))]))
        refine Goes.st (fun t k => XS.iadd X17.here hx rfl (hb hby at_201) rfl k) ?_
        show Goes p e below s _ _ _ (T17.setTop (mkF m 202 #[.val (.int v0), .val (.int v1), .val (.int v2), .val (.int v3), .val (.int sh), .val (.int nu), .val (.int w1), .val (.int ma), .val (.int mb), .val (.int mc), .val (.int md), .val (.int s0), .val (.int hi0), .val (.int lo1), .val (.int s3), .val (.int s1), .val (.int s2), .val (.ref b12), .val (.int fr), .val (.int to), .val (.int nu), .unset, .unset] [(.int ((own_g s0 s1 s2 s3 (((sh.toUInt32 >>> ((17 : Int32) &&& 31).toUInt32).toInt32) &&& (3 : Int32))) + ((((sh.toUInt32 >>> ((19 : Int32) &&& 31).toUInt32).toInt32) &&& (3 : Int32)) - (1 : Int32))))]))
        refine Goes.st (fun t k => XS.istore X17.here hx rfl (hb hby at_202) rfl  (l' := #[.val (.int v0), .val (.int v1), .val (.int v2), .val (.int v3), .val (.int sh), .val (.int nu), .val (.int w1), .val (.int ma), .val (.int mb), .val (.int mc), .val (.int md), .val (.int s0), .val (.int hi0), .val (.int lo1), .val (.int s3), .val (.int s1), .val (.int s2), .val (.ref b12), .val (.int fr), .val (.int to), .val (.int ((own_g s0 s1 s2 s3 (((sh.toUInt32 >>> ((17 : Int32) &&& 31).toUInt32).toInt32) &&& (3 : Int32))) + ((((sh.toUInt32 >>> ((19 : Int32) &&& 31).toUInt32).toInt32) &&& (3 : Int32)) - (1 : Int32)))), .unset, .unset]) rfl k) ?_
        show Goes p e below s _ _ _ (T17.setTop (mkF m 204 #[.val (.int v0), .val (.int v1), .val (.int v2), .val (.int v3), .val (.int sh), .val (.int nu), .val (.int w1), .val (.int ma), .val (.int mb), .val (.int mc), .val (.int md), .val (.int s0), .val (.int hi0), .val (.int lo1), .val (.int s3), .val (.int s1), .val (.int s2), .val (.ref b12), .val (.int fr), .val (.int to), .val (.int ((own_g s0 s1 s2 s3 (((sh.toUInt32 >>> ((17 : Int32) &&& 31).toUInt32).toInt32) &&& (3 : Int32))) + ((((sh.toUInt32 >>> ((19 : Int32) &&& 31).toUInt32).toInt32) &&& (3 : Int32)) - (1 : Int32)))), .unset, .unset] []))
        exact hj3 _
    by_cases hsw : t0 < f0
    · refine Goes.st (fun t k => XS.icmpNo X16.here hx rfl (hb hby at_153) rfl (tlt hsw).2.2.2 k) ?_
      rw [own_lt] at hsw
      show Goes p e below s _ _ _ (T16.setTop (mkF m 156 #[.val (.int v0), .val (.int v1), .val (.int v2), .val (.int v3), .val (.int sh), .val (.int nu), .val (.int w1), .val (.int ma), .val (.int mb), .val (.int mc), .val (.int md), .val (.int s0), .val (.int hi0), .val (.int lo1), .val (.int s3), .val (.int s1), .val (.int s2), .val (.ref b12), .val (.int f0), .val (.int t0), .unset, .unset, .unset] []))
      refine Goes.st (fun t k => XS.iload X16.here hx rfl (hb hby at_156) rfl  k) ?_
      show Goes p e below s _ _ _ (T16.setTop (mkF m 158 #[.val (.int v0), .val (.int v1), .val (.int v2), .val (.int v3), .val (.int sh), .val (.int nu), .val (.int w1), .val (.int ma), .val (.int mb), .val (.int mc), .val (.int md), .val (.int s0), .val (.int hi0), .val (.int lo1), .val (.int s3), .val (.int s1), .val (.int s2), .val (.ref b12), .val (.int f0), .val (.int t0), .unset, .unset, .unset] [(.int f0)]))
      refine Goes.st (fun t k => XS.istore X16.here hx rfl (hb hby at_158) rfl  (l' := #[.val (.int v0), .val (.int v1), .val (.int v2), .val (.int v3), .val (.int sh), .val (.int nu), .val (.int w1), .val (.int ma), .val (.int mb), .val (.int mc), .val (.int md), .val (.int s0), .val (.int hi0), .val (.int lo1), .val (.int s3), .val (.int s1), .val (.int s2), .val (.ref b12), .val (.int f0), .val (.int t0), .val (.int f0), .unset, .unset]) rfl k) ?_
      show Goes p e below s _ _ _ (T16.setTop (mkF m 160 #[.val (.int v0), .val (.int v1), .val (.int v2), .val (.int v3), .val (.int sh), .val (.int nu), .val (.int w1), .val (.int ma), .val (.int mb), .val (.int mc), .val (.int md), .val (.int s0), .val (.int hi0), .val (.int lo1), .val (.int s3), .val (.int s1), .val (.int s2), .val (.ref b12), .val (.int f0), .val (.int t0), .val (.int f0), .unset, .unset] []))
      refine Goes.st (fun t k => XS.iload X16.here hx rfl (hb hby at_160) rfl  k) ?_
      show Goes p e below s _ _ _ (T16.setTop (mkF m 162 #[.val (.int v0), .val (.int v1), .val (.int v2), .val (.int v3), .val (.int sh), .val (.int nu), .val (.int w1), .val (.int ma), .val (.int mb), .val (.int mc), .val (.int md), .val (.int s0), .val (.int hi0), .val (.int lo1), .val (.int s3), .val (.int s1), .val (.int s2), .val (.ref b12), .val (.int f0), .val (.int t0), .val (.int f0), .unset, .unset] [(.int t0)]))
      refine Goes.st (fun t k => XS.istore X16.here hx rfl (hb hby at_162) rfl  (l' := #[.val (.int v0), .val (.int v1), .val (.int v2), .val (.int v3), .val (.int sh), .val (.int nu), .val (.int w1), .val (.int ma), .val (.int mb), .val (.int mc), .val (.int md), .val (.int s0), .val (.int hi0), .val (.int lo1), .val (.int s3), .val (.int s1), .val (.int s2), .val (.ref b12), .val (.int t0), .val (.int t0), .val (.int f0), .unset, .unset]) rfl k) ?_
      show Goes p e below s _ _ _ (T16.setTop (mkF m 164 #[.val (.int v0), .val (.int v1), .val (.int v2), .val (.int v3), .val (.int sh), .val (.int nu), .val (.int w1), .val (.int ma), .val (.int mb), .val (.int mc), .val (.int md), .val (.int s0), .val (.int hi0), .val (.int lo1), .val (.int s3), .val (.int s1), .val (.int s2), .val (.ref b12), .val (.int t0), .val (.int t0), .val (.int f0), .unset, .unset] []))
      refine Goes.st (fun t k => XS.iload X16.here hx rfl (hb hby at_164) rfl  k) ?_
      show Goes p e below s _ _ _ (T16.setTop (mkF m 166 #[.val (.int v0), .val (.int v1), .val (.int v2), .val (.int v3), .val (.int sh), .val (.int nu), .val (.int w1), .val (.int ma), .val (.int mb), .val (.int mc), .val (.int md), .val (.int s0), .val (.int hi0), .val (.int lo1), .val (.int s3), .val (.int s1), .val (.int s2), .val (.ref b12), .val (.int t0), .val (.int t0), .val (.int f0), .unset, .unset] [(.int f0)]))
      refine Goes.st (fun t k => XS.istore X16.here hx rfl (hb hby at_166) rfl  (l' := #[.val (.int v0), .val (.int v1), .val (.int v2), .val (.int v3), .val (.int sh), .val (.int nu), .val (.int w1), .val (.int ma), .val (.int mb), .val (.int mc), .val (.int md), .val (.int s0), .val (.int hi0), .val (.int lo1), .val (.int s3), .val (.int s1), .val (.int s2), .val (.ref b12), .val (.int t0), .val (.int f0), .val (.int f0), .unset, .unset]) rfl k) ?_
      show Goes p e below s _ _ _ (T16.setTop (mkF m 168 #[.val (.int v0), .val (.int v1), .val (.int v2), .val (.int v3), .val (.int sh), .val (.int nu), .val (.int w1), .val (.int ma), .val (.int mb), .val (.int mc), .val (.int md), .val (.int s0), .val (.int hi0), .val (.int lo1), .val (.int s3), .val (.int s1), .val (.int s2), .val (.ref b12), .val (.int t0), .val (.int f0), .val (.int f0), .unset, .unset] []))
      exact hj2 _ _ _ _ _ _ X16 e16 N16 Z0''''' V_b12    (One.val rfl) ht0.1 (by omega) hf0.2
    · refine Goes.st (fun t k => XS.icmpYes X16.here hx rfl (pc0 := 153) (pc' := 168) rfl (hb hby at_153) rfl (flt hsw).2.2.2 (by decide) (by decide) k) ?_
      rw [own_lt] at hsw
      exact hj2 _ _ _ _ _ _ X16 e16 N16 Z0''''' V_b12    One.u hf0.1 (by omega) ht0.2
  by_cases hw1 : (((sh.toUInt32 >>> ((21 : Int32) &&& 31).toUInt32).toInt32) &&& (1 : Int32)) = (0 : Int32)
  · refine Goes.st (fun t k => XS.ifYes X0.here hx rfl (pc0 := 7) (pc' := 14) rfl (hb hby at_7) rfl ((if0 _ _).trans (teq hw1).1) (by decide) (by decide) k) ?_
    show Goes p e below s _ _ _ (s₁.setTop (mkF m 14 #[.val (.int v0), .val (.int v1), .val (.int v2), .val (.int v3), .val (.int sh), .val (.int nu), .unset, .unset, .unset, .unset, .unset, .unset, .unset, .unset, .unset, .unset, .unset, .unset, .unset, .unset, .unset, .unset, .unset] []))
    refine Goes.st (fun t k => XS.iloadN X0.here hx rfl (hb hby at_14) rfl  k) ?_
    show Goes p e below s _ _ _ (s₁.setTop (mkF m 15 #[.val (.int v0), .val (.int v1), .val (.int v2), .val (.int v3), .val (.int sh), .val (.int nu), .unset, .unset, .unset, .unset, .unset, .unset, .unset, .unset, .unset, .unset, .unset, .unset, .unset, .unset, .unset, .unset, .unset] [(.int v1)]))
    exact hj1 _
  · refine Goes.st (fun t k => XS.ifNo X0.here hx rfl (hb hby at_7) rfl ((if0 _ _).trans (feq hw1).1) k) ?_
    show Goes p e below s _ _ _ (s₁.setTop (mkF m 10 #[.val (.int v0), .val (.int v1), .val (.int v2), .val (.int v3), .val (.int sh), .val (.int nu), .unset, .unset, .unset, .unset, .unset, .unset, .unset, .unset, .unset, .unset, .unset, .unset, .unset, .unset, .unset, .unset, .unset] []))
    refine Goes.st (fun t k => XS.iloadN X0.here hx rfl (hb hby at_10) rfl  k) ?_
    show Goes p e below s _ _ _ (s₁.setTop (mkF m 11 #[.val (.int v0), .val (.int v1), .val (.int v2), .val (.int v3), .val (.int sh), .val (.int nu), .unset, .unset, .unset, .unset, .unset, .unset, .unset, .unset, .unset, .unset, .unset, .unset, .unset, .unset, .unset, .unset, .unset] [(.int v0)]))
    refine Goes.st (fun t k => XS.goto X0.here hx rfl (pc0 := 11) (pc' := 15) rfl (hb hby at_11) (by decide) (by decide) k) ?_
    show Goes p e below s _ _ _ (s₁.setTop (mkF m 15 #[.val (.int v0), .val (.int v1), .val (.int v2), .val (.int v3), .val (.int sh), .val (.int nu), .unset, .unset, .unset, .unset, .unset, .unset, .unset, .unset, .unset, .unset, .unset, .unset, .unset, .unset, .unset, .unset, .unset] [(.int v0)]))
    exact hj1 _
set_option maxRecDepth 65536 in
set_option maxHeartbeats 40000000 in
theorem comes_1 {Post : Tables → Env → Array Value → State → Outcome → State → Prop} (hpost : ∀ tb e args s v u, (limb_1_1.after args s (.returned v) u = true ∧ limb_1_2.after args s (.returned v) u = true ∧ True) → FrameEnd s (.returned v) u (Jvm.fieldLocs frame_1_writes args s ++ Jvm.arrayLocs frame_1_arrays args s ++ Jvm.staticLocs frame_1_statics s) 16 128 → Post tb e args s (.returned v) u) :
    ArmFor flags0 classFile x code maxLocals ret World_1 tables_1 room_1 Calls_1 rest_1 Pre_1 Post := by
  intro l hfl _ _ p e ha hc hk s m args below hf hA hF happ hP
  obtain ⟨hcalls, hrest, hpre⟩ := hP
  obtain ⟨-, -, -, hnamed, -, -, -, hat⟩ := (Spec.applies_iff hf).mp happ
  obtain ⟨hg, hn⟩ := and_e (Cond.before_iff.mp (show (Jvm.Cond.and given_1 narrow_1).before args s = true from hpre))
  obtain ⟨g0, gr0⟩ := and_e hg
  obtain ⟨ga0, gr1⟩ := and_e gr0
  obtain ⟨ga1, gr2⟩ := and_e gr1
  obtain ⟨ga2, gr3⟩ := and_e gr2
  obtain ⟨ga3, gr4⟩ := and_e gr3
  obtain ⟨ga4, gr5⟩ := and_e gr4
  have ga5 := gr5
  obtain ⟨w0, w1, w2, w3, w4, w5, rfl⟩ : ∃ w0 w1 w2 w3 w4 w5 : Value, args = #[w0, w1, w2, w3, w4, w5] := by
    have hs : args.size = 6 := by simpa [Cond.value, given_1] using g0
    obtain ⟨L⟩ := args
    match L, hs with
    | [w0, w1, w2, w3, w4, w5], _ => exact ⟨w0, w1, w2, w3, w4, w5, rfl⟩
  have hw := fun d (hd : d ∈ tables_1) => atoms_spec (ws := Jvm.Cond.code x code maxLocals ret :: tables_1) hat d (List.mem_cons_of_mem _ hd)
  have hfit : Fit s := fun {y c} hc i hi => by
    obtain ⟨ha, rfl⟩ := Array.getElem?_eq_some_iff.mp hc
    have q := List.all_eq_true.mp ((Array.all_eq_true_iff_forall_mem.mp hF) _ (Array.getElem_mem ha)) i (List.mem_range.mpr hi)
    simpa [Array.getElem?_eq_getElem hi] using q
  obtain ⟨i0, ei0⟩ := is_v ga0
  obtain rfl : w0 = (.int i0) := Option.some.inj ei0
  obtain ⟨i1, ei1⟩ := is_v ga1
  obtain rfl : w1 = (.int i1) := Option.some.inj ei1
  obtain ⟨i2, ei2⟩ := is_v ga2
  obtain rfl : w2 = (.int i2) := Option.some.inj ei2
  obtain ⟨i3, ei3⟩ := is_v ga3
  obtain rfl : w3 = (.int i3) := Option.some.inj ei3
  obtain ⟨i4, ei4⟩ := is_v ga4
  obtain rfl : w4 = (.int i4) := Option.some.inj ei4
  obtain ⟨i5, ei5⟩ := is_v ga5
  obtain rfl : w5 = (.int i5) := Option.some.inj ei5
  obtain ⟨n, o, h1, h2, h3, _, L, rfl, ⟨rfl, N⟩, hq⟩ := own_rm0 l s _ hw tables_1 i0 i1 i2 i3 i4 i5  s.heap s.heap.size (Nat.le_refl _)  p e ha hc hk s m _ below hf ((Spec.applies_iff_loose hf).mp happ).1 ⟨rfl, State.Warmed39.refl s, rfl⟩ trivial
  refine ⟨n, _, h1, h2, h3, hpost _ _ _ _ _ _ ⟨Cond.after_iff.mpr rfl, Cond.after_iff.mpr (eq_i res_at (Term.int_eval (1)) rfl), trivial⟩ ⟨hq.1, hq.2.1, (hq.2.2.sift fun y hy => Or.inr (N y hy)).mono (by decide) (by decide)⟩⟩
theorem main_1_1 : Claimed_1_1 := comes_1 fun _ _ _ _ _ _ h hF => ⟨h.1, hF⟩
theorem main_1_2 : Claimed_1_2 := comes_1 fun _ _ _ _ _ _ h hF => ⟨h.2.1, hF⟩
end Jvm.Pilot.@@N@@
namespace Jvm.Pilot.@@N@@
open Jvm Jvm.ClassFile Sem Op Lib Jvm.Free Jvm.Stand Jvm.Pilot.@@N@@.Jvm.D
/-! MADE BY PROGRAM (witnessworld.py) out of the Statement's table words and the real class files: 10 classes; the members and pool entries that the words name. The judged class is class 1, her method 2. -/
namespace start1
open Jvm.ClassFile
def u (s : String) : CpInfo := .utf8 (stringToUtf16 s)
/-- a pool by its gaps: so many unusable entries, then the entry; so many at the end -/
def gap : Nat → List CpInfo → List CpInfo
  | 0, r => r
  | n + 1, r => .unusable :: gap n r
def poolList (es : List (Nat × CpInfo)) (last : Nat) : List CpInfo := es.foldr (fun e r => gap e.1 (e.2 :: r)) (gap last [])
def pool (es : List (Nat × CpInfo)) (last : Nat) : Array CpInfo := ⟨poolList es last⟩
def fileOf (pool : Array CpInfo) (this : Nat) (attrs : Array Attribute := #[]) (ms : Array MethodInfo := #[]) (fl : Nat := 33) (sup : Nat := 0) (ifs : Array Nat := #[]) (fds : Array FieldInfo := #[]) : ClassFile where
  minorVersion := 0
  majorVersion := 65
  constantPool := pool
  accessFlags := fl
  thisClass := this
  superClass := sup
  interfaces := ifs
  fields := fds
  methods := ms
  attributes := attrs
def plain (name : String) (sup : Option ClassId) : Class where
  name := name
  kind := .ordinary
  loader := none
  accessFlags := 33
  super := sup
  interfaces := #[]
  cf := none
  fields := #[]
  methods := #[]
  instanceTypes := #[]
  staticTypes := #[]
  resolved := #[]
  callSites := []
  init := .initialized
  statics := none
  mirror := none

def pool0 : Array CpInfo := pool [(5, u "<init>"), (0, u "()V"), (1, .class_ 10), (1, u "java/lang/Object")] 113

def k0m0 : Method := { name := "<init>", desc := "()V", sig := { parameters := [], returnType := none }, accessFlags := 1, code := none }
/-- java/lang/Object -/
def k0 : Class := { plain "java/lang/Object" none with
  accessFlags := 33
  interfaces := #[]
  cf := some (fileOf pool0 8 #[] #[{ accessFlags := 1, nameIndex := 5, descriptorIndex := 6, attributes := #[] }] 33 0 #[] #[])
  fields := #[]
  methods := #[k0m0]
  instanceTypes := #[]
  staticTypes := #[]
  resolved := Array.replicate 124 none
  statics := none }

def pool1 : Array CpInfo := pool [(2, .class_ 4), (1, u "java/lang/Object"), (0, u "<init>"), (0, u "()V"), (0, .methodref 8 9), (0, .class_ 10), (0, .nameAndType 11 12), (0, u "java/lang/Math"), (0, u "min"), (0, u "(II)I"), (0, .methodref 8 14), (0, .nameAndType 15 12), (0, u "max"), (0, .methodref 17 18), (0, .class_ 19), (0, .nameAndType 20 21), (0, u "com/example/lockwright/lockwright/planning/ChainSpans"), (0, u "atLeast"), (0, u "([IIII)I"), (0, .methodref 23 24), (0, .class_ 25), (0, .nameAndType 26 27), (0, u "com/example/lockwright/lockwright/planning/ChainSpansAtLeastPinLaw"), (0, u "below"), (0, u "(IIIII)I"), (3, u "law"), (0, u "(IIIIII)Z")] 4

def k1m0 : Method := { name := "<init>", desc := "()V", sig := { parameters := [], returnType := none }, accessFlags := 1, code := none }
def k1c1 : Code := { maxStack := 2, maxLocals := 5, code := method_2_code, exceptionTable := #[], attributes := #[] }
def k1m1 : Method := { name := "below", desc := "(IIIII)I", sig := { parameters := [.int, .int, .int, .int, .int], returnType := some .int }, accessFlags := 10, code := some k1c1 }
def k1c2 : Code := { maxStack := 6, maxLocals := 23, code := code, exceptionTable := #[], attributes := #[] }
def k1m2 : Method := { name := "law", desc := "(IIIIII)Z", sig := { parameters := [.int, .int, .int, .int, .int, .int], returnType := some .boolean }, accessFlags := 9, code := some k1c2 }
/-- com/example/lockwright/lockwright/planning/ChainSpansAtLeastPinLaw -/
def k1 : Class := { plain "com/example/lockwright/lockwright/planning/ChainSpansAtLeastPinLaw" (some 0) with
  accessFlags := 49
  interfaces := #[]
  cf := some (fileOf pool1 23 #[] #[{ accessFlags := 1, nameIndex := 5, descriptorIndex := 6, attributes := #[] }, { accessFlags := 10, nameIndex := 26, descriptorIndex := 27, attributes := #[] }, { accessFlags := 9, nameIndex := 31, descriptorIndex := 32, attributes := #[] }] 49 2 #[] #[])
  fields := #[]
  methods := #[k1m0, k1m1, k1m2]
  instanceTypes := #[]
  staticTypes := #[]
  resolved := Array.replicate 37 none
  statics := none }

def pool2 : Array CpInfo := pool [(1, .class_ 2), (0, u "java/lang/Math"), (1, .class_ 6), (1, u "java/lang/Object"), (0, u "<init>"), (0, u "()V"), (89, .class_ 100), (1, u "java/lang/Math$RandomNumberGeneratorHolder"), (71, u "negativeZeroFloatBits"), (0, u "J"), (2, u "negativeZeroDoubleBits"), (21, u "max"), (2, u "min"), (43, u "$assertionsDisabled"), (0, u "Z"), (88, u "(II)I"), (2, u "twoToTheDoubleScaleDown"), (0, u "D"), (4, u "twoToTheDoubleScaleUp"), (9, u "E"), (3, u "PI"), (2, u "TAU"), (2, u "DEGREES_TO_RADIANS"), (0, u "RADIANS_TO_DEGREES")] 94

def k2m0 : Method := { name := "<init>", desc := "()V", sig := { parameters := [], returnType := none }, accessFlags := 2, code := none }
def k2c1 : Code := { maxStack := 2, maxLocals := 2, code := jdk_29_method_65_code, exceptionTable := #[], attributes := #[] }
def k2m1 : Method := { name := "max", desc := "(II)I", sig := { parameters := [.int, .int], returnType := some .int }, accessFlags := 9, code := some k2c1 }
def k2c2 : Code := { maxStack := 2, maxLocals := 2, code := jdk_29_method_69_code, exceptionTable := #[], attributes := #[] }
def k2m2 : Method := { name := "min", desc := "(II)I", sig := { parameters := [.int, .int], returnType := some .int }, accessFlags := 9, code := some k2c2 }
/-- java/lang/Math -/
def k2 : Class := { plain "java/lang/Math" (some 0) with
  accessFlags := 49
  interfaces := #[]
  cf := some (fileOf pool2 1 #[.nestMembers #[98]] #[{ accessFlags := 2, nameIndex := 7, descriptorIndex := 8, attributes := #[] }, { accessFlags := 9, nameIndex := 198, descriptorIndex := 335, attributes := #[] }, { accessFlags := 9, nameIndex := 201, descriptorIndex := 335, attributes := #[] }] 49 4 #[] #[{ accessFlags := 25, nameIndex := 354, descriptorIndex := 339, attributes := #[] }, { accessFlags := 25, nameIndex := 358, descriptorIndex := 339, attributes := #[] }, { accessFlags := 25, nameIndex := 361, descriptorIndex := 339, attributes := #[] }, { accessFlags := 26, nameIndex := 364, descriptorIndex := 339, attributes := #[] }, { accessFlags := 26, nameIndex := 365, descriptorIndex := 339, attributes := #[] }, { accessFlags := 26, nameIndex := 172, descriptorIndex := 173, attributes := #[] }, { accessFlags := 26, nameIndex := 176, descriptorIndex := 173, attributes := #[] }, { accessFlags := 8, nameIndex := 344, descriptorIndex := 339, attributes := #[] }, { accessFlags := 8, nameIndex := 338, descriptorIndex := 339, attributes := #[] }, { accessFlags := 4120, nameIndex := 245, descriptorIndex := 246, attributes := #[] }])
  fields := #[{ name := "E", type := .double, accessFlags := 25, slot := 0, constantValue := 0 }, { name := "PI", type := .double, accessFlags := 25, slot := 1, constantValue := 0 }, { name := "TAU", type := .double, accessFlags := 25, slot := 2, constantValue := 0 }, { name := "DEGREES_TO_RADIANS", type := .double, accessFlags := 26, slot := 3, constantValue := 0 }, { name := "RADIANS_TO_DEGREES", type := .double, accessFlags := 26, slot := 4, constantValue := 0 }, { name := "negativeZeroFloatBits", type := .long, accessFlags := 26, slot := 5, constantValue := 0 }, { name := "negativeZeroDoubleBits", type := .long, accessFlags := 26, slot := 6, constantValue := 0 }, { name := "twoToTheDoubleScaleUp", type := .double, accessFlags := 8, slot := 7, constantValue := 0 }, { name := "twoToTheDoubleScaleDown", type := .double, accessFlags := 8, slot := 8, constantValue := 0 }, { name := "$assertionsDisabled", type := .boolean, accessFlags := 4120, slot := 9, constantValue := 0 }]
  methods := #[k2m0, k2m1, k2m2]
  instanceTypes := #[]
  staticTypes := #[.double, .double, .double, .double, .double, .long, .long, .double, .double, .boolean]
  resolved := Array.replicate 460 none
  statics := none }

def pool3 : Array CpInfo := pool [(2, .class_ 4), (1, u "java/lang/Object"), (3, .class_ 10), (1, u "com/example/lockwright/lockwright/planning/ChainSpans"), (0, u "cover"), (0, u "Lcom/example/lockwright/lockwright/planning/ChainCover;"), (8, u "start"), (0, u "[I"), (7, u "ledToChains"), (0, u "[[I"), (8, u "left"), (2, u "entered"), (4, .class_ 49), (0, u "com/example/lockwright/lockwright/planning/ChainSpans$Peaks"), (5, u "peaks"), (0, u "Lcom/example/lockwright/lockwright/planning/ChainSpans$Peaks;"), (2, u "first"), (2, u "last"), (28, u "atLeast"), (0, u "([IIII)I")] 48

def k3c0 : Code := { maxStack := 2, maxLocals := 7, code := prog_56_method_8_code, exceptionTable := #[], attributes := #[] }
def k3m0 : Method := { name := "atLeast", desc := "([IIII)I", sig := { parameters := [(.array .int), .int, .int, .int], returnType := some .int }, accessFlags := 8, code := some k3c0 }
/-- com/example/lockwright/lockwright/planning/ChainSpans -/
def k3 : Class := { plain "com/example/lockwright/lockwright/planning/ChainSpans" (some 0) with
  accessFlags := 48
  interfaces := #[]
  cf := some (fileOf pool3 8 #[.nestMembers #[48]] #[{ accessFlags := 8, nameIndex := 91, descriptorIndex := 92, attributes := #[] }] 48 2 #[] #[{ accessFlags := 18, nameIndex := 11, descriptorIndex := 12, attributes := #[] }, { accessFlags := 18, nameIndex := 21, descriptorIndex := 22, attributes := #[] }, { accessFlags := 18, nameIndex := 30, descriptorIndex := 31, attributes := #[] }, { accessFlags := 18, nameIndex := 40, descriptorIndex := 22, attributes := #[] }, { accessFlags := 18, nameIndex := 43, descriptorIndex := 22, attributes := #[] }, { accessFlags := 18, nameIndex := 55, descriptorIndex := 56, attributes := #[] }, { accessFlags := 18, nameIndex := 59, descriptorIndex := 22, attributes := #[] }, { accessFlags := 18, nameIndex := 62, descriptorIndex := 22, attributes := #[] }])
  fields := #[{ name := "cover", type := (.object "com/example/lockwright/lockwright/planning/ChainCover"), accessFlags := 18, slot := 0, constantValue := 0 }, { name := "start", type := (.array .int), accessFlags := 18, slot := 1, constantValue := 0 }, { name := "ledToChains", type := (.array (.array .int)), accessFlags := 18, slot := 2, constantValue := 0 }, { name := "left", type := (.array .int), accessFlags := 18, slot := 3, constantValue := 0 }, { name := "entered", type := (.array .int), accessFlags := 18, slot := 4, constantValue := 0 }, { name := "peaks", type := (.object "com/example/lockwright/lockwright/planning/ChainSpans$Peaks"), accessFlags := 18, slot := 5, constantValue := 0 }, { name := "first", type := (.array .int), accessFlags := 18, slot := 6, constantValue := 0 }, { name := "last", type := (.array .int), accessFlags := 18, slot := 7, constantValue := 0 }]
  methods := #[k3m0]
  instanceTypes := #[(.object "com/example/lockwright/lockwright/planning/ChainCover"), (.array .int), (.array (.array .int)), (.array .int), (.array .int), (.object "com/example/lockwright/lockwright/planning/ChainSpans$Peaks"), (.array .int), (.array .int)]
  staticTypes := #[]
  resolved := Array.replicate 141 none
  statics := none }

def pool4 : Array CpInfo := pool [(1, u "java/lang/Cloneable"), (0, .class_ 1), (0, u "java/lang/Object"), (0, .class_ 3)] 3

/-- java/lang/Cloneable -/
def k4 : Class := { plain "java/lang/Cloneable" (some 0) with
  accessFlags := 1537
  interfaces := #[]
  cf := some (fileOf pool4 2 #[] #[] 1537 4 #[] #[])
  fields := #[]
  methods := #[]
  instanceTypes := #[]
  staticTypes := #[]
  resolved := Array.replicate 8 none
  statics := none }

def pool5 : Array CpInfo := pool [(1, u "java/io/Serializable"), (0, .class_ 1), (0, u "java/lang/Object"), (0, .class_ 3)] 3

/-- java/io/Serializable -/
def k5 : Class := { plain "java/io/Serializable" (some 0) with
  accessFlags := 1537
  interfaces := #[]
  cf := some (fileOf pool5 2 #[] #[] 1537 4 #[] #[])
  fields := #[]
  methods := #[]
  instanceTypes := #[]
  staticTypes := #[]
  resolved := Array.replicate 8 none
  statics := none }

/-- the primitive byte -/
def k6 : Class := { plain "byte" none with kind := .primitive 'B', accessFlags := 0x411 }
/-- [B -/
def k7 : Class := { plain "[B" (some 0) with kind := .array 6 .byte, interfaces := #[4, 5], accessFlags := 1041 }

/-- the primitive int -/
def k8 : Class := { plain "int" none with kind := .primitive 'I', accessFlags := 0x411 }
/-- [I -/
def k9 : Class := { plain "[I" (some 0) with kind := .array 8 .int, interfaces := #[4, 5], accessFlags := 1041 }

def heap : Heap := #[]
def classes : Array Class := #[k0, k1, k2, k3, k4, k5, k6, k7, k8, k9]
def interned : List (Array UInt16 × Addr) := []
def slotsUsed : Nat := 0
def theMethod : MethodId := ⟨1, 2⟩
def args0 : Array Value := #[.int 5, .int 3, .int 9, .int 1, .int 1027, .int 4]
def aboutOver (below : List Frame) : State where
  vm := { classes := classes, interned := interned.toArray }
  heap := heap
  slotsUsed := slotsUsed
  threads := #[{ frames := .invoking theMethod args0 :: below }]
def below0 : List Frame := [.native { method := ⟨0, 0⟩, args := #[] }]
def about1 : State := aboutOver below0
def p0 : Program := .bare "" "" ""
def e0 : Env := launch0.env 0 0 0
theorem w_frames : about1.frames = Frame.invoking theMethod args0 :: below0 := rfl
set_option maxRecDepth 65536 in
theorem w_args : argsFit about1.vm theMethod args0 = true := by decide +kernel
set_option maxRecDepth 65536 in
theorem w_heap : heapFits about1 = true := by decide +kernel
set_option maxRecDepth 65536 in
theorem w_runnable : about1.curStatus? = some .runnable := by decide +kernel
set_option maxRecDepth 65536 in
theorem w_alone : about1.alone = true := by decide +kernel
set_option maxRecDepth 65536 in
theorem w_named : about1.methodNamed? x = some theMethod := by decide +kernel
set_option maxRecDepth 65536 in
theorem w_hears : about1.hears theMethod below0 = true := by decide +kernel
set_option maxRecDepth 65536 in
theorem w_ripe : about1.ripe theMethod args0 below0 = true := by decide +kernel
theorem w_running : about1.status = .running := rfl
set_option maxRecDepth 65536 in
theorem w_room : about1.hasRoom e0.platform room_1 = true :=
  launch0.hasRoom_least _ room_1 (by decide +kernel) (by decide +kernel) (by decide +kernel) (by decide +kernel) (by decide +kernel) (by decide +kernel)
theorem allAtoms_all (ts : List Jvm.Cond) (a : Array Jvm.Value) (st : Jvm.State) : (allAtoms ts).before a st = ts.all (fun c => c.before a st) := by
  induction ts with
  | nil => rfl
  | cons c t ih =>
    show (Jvm.Cond.and c (allAtoms t)).before a st = _
    rw [Jvm.Cond.before_and, ih, List.all_cons]
def words1 : List Jvm.Cond := Jvm.Cond.code x code maxLocals ret :: tables_1
/-- a 'code' word, met by the world's own term for the bytes: nothing is compared byte by byte -/
theorem code_word {y : MethodName} {bytes : ByteArray} {mx : Nat} {rt : Option FieldType} {a : Array Value} {s : State} {m : MethodId} {meth : Method} {c : Code} (h1 : s.methodNamed? y = some m) (h2 : s.vm.method? m = some meth) (h3 : meth.code = some c) (h4 : c.code = bytes)
    (h5 : (c.maxLocals == mx && c.exceptionTable.isEmpty && decide (c.maxStack ≤ mostOperands) && decide (meth.sig.returnType = rt) && !meth.locks && decide (parseMethodDescriptor y.desc = some meth.sig)) = true) : (Jvm.Cond.code y bytes mx rt).before a s = true := by
  simp only [Bool.and_eq_true, beq_iff_eq, Bool.not_eq_true', decide_eq_true_eq] at h5
  obtain ⟨⟨⟨⟨⟨g1, g2⟩, g3⟩, g4⟩, g5⟩, g6⟩ := h5
  simp [Cond.before, Cond.holds, Cond.value, h1, h2, h3, h4, g1, g2, g3, g4, g5, g6]
def isCode : Jvm.Cond → Bool
  | .code _ _ _ _ => true
  | _ => false
theorem all_split {L : List Jvm.Cond} {P : Jvm.Cond → Bool} (h1 : L.all (fun c => isCode c || P c) = true) (h2 : ∀ c ∈ L.filter isCode, P c = true) : L.all P = true := by
  refine List.all_eq_true.mpr fun c hc => ?_
  have h := List.all_eq_true.mp h1 c hc
  rcases Bool.eq_false_or_eq_true (isCode c) with hi | hi
  · exact h2 c (List.mem_filter.mpr ⟨hc, hi⟩)
  · simpa [hi] using h
set_option maxRecDepth 65536 in
theorem w_c0 : (Jvm.Cond.code x code maxLocals ret).before args0 about1 = true := code_word (m := ⟨1, 2⟩) (meth := k1m2) (c := k1c2) (by decide +kernel) rfl rfl rfl (by decide +kernel)
set_option maxRecDepth 65536 in
theorem w_c1 : (Jvm.Cond.code ({ cls := "java/lang/Math", name := "min", desc := "(II)I" } : Jvm.MethodName) jdk_29_method_69_code (2 : Nat) (Option.some Jvm.ClassFile.FieldType.int)).before args0 about1 = true := code_word (m := ⟨2, 2⟩) (meth := k2m2) (c := k2c2) (by decide +kernel) rfl rfl rfl (by decide +kernel)
set_option maxRecDepth 65536 in
theorem w_c2 : (Jvm.Cond.code ({ cls := "java/lang/Math", name := "max", desc := "(II)I" } : Jvm.MethodName) jdk_29_method_65_code (2 : Nat) (Option.some Jvm.ClassFile.FieldType.int)).before args0 about1 = true := code_word (m := ⟨2, 1⟩) (meth := k2m1) (c := k2c1) (by decide +kernel) rfl rfl rfl (by decide +kernel)
set_option maxRecDepth 65536 in
theorem w_c3 : (Jvm.Cond.code ({ cls := "com/example/lockwright/lockwright/planning/ChainSpans", name := "atLeast", desc := "([IIII)I" } : Jvm.MethodName) prog_56_method_8_code (7 : Nat) (Option.some Jvm.ClassFile.FieldType.int)).before args0 about1 = true := code_word (m := ⟨3, 0⟩) (meth := k3m0) (c := k3c0) (by decide +kernel) rfl rfl rfl (by decide +kernel)
set_option maxRecDepth 65536 in
theorem w_c4 : (Jvm.Cond.code ({ cls := "com/example/lockwright/lockwright/planning/ChainSpansAtLeastPinLaw", name := "below", desc := "(IIIII)I" } : Jvm.MethodName) method_2_code (5 : Nat) (Option.some Jvm.ClassFile.FieldType.int)).before args0 about1 = true := code_word (m := ⟨1, 1⟩) (meth := k1m1) (c := k1c1) (by decide +kernel) rfl rfl rfl (by decide +kernel)
def codes1 : List Jvm.Cond := [Jvm.Cond.code x code maxLocals ret, Jvm.Cond.code ({ cls := "java/lang/Math", name := "min", desc := "(II)I" } : Jvm.MethodName) jdk_29_method_69_code (2 : Nat) (Option.some Jvm.ClassFile.FieldType.int), Jvm.Cond.code ({ cls := "java/lang/Math", name := "max", desc := "(II)I" } : Jvm.MethodName) jdk_29_method_65_code (2 : Nat) (Option.some Jvm.ClassFile.FieldType.int), Jvm.Cond.code ({ cls := "com/example/lockwright/lockwright/planning/ChainSpans", name := "atLeast", desc := "([IIII)I" } : Jvm.MethodName) prog_56_method_8_code (7 : Nat) (Option.some Jvm.ClassFile.FieldType.int), Jvm.Cond.code ({ cls := "com/example/lockwright/lockwright/planning/ChainSpansAtLeastPinLaw", name := "below", desc := "(IIIII)I" } : Jvm.MethodName) method_2_code (5 : Nat) (Option.some Jvm.ClassFile.FieldType.int)]
set_option maxRecDepth 65536 in
theorem codes_eq : words1.filter isCode = codes1 := rfl
theorem w_codes : ∀ c ∈ words1.filter isCode, c.before args0 about1 = true := by
  rw [codes_eq]
  intro c hc
  simp only [codes1, List.mem_cons, List.not_mem_nil, or_false] at hc
  rcases hc with rfl | rfl | rfl | rfl | rfl
  · exact w_c0
  · exact w_c1
  · exact w_c2
  · exact w_c3
  · exact w_c4
set_option maxRecDepth 65536 in
theorem w_t1 : words1.all (fun c => isCode c || c.before args0 about1) = true := by decide +kernel
theorem w_tables : (allAtoms (Jvm.Cond.code x code maxLocals ret :: tables_1)).before args0 about1 = true := by
  rw [allAtoms_all]
  show words1.all (fun c => c.before args0 about1) = true
  refine all_split ?_ w_codes
  rw [w_t1]
set_option maxRecDepth 65536 in
theorem w_case : (Jvm.Cond.and given_1 narrow_1).before args0 about1 = true := by decide +kernel
theorem w_applies : (headSpec (Jvm.Cond.code x code maxLocals ret :: tables_1) room_1).applies x e0.platform about1 = true :=
  (Spec.applies_iff w_frames).mpr ⟨w_running, w_runnable, w_alone, w_named, w_hears, w_ripe, w_room, w_tables⟩
theorem atStart : AtStart classFile x code maxLocals ret World_1 tables_1 room_1 Calls_1 rest_1 Pre_1 launch0 p0 e0 about1 theMethod args0 below0 :=
  ⟨lists_1, trivial, launch0.admits_env _ _ _, launch0.least_env, fairChoices_fair.cas, fairChoices_fair.clock, w_frames, w_args, w_heap, w_applies, trivial, trivial, w_case⟩
end start1
theorem witness_1 : WitnessClaimed_1 := ⟨start1.p0, start1.e0, start1.about1, start1.theMethod, start1.args0, start1.below0, start1.atStart⟩
end Jvm.Pilot.@@N@@
