import JvmDerived
import JvmDerived.Pilot.@@N@@Statement
import JvmDerived.Pilot.@@N@@Code
set_option linter.unusedVariables false
set_option linter.unusedSimpArgs false
namespace Jvm.RoadKit
open Sem ClassFile Op Lib Jvm.Stand Jvm.Free Jvm.LawKit
section OwnGo
variable {p : Program} {l : Launch} {e : Env} {R : Room} {s : State} {m : MethodId} {args : Array Value} {below : List Frame} {meth : Method} {c : Code} {T U V : State} {locs : List Loc} {cells slots : Nat} {Q : Option Value → Heap → List Loc → Prop} {k n : Nat}
/-- from the state U the run ends within the frame, by a return of which Q holds -/
def Goes (p : Program) (e : Env) (below : List Frame) (s : State) (Q : Option Value → Heap → List Loc → Prop) (k n : Nat) (U : State) : Prop :=
  ∃ s₂ o, Steps p.tables e below U s₂ ∧ s₂.status = .running ∧ Ended s₂ below o ∧ ∃ v L, o = .returned v ∧ Q v s₂.heap L ∧ FrameEnd s o s₂ L k n
theorem Goes.st (st : ∀ t, Steps p.tables e below V t → Steps p.tables e below U t) (h : Goes p e below s Q k n V) : Goes p e below s Q k n U := by
  obtain ⟨s₂, o, h1, h2⟩ := h
  exact ⟨s₂, o, st _ h1, h2⟩
theorem Goes.tr (st : Steps p.tables e below U V) (h : Goes p e below s Q k n V) : Goes p e below s Q k n U := Goes.st (fun _ q => st.trans q) h
theorem Goes.cast {g g' : JFrame} (q : g = g') (h : Goes p e below s Q k n (T.setTop g')) : Goes p e below s Q k n (T.setTop g) := q ▸ h
theorem Goes.retN (X : Stand p l e R s m args below meth c T locs cells slots) (hx : p.tables.exec = Jvm.exec) {pc : Nat} {Ls : Array Slot} {z : Int32} {t : FieldType} {rest : List Value} (hret : meth.sig.returnType = some t) (hlk : meth.locks = false) (ht : t = .boolean ∨ t = .byte ∨ t = .char ∨ t = .short)
    (hd : decode c.code pc = .ok (.ireturn, 1)) (hc : cells ≤ k) (hs : slots ≤ n) (hq : Q (some (.int (nar t z))) T.heap locs) : Goes p e below s Q k n (T.setTop (mkF m pc Ls (.int z :: rest))) := by
  obtain ⟨fs, hr, hrun, hended, hW, hsame⟩ := X.leave (v := some (.int (nar t z))) (fun h => by rw [hret] at h; cases h) hlk
  exact ⟨_, _, Jvm.RoadKit.retN X hx hret ht hd hr, hrun, hended, _, _, rfl, hq, ⟨_, rfl⟩, hW, hsame.mono hc hs⟩
theorem Goes.retO (X : Stand p l e R s m args below meth c T locs cells slots) (hx : p.tables.exec = Jvm.exec) {pc : Nat} {Ls : Array Slot} {w : Value} {t : FieldType} {i : Instr} {rest : List Value} (hret : meth.sig.returnType = some t) (hlk : meth.locks = false) (hn : narrow t w = w)
    (hi : (i = .ireturn ∧ (t = .int ∨ t = .boolean ∨ t = .byte ∨ t = .char ∨ t = .short) ∧ ∃ z, w = .int z) ∨ (i = .lreturn ∧ t = .long ∧ ∃ z, w = .long z) ∨ (i = .dreturn ∧ t = .double ∧ ∃ z, w = .double z) ∨ (i = .freturn ∧ t = .float ∧ ∃ z, w = .float z) ∨ (i = .areturn ∧ t.isReference = true ∧ w.isRef = true))
    (hd : decode c.code pc = .ok (i, 1)) (hc : cells ≤ k) (hs : slots ≤ n) (hq : Q (some w) T.heap locs) : Goes p e below s Q k n (T.setTop (mkF m pc Ls (w :: rest))) := by
  obtain ⟨fs, hr, hrun, hended, hW, hsame⟩ := X.leave (v := some w) (fun h => by rw [hret] at h; cases h) hlk
  exact ⟨_, _, Jvm.RoadKit.retOut X hx hret hn hi hd hr, hrun, hended, _, _, rfl, hq, ⟨_, rfl⟩, hW, hsame.mono hc hs⟩
theorem Goes.ret0 (X : Stand p l e R s m args below meth c T locs cells slots) (hx : p.tables.exec = Jvm.exec) {pc : Nat} {Ls : Array Slot} (hret : meth.sig.returnType = none) (hlk : meth.locks = false)
    (hd : decode c.code pc = .ok (.return_, 1)) (hc : cells ≤ k) (hs : slots ≤ n) (hq : Q none T.heap locs) : Goes p e below s Q k n (T.setTop (mkF m pc Ls [])) := by
  obtain ⟨fs, hr, hrun, hended, hW, hsame⟩ := X.leave (v := none) (fun _ => rfl) hlk
  exact ⟨_, _, X.returnOut hx hret hd hr, hrun, hended, _, _, rfl, hq, ⟨_, rfl⟩, hW, hsame.mono hc hs⟩
end OwnGo
end Jvm.RoadKit
namespace Jvm.Pilot.@@N@@
open Jvm Jvm.ClassFile Sem Op Lib Jvm.Free Jvm.Stand Jvm.LawKit Jvm.RoadKit Bundle Jvm.Pilot.@@N@@.Jvm.D
theorem own_selp {Z s : State} {a0 args : Array Value} {y : MethodName} {n : Nat} (hZ : Z.Warmed39 s.vm) (wi : (Jvm.Cond.instantiable y.cls n).before a0 Z = true) (wm : (Jvm.Cond.instanceMethod y).before a0 Z = true) (wp : (Jvm.Cond.privateMethod y).before a0 Z = true) (hy : y.cls ≠ "java/lang/invoke/MethodHandle" ∧ y.cls ≠ "java/lang/invoke/VarHandle") : (Jvm.Cond.selects y.cls y y).before args s = true := by
  obtain ⟨c, k, h1, h2, h3, h4, -⟩ := Cond.instantiable_spec (mvT hZ wi (args := args))
  have h5 : k.isInterface = false := by cases hi : k.isInterface <;> simp [hi] at h4 ⊢
  exact selects_self_of_private h1 h2 h5 (Cond.privateMethod_at (mvP hZ wp (args := args))) (mvT hZ wm) hy
def own_bI (b : Bool) : Int32 := bif b then 1 else 0
theorem own_cat {v : Value} (h : v.isRef = true) : v.category = 1 := by cases v <;> simp [Value.isRef, Value.category] at h ⊢
theorem own_feq {args : Array Value} {s : State} {t u : Term} {C n d : String} {a w : Addr} (h : (Jvm.Cond.eq (.field t C n d) u).value args s none s [] = some true) (ht : t.eval args s none [] s = some (.ref a)) (hu : u.eval args s none [] s = some (.ref w)) : Fld s s.heap a C n d (.ref w) := by
  obtain ⟨x, y, e1, e2, k1, k2⟩ := cmp_v (Or.inl h)
  cases hu.symm.trans e2
  have hx : x.isRef = true := k2.2
  have q := gotT (eq_R e1 hu hx rfl) h
  subst q
  rw [fld_at ht] at e1
  exact Fld.start e1
theorem own_oeq {args : Array Value} {s : State} {t : Term} {C n d : String} {a : Addr} {k : Int32} (h : (Jvm.Cond.eq (.field t C n d) (.int k)).value args s none s [] = some true) (ht : t.eval args s none [] s = some (.ref a)) : Fld s s.heap a C n d (.int k) := by
  obtain ⟨x, y, e1, e2, k1, k2⟩ := cmp_v (Or.inl h)
  cases (Term.int_eval k).symm.trans e2
  obtain ⟨z, rfl⟩ := k2
  have q : z = k := by simpa [Jvm.Cond.value, e1, e2] using h
  subst q
  rw [fld_at ht] at e1
  exact Fld.start e1
def own_P (Z : State) (h : Heap) (a : Addr) (sd : Int32) (sp si : Int64) : Prop := Exa Z h a "com/example/delaunet/delaunet/core/sim/Pace" ∧ Fld Z h a "com/example/delaunet/delaunet/core/sim/Pace" "staying" "Z" (.int (0 : Int32)) ∧ Fld Z h a "com/example/delaunet/delaunet/core/sim/Pace" "awayNow" "Z" (.int (0 : Int32)) ∧ Fld Z h a "com/example/delaunet/delaunet/core/sim/Pace" "started" "I" (.int sd) ∧ Fld Z h a "com/example/delaunet/delaunet/core/sim/Pace" "spent" "J" (.long sp) ∧ Fld Z h a "com/example/delaunet/delaunet/core/sim/Pace" "since" "J" (.long si)
def own_QI (Z : State) (a : Addr) (h0 : Heap) (n0 : Nat) (v : Option Value) (h : Heap) (L : List Loc) : Prop := v = none ∧ Fr n0 L ∧ Keep h0 h [a] ∧ own_P Z h a 0 0 (-1)
def own_QC (Z : State) (b : Bool) (h0 : Heap) (n0 : Nat) (v : Option Value) (h : Heap) (L : List Loc) : Prop := v = some (.int (own_bI b)) ∧ Fr n0 L ∧ h = h0
def own_QE (Z : State) (a : Addr) (sd : Int32) (sp' : Int64) (h0 : Heap) (n0 : Nat) (v : Option Value) (h : Heap) (L : List Loc) : Prop := v = none ∧ Fr n0 L ∧ Keep h0 h [a] ∧ own_P Z h a sd sp' (-1)
def own_QS (Z : State) (a : Addr) (sd : Int32) (sp' now : Int64) (h0 : Heap) (n0 : Nat) (v : Option Value) (h : Heap) (L : List Loc) : Prop := v = some (.int 0) ∧ Fr n0 L ∧ Keep h0 h [a] ∧ own_P Z h a (sd + 1) sp' now
def own_Q0 (Z : State) (h0 : Heap) (n0 : Nat) (v : Option Value) (h : Heap) (L : List Loc) : Prop := v = some (.int 1) ∧ Fr n0 L
abbrev own_done (sd : Int32) (sp : Int64) : Bool := decide (sd = 32 ∨ (2 < sd ∧ ¬ sp < 2000000))
theorem own_dT {sd : Int32} {sp : Int64} (h1 : 2 < sd) (h2 : ¬ sp < 2000000) : own_done sd sp = true := by simp [own_done, h1, h2]
theorem own_dS {sd : Int32} {sp : Int64} (h1 : sd ≠ 32) (h2 : ¬ 2 < sd) : own_done sd sp = false := by simp [own_done, h1, h2]
theorem own_dN {sd : Int32} {sp : Int64} (h1 : sd ≠ 32) (h2 : sp < 2000000) : own_done sd sp = false := by simp [own_done, h1, h2]
abbrev own_sp (sd : Int32) (sp si now : Int64) : Int64 := if ¬ si < 0 ∧ 1 < sd then sp + (now - si) else sp
theorem own_m60 (x : Int64) : 0 ≤ (x &&& 1152921504606846975).toInt ∧ (x &&& 1152921504606846975).toInt < 1152921504606846976 := by
  have h := c_maskL x 1152921504606846975 60 (by decide) (by decide)
  rw [h]; omega
theorem own_m22 (x : Int32) : 0 ≤ ((x &&& 4194303).toInt64).toInt ∧ ((x &&& 4194303).toInt64).toInt < 4194304 := by
  have h := c_mask x 4194303 22 (by decide) (by decide)
  rw [c_i2l, h]; omega
theorem own_nn {x : Int64} (h : 0 ≤ x.toInt) : ¬ x < 0 := by
  rw [Int64.lt_iff_toInt_lt]; simp; omega
theorem own_t1 {t e : Int64} (h1 : 0 ≤ t.toInt ∧ t.toInt < 1152921504606846976) (h2 : 0 ≤ e.toInt ∧ e.toInt < 4194304) : 0 ≤ (t + e).toInt ∧ (t + e).toInt < 1152921504606846976 + 4194304 := by
  have := c_ladd t e; have := rng64 (t + e); omega
theorem own_t2 {t e : Int64} {B : Int} (hB : B < 4611686018427387904) (h1 : 0 ≤ t.toInt ∧ t.toInt < B) (h2 : 0 ≤ e.toInt ∧ e.toInt < 4194304) : 0 ≤ (t + e).toInt ∧ (t + e).toInt < B + 4194304 := by
  have := c_ladd t e; have := rng64 (t + e); omega
theorem own_sumA (t1 d1 d2 d3 : Int64) : (0 + ((t1 + d1 + d2) - t1)) + ((t1 + d1 + d2 + d3) - (t1 + d1 + d2)) = d1 + d2 + d3 := by grind
theorem own_sumB (t1 d1 d2 d3 : Int64) : (0 + ((t1 + d1) - t1)) + ((t1 + d1 + d2 + d3) - (t1 + d1 + d2)) = d1 + d3 := by grind
theorem own_d_prog_57_1_0 : decode prog_57_method_1_code 0 = .ok (.aload_n 0, 1) := by decide +kernel
theorem own_d_prog_57_1_1 : decode prog_57_method_1_code 1 = .ok (.invokespecial 1, 3) := by decide +kernel
theorem own_d_prog_57_1_4 : decode prog_57_method_1_code 4 = .ok (.aload_n 0, 1) := by decide +kernel
theorem own_d_prog_57_1_5 : decode prog_57_method_1_code 5 = .ok (.iconst 5, 1) := by decide +kernel
theorem own_d_prog_57_1_6 : decode prog_57_method_1_code 6 = .ok (.newarray .double, 2) := by decide +kernel
theorem own_d_prog_57_1_8 : decode prog_57_method_1_code 8 = .ok (.putfield 9, 3) := by decide +kernel
theorem own_d_prog_57_1_11 : decode prog_57_method_1_code 11 = .ok (.aload_n 0, 1) := by decide +kernel
theorem own_d_prog_57_1_12 : decode prog_57_method_1_code 12 = .ok (.iconst 5, 1) := by decide +kernel
theorem own_d_prog_57_1_13 : decode prog_57_method_1_code 13 = .ok (.newarray .double, 2) := by decide +kernel
theorem own_d_prog_57_1_15 : decode prog_57_method_1_code 15 = .ok (.putfield 13, 3) := by decide +kernel
theorem own_d_prog_57_1_18 : decode prog_57_method_1_code 18 = .ok (.aload_n 0, 1) := by decide +kernel
theorem own_d_prog_57_1_19 : decode prog_57_method_1_code 19 = .ok (.ldc2_w 16, 3) := by decide +kernel
theorem own_d_prog_57_1_22 : decode prog_57_method_1_code 22 = .ok (.putfield 18, 3) := by decide +kernel
theorem own_d_prog_57_1_25 : decode prog_57_method_1_code 25 = .ok (.return_, 1) := by decide +kernel
theorem own_pn14 : plainName "com/example/delaunet/delaunet/core/sim/Pace" = true := by first | (simp [plainName, overriddenIn]; done) | decide +kernel
theorem own_d_prog_57_2_0 : decode prog_57_method_2_code 0 = .ok (.aload_n 0, 1) := by decide +kernel
theorem own_d_prog_57_2_1 : decode prog_57_method_2_code 1 = .ok (.getfield 22, 3) := by decide +kernel
theorem own_d_prog_57_2_4 : decode prog_57_method_2_code 4 = .ok (.ifCond .eq 28, 3) := by decide +kernel
theorem own_d_prog_57_2_32 : decode prog_57_method_2_code 32 = .ok (.aload_n 0, 1) := by decide +kernel
theorem own_d_prog_57_2_33 : decode prog_57_method_2_code 33 = .ok (.getfield 26, 3) := by decide +kernel
theorem own_d_prog_57_2_36 : decode prog_57_method_2_code 36 = .ok (.bipush 32, 2) := by decide +kernel
theorem own_d_prog_57_2_38 : decode prog_57_method_2_code 38 = .ok (.if_icmp .eq 22, 3) := by decide +kernel
theorem own_d_prog_57_2_60 : decode prog_57_method_2_code 60 = .ok (.iconst 1, 1) := by decide +kernel
theorem own_d_prog_57_2_61 : decode prog_57_method_2_code 61 = .ok (.goto 4, 3) := by decide +kernel
theorem own_d_prog_57_2_65 : decode prog_57_method_2_code 65 = .ok (.istore_n 1, 1) := by decide +kernel
theorem own_d_prog_57_2_66 : decode prog_57_method_2_code 66 = .ok (.iload_n 1, 1) := by decide +kernel
theorem own_d_prog_57_2_67 : decode prog_57_method_2_code 67 = .ok (.ireturn, 1) := by decide +kernel
theorem own_d_prog_57_2_41 : decode prog_57_method_2_code 41 = .ok (.aload_n 0, 1) := by decide +kernel
theorem own_d_prog_57_2_42 : decode prog_57_method_2_code 42 = .ok (.getfield 26, 3) := by decide +kernel
theorem own_d_prog_57_2_45 : decode prog_57_method_2_code 45 = .ok (.iconst 2, 1) := by decide +kernel
theorem own_d_prog_57_2_46 : decode prog_57_method_2_code 46 = .ok (.if_icmp .le 18, 3) := by decide +kernel
theorem own_d_prog_57_2_49 : decode prog_57_method_2_code 49 = .ok (.aload_n 0, 1) := by decide +kernel
theorem own_d_prog_57_2_50 : decode prog_57_method_2_code 50 = .ok (.getfield 36, 3) := by decide +kernel
theorem own_d_prog_57_2_53 : decode prog_57_method_2_code 53 = .ok (.ldc2_w 39, 3) := by decide +kernel
theorem own_d_prog_57_2_56 : decode prog_57_method_2_code 56 = .ok (.lcmp, 1) := by decide +kernel
theorem own_d_prog_57_2_57 : decode prog_57_method_2_code 57 = .ok (.ifCond .lt 7, 3) := by decide +kernel
theorem own_d_prog_57_2_64 : decode prog_57_method_2_code 64 = .ok (.iconst 0, 1) := by decide +kernel
theorem own_d_prog_57_4_0 : decode prog_57_method_4_code 0 = .ok (.aload_n 0, 1) := by decide +kernel
theorem own_d_prog_57_4_1 : decode prog_57_method_4_code 1 = .ok (.getfield 18, 3) := by decide +kernel
theorem own_d_prog_57_4_4 : decode prog_57_method_4_code 4 = .ok (.lconst 0, 1) := by decide +kernel
theorem own_d_prog_57_4_5 : decode prog_57_method_4_code 5 = .ok (.lcmp, 1) := by decide +kernel
theorem own_d_prog_57_4_6 : decode prog_57_method_4_code 6 = .ok (.ifCond .lt 26, 3) := by decide +kernel
theorem own_d_prog_57_4_32 : decode prog_57_method_4_code 32 = .ok (.aload_n 0, 1) := by decide +kernel
theorem own_d_prog_57_4_33 : decode prog_57_method_4_code 33 = .ok (.ldc2_w 16, 3) := by decide +kernel
theorem own_d_prog_57_4_36 : decode prog_57_method_4_code 36 = .ok (.putfield 18, 3) := by decide +kernel
theorem own_d_prog_57_4_39 : decode prog_57_method_4_code 39 = .ok (.return_, 1) := by decide +kernel
theorem own_d_prog_57_4_9 : decode prog_57_method_4_code 9 = .ok (.aload_n 0, 1) := by decide +kernel
theorem own_d_prog_57_4_10 : decode prog_57_method_4_code 10 = .ok (.getfield 26, 3) := by decide +kernel
theorem own_d_prog_57_4_13 : decode prog_57_method_4_code 13 = .ok (.iconst 1, 1) := by decide +kernel
theorem own_d_prog_57_4_14 : decode prog_57_method_4_code 14 = .ok (.if_icmp .le 18, 3) := by decide +kernel
theorem own_d_prog_57_4_17 : decode prog_57_method_4_code 17 = .ok (.aload_n 0, 1) := by decide +kernel
theorem own_d_prog_57_4_18 : decode prog_57_method_4_code 18 = .ok (.dup, 1) := by decide +kernel
theorem own_d_prog_57_4_19 : decode prog_57_method_4_code 19 = .ok (.getfield 36, 3) := by decide +kernel
theorem own_d_prog_57_4_22 : decode prog_57_method_4_code 22 = .ok (.lload_n 1, 1) := by decide +kernel
theorem own_d_prog_57_4_23 : decode prog_57_method_4_code 23 = .ok (.aload_n 0, 1) := by decide +kernel
theorem own_d_prog_57_4_24 : decode prog_57_method_4_code 24 = .ok (.getfield 18, 3) := by decide +kernel
theorem own_d_prog_57_4_27 : decode prog_57_method_4_code 27 = .ok (.lsub, 1) := by decide +kernel
theorem own_d_prog_57_4_28 : decode prog_57_method_4_code 28 = .ok (.ladd, 1) := by decide +kernel
theorem own_d_prog_57_4_29 : decode prog_57_method_4_code 29 = .ok (.putfield 36, 3) := by decide +kernel
theorem own_d_prog_57_3_0 : decode prog_57_method_3_code 0 = .ok (.aload_n 0, 1) := by decide +kernel
theorem own_pd60 : parseMethodDescriptor "()Z" = some ⟨[], some .boolean⟩ := by decide +kernel
theorem own_d_prog_57_3_1 : decode prog_57_method_3_code 1 = .ok (.invokevirtual 41, 3) := by decide +kernel
theorem own_d_prog_57_3_4 : decode prog_57_method_3_code 4 = .ok (.istore_n 3, 1) := by decide +kernel
theorem own_d_prog_57_3_5 : decode prog_57_method_3_code 5 = .ok (.aload_n 0, 1) := by decide +kernel
theorem own_d_prog_57_3_6 : decode prog_57_method_3_code 6 = .ok (.lload_n 1, 1) := by decide +kernel
theorem own_pd65 : parseMethodDescriptor "(J)V" = some ⟨[.long], none⟩ := by decide +kernel
theorem own_d_prog_57_3_7 : decode prog_57_method_3_code 7 = .ok (.invokevirtual 45, 3) := by decide +kernel
theorem own_d_prog_57_3_10 : decode prog_57_method_3_code 10 = .ok (.iload_n 3, 1) := by decide +kernel
theorem own_d_prog_57_3_11 : decode prog_57_method_3_code 11 = .ok (.ifCond .eq 33, 3) := by decide +kernel
theorem own_d_prog_57_3_44 : decode prog_57_method_3_code 44 = .ok (.iload_n 3, 1) := by decide +kernel
theorem own_d_prog_57_3_45 : decode prog_57_method_3_code 45 = .ok (.ifCond .eq 7, 3) := by decide +kernel
theorem own_d_prog_57_3_52 : decode prog_57_method_3_code 52 = .ok (.aload_n 0, 1) := by decide +kernel
theorem own_d_prog_57_3_53 : decode prog_57_method_3_code 53 = .ok (.dup, 1) := by decide +kernel
theorem own_d_prog_57_3_54 : decode prog_57_method_3_code 54 = .ok (.getfield 26, 3) := by decide +kernel
theorem own_d_prog_57_3_57 : decode prog_57_method_3_code 57 = .ok (.iconst 1, 1) := by decide +kernel
theorem own_d_prog_57_3_58 : decode prog_57_method_3_code 58 = .ok (.iadd, 1) := by decide +kernel
theorem own_d_prog_57_3_59 : decode prog_57_method_3_code 59 = .ok (.putfield 26, 3) := by decide +kernel
theorem own_d_prog_57_3_62 : decode prog_57_method_3_code 62 = .ok (.aload_n 0, 1) := by decide +kernel
theorem own_d_prog_57_3_63 : decode prog_57_method_3_code 63 = .ok (.lload_n 1, 1) := by decide +kernel
theorem own_d_prog_57_3_64 : decode prog_57_method_3_code 64 = .ok (.putfield 18, 3) := by decide +kernel
theorem own_d_prog_57_3_67 : decode prog_57_method_3_code 67 = .ok (.aload_n 0, 1) := by decide +kernel
theorem own_d_prog_57_3_68 : decode prog_57_method_3_code 68 = .ok (.getfield 59, 3) := by decide +kernel
theorem own_d_prog_57_3_71 : decode prog_57_method_3_code 71 = .ok (.ireturn, 1) := by decide +kernel
theorem own_pd83 : parseMethodDescriptor "()V" = some ⟨[], none⟩ := by decide +kernel
theorem own_pd84 : parseMethodDescriptor "(J)Z" = some ⟨[.long], some .boolean⟩ := by decide +kernel
theorem own_pn85 : plainName "com/example/delaunet/delaunet/core/sim/PaceEndPinLaw" = true := by first | (simp [plainName, overriddenIn]; done) | decide +kernel
theorem own_rmI_ef (m : MethodId) (a : Addr) : entryFrame m #[(.ref a)] 1 = mkF m 0 #[.val (.ref a)] [] := by first | (simp [entryFrame, mkF, argsToLocals, Value.category]; done) | rfl
set_option maxRecDepth 65536 in
set_option maxHeartbeats 40000000 in
theorem own_rmI (l : Launch) (Z : State) (a0 : Array Value) (hw : ∀ d ∈ tables_1, d.before a0 Z = true) (ws : List Jvm.Cond) (a : Addr) (h0 : Heap) (n0 : Nat) (Z0 : n0 ≤ h0.size) (E_a : Exa Z h0 a "com/example/delaunet/delaunet/core/sim/Pace") (Fhere : Fld Z h0 a "com/example/delaunet/delaunet/core/sim/Pace" "here" "[D" .null) (Faway : Fld Z h0 a "com/example/delaunet/delaunet/core/sim/Pace" "away" "[D" .null) (Fstaying : Fld Z h0 a "com/example/delaunet/delaunet/core/sim/Pace" "staying" "Z" (.int (0 : Int32))) (FawayNow : Fld Z h0 a "com/example/delaunet/delaunet/core/sim/Pace" "awayNow" "Z" (.int (0 : Int32))) (Fstarted : Fld Z h0 a "com/example/delaunet/delaunet/core/sim/Pace" "started" "I" (.int (0 : Int32))) (Fspent : Fld Z h0 a "com/example/delaunet/delaunet/core/sim/Pace" "spent" "J" (.long (0 : Int64))) (Fsince : Fld Z h0 a "com/example/delaunet/delaunet/core/sim/Pace" "since" "J" (.long (0 : Int64))) (g_a : n0 ≤ a) :
    MetFree l (⟨"com/example/delaunet/delaunet/core/sim/Pace", "<init>", "()V"⟩ : MethodName) (head1 (Jvm.Cond.code (⟨"com/example/delaunet/delaunet/core/sim/Pace", "<init>", "()V"⟩ : MethodName) prog_57_method_1_code 1 none :: ws) ({ frames := 1, cells := 2, slots := 10, locals := 12 } : Room)) (fun aa_ U => aa_ = #[(.ref a)] ∧ Z.Warmed39 U.vm ∧ U.heap = h0) (fun _ _ _ _ _ => True) (fun _ U oo_ U' => ∃ vv_ LL_, oo_ = .returned vv_ ∧ own_QI Z a h0 n0 vv_ U'.heap LL_ ∧ FrameEnd U oo_ U' LL_ ({ frames := 1, cells := 2, slots := 10, locals := 12 } : Room).cells ({ frames := 1, cells := 2, slots := 10, locals := 12 } : Room).slots) := by
  refine MetFree.of_bodySF (plainFor_of_name own_pn14) hisR ?_
  intro p e s m args below meth c s₁ Bd hml0 hP hK
  obtain ⟨rfl, hZ, hh⟩ := hP
  have hx := Bd.exec
  have hby := Bd.bytes
  have hml : c.maxLocals = 1 := hml0
  have hown : s.vm.findClass "com/example/delaunet/delaunet/core/sim/Pace" = some m.cls := findClass_of_methodNamed Bd.named
  have hnm := (name_of_methodNamed Bd.named Bd.method).1
  have hlk := Bd.notSynchronized
  have hret := Bd.returns
  have X0 : Stand p l e ({ frames := 1, cells := 2, slots := 10, locals := 12 } : Room) s m #[(.ref a)] below meth c s₁ [] 0 0 := Stand.of_body Bd
  have e0 : s₁.heap = h0 := by rw [← hh, Bd.state]; rfl
  have N0 := Fr.nil n0
  show Goes p e below s (own_QI Z a h0 n0) ({ frames := 1, cells := 2, slots := 10, locals := 12 } : Room).cells ({ frames := 1, cells := 2, slots := 10, locals := 12 } : Room).slots _
  refine Goes.cast (own_rmI_ef m a) ?_
  have K0 := Keep.refl h0 [a]
  show Goes p e below s _ _ _ (s₁.setTop (mkF m 0 #[.val (.ref a)] []))
  refine Goes.st (fun t_ k_ => XS.aloadN X0.here hx rfl (hb hby own_d_prog_57_1_0) rfl rfl k_) ?_
  show Goes p e below s _ _ _ (s₁.setTop (mkF m 1 #[.val (.ref a)] [(.ref a)]))
  obtain ⟨T1, X1, e1, st1⟩ := initO X0 hx hZ hown (hw _ (List.mem_of_getElem? (i := 8) rfl)) (hw _ (List.mem_of_getElem? (i := 9) rfl)) (hw _ (List.mem_of_getElem? (i := 10) rfl)) e0 (g := (mkF m 1 #[.val (.ref a)] [(.ref a)])) rfl (by rw [hml]; rfl) rfl (hb hby own_d_prog_57_1_1) (by decide) (W := 0) (by show 2 * 0 + _ ≤ _; exact Nat.le_of_eq rfl) (by decide)
  refine Goes.st st1 ?_
  show Goes p e below s _ _ _ (T1.setTop (mkF m 4 #[.val (.ref a)] []))
  refine Goes.st (fun t_ k_ => XS.aloadN X1.here hx rfl (hb hby own_d_prog_57_1_4) rfl rfl k_) ?_
  show Goes p e below s _ _ _ (T1.setTop (mkF m 5 #[.val (.ref a)] [(.ref a)]))
  refine Goes.st (fun t_ k_ => XS.iconst X1.here hx rfl (hb hby own_d_prog_57_1_5) k_) ?_
  show Goes p e below s _ _ _ (T1.setTop (mkF m 6 #[.val (.ref a)] [(.int (5 : Int32)), (.ref a)]))
  obtain ⟨T2, h2, k2, X2, e2, E2, A2, st2⟩ := newP X1 hx hZ (hw _ (List.mem_of_getElem? (i := 11) rfl)) e1 (g := (mkF m 6 #[.val (.ref a)] [(.int (5 : Int32)), (.ref a)])) rfl (hb hby own_d_prog_57_1_6) rfl (by decide) (cap := 5) (by decide) (by decide) (by decide) (by decide)
  obtain ⟨b2, g2⟩ : ∃ z, z = h0.size := ⟨_, rfl⟩
  rw [← g2] at A2 st2
  have ne_a_b2 : a ≠ b2 := Nat.ne_of_lt (Nat.lt_of_lt_of_le E_a.lt (Nat.le_of_eq g2.symm))
  have gn_b2 : n0 ≤ b2 := Nat.le_trans Z0 (Nat.le_of_eq g2.symm)
  have kn_b2 : h0.size ≤ b2 := Nat.le_trans K0.1 (Nat.le_of_eq g2.symm)
  refine Goes.st st2 ?_
  have E_a := E_a.ext E2
  have Fhere := Fhere.ext E2
  have Faway := Faway.ext E2
  have Fstaying := Fstaying.ext E2
  have FawayNow := FawayNow.ext E2
  have Fstarted := Fstarted.ext E2
  have Fspent := Fspent.ext E2
  have Fsince := Fsince.ext E2
  have Z0' := Nat.le_trans Z0 E2.1
  have K0 := K0.ext E2
  have V_b2 : Arv Z h2 b2 k2 .double (5 : Int32) [(.double (0 : UInt64)), (.double (0 : UInt64)), (.double (0 : UInt64)), (.double (0 : UInt64)), (.double (0 : UInt64))] (.double (0 : UInt64)) := (Arv.new A2 (by decide)).pad (pad_rep [] (.double (0 : UInt64)) 5)
  show Goes p e below s _ _ _ (T2.setTop (mkF m 8 #[.val (.ref a)] [(.ref b2), (.ref a)]))
  obtain ⟨T3, h3, X3, e3, W3, st3⟩ := putF X2 hx hZ hown (host := "") (Or.inl (hw _ (List.mem_of_getElem? (i := 12) rfl))) Via.refl e2 Fhere E_a (Or.inr ⟨(hw _ (List.mem_of_getElem? (i := 13) rfl)), rfl, hnm⟩) (hw _ (List.mem_of_getElem? (i := 3) rfl)) (ty := (.array .double)) (by decide) rfl rfl (g := (mkF m 8 #[.val (.ref a)] [(.ref b2), (.ref a)])) rfl rfl (hb hby own_d_prog_57_1_8)
  refine Goes.st st3 ?_
  have E_a := E_a.wr W3
  have Fhere := Fhere.same W3
  have Faway := Faway.other W3 (Or.inr (slot_ne (Or.inr (hw _ (List.mem_of_getElem? (i := 15) rfl))) (Or.inr (hw _ (List.mem_of_getElem? (i := 13) rfl))) (by decide) (t := (.array .double)) (t' := (.array .double)) (by decide) (by decide)))
  have Fstaying := Fstaying.other W3 (Or.inr (slot_ne (Or.inl (hw _ (List.mem_of_getElem? (i := 30) rfl))) (Or.inr (hw _ (List.mem_of_getElem? (i := 13) rfl))) (by decide) (t := .boolean) (t' := (.array .double)) (by decide) (by decide)))
  have FawayNow := FawayNow.other W3 (Or.inr (slot_ne (Or.inl (hw _ (List.mem_of_getElem? (i := 39) rfl))) (Or.inr (hw _ (List.mem_of_getElem? (i := 13) rfl))) (by decide) (t := .boolean) (t' := (.array .double)) (by decide) (by decide)))
  have Fstarted := Fstarted.other W3 (Or.inr (slot_ne (Or.inl (hw _ (List.mem_of_getElem? (i := 32) rfl))) (Or.inr (hw _ (List.mem_of_getElem? (i := 13) rfl))) (by decide) (t := .int) (t' := (.array .double)) (by decide) (by decide)))
  have Fspent := Fspent.other W3 (Or.inr (slot_ne (Or.inl (hw _ (List.mem_of_getElem? (i := 41) rfl))) (Or.inr (hw _ (List.mem_of_getElem? (i := 13) rfl))) (by decide) (t := .long) (t' := (.array .double)) (by decide) (by decide)))
  have Fsince := Fsince.other W3 (Or.inr (slot_ne (Or.inl (hw _ (List.mem_of_getElem? (i := 18) rfl))) (Or.inr (hw _ (List.mem_of_getElem? (i := 13) rfl))) (by decide) (t := .long) (t' := (.array .double)) (by decide) (by decide)))
  have V_b2 := V_b2.other W3 (Ne.symm ne_a_b2)
  have N3 := Fr.snoc X3 N0 g_a
  have Z0'' := Nat.le_trans Z0' (Keep.of_wr W3).1
  have K0 := K0.wr W3 (Or.inl (List.mem_of_getElem? (i := 0) rfl))
  show Goes p e below s _ _ _ (T3.setTop (mkF m 11 #[.val (.ref a)] []))
  refine Goes.st (fun t_ k_ => XS.aloadN X3.here hx rfl (hb hby own_d_prog_57_1_11) rfl rfl k_) ?_
  show Goes p e below s _ _ _ (T3.setTop (mkF m 12 #[.val (.ref a)] [(.ref a)]))
  refine Goes.st (fun t_ k_ => XS.iconst X3.here hx rfl (hb hby own_d_prog_57_1_12) k_) ?_
  show Goes p e below s _ _ _ (T3.setTop (mkF m 13 #[.val (.ref a)] [(.int (5 : Int32)), (.ref a)]))
  obtain ⟨T4, h4, k4, X4, e4, E4, A4, st4⟩ := newP X3 hx hZ (hw _ (List.mem_of_getElem? (i := 11) rfl)) e3 (g := (mkF m 13 #[.val (.ref a)] [(.int (5 : Int32)), (.ref a)])) rfl (hb hby own_d_prog_57_1_13) rfl (by decide) (cap := 5) (by decide) (by decide) (by decide) (by decide)
  obtain ⟨b4, g4⟩ : ∃ z, z = h3.size := ⟨_, rfl⟩
  rw [← g4] at A4 st4
  have ne_a_b4 : a ≠ b4 := Nat.ne_of_lt (Nat.lt_of_lt_of_le E_a.lt (Nat.le_of_eq g4.symm))
  have ne_b2_b4 : b2 ≠ b4 := Nat.ne_of_lt (Nat.lt_of_lt_of_le V_b2.lt (Nat.le_of_eq g4.symm))
  have gn_b4 : n0 ≤ b4 := Nat.le_trans Z0'' (Nat.le_of_eq g4.symm)
  have kn_b4 : h0.size ≤ b4 := Nat.le_trans K0.1 (Nat.le_of_eq g4.symm)
  refine Goes.st st4 ?_
  have E_a := E_a.ext E4
  have Fhere := Fhere.ext E4
  have Faway := Faway.ext E4
  have Fstaying := Fstaying.ext E4
  have FawayNow := FawayNow.ext E4
  have Fstarted := Fstarted.ext E4
  have Fspent := Fspent.ext E4
  have Fsince := Fsince.ext E4
  have V_b2 := V_b2.ext E4
  have Z0''' := Nat.le_trans Z0'' E4.1
  have K0 := K0.ext E4
  have V_b4 : Arv Z h4 b4 k4 .double (5 : Int32) [(.double (0 : UInt64)), (.double (0 : UInt64)), (.double (0 : UInt64)), (.double (0 : UInt64)), (.double (0 : UInt64))] (.double (0 : UInt64)) := (Arv.new A4 (by decide)).pad (pad_rep [] (.double (0 : UInt64)) 5)
  show Goes p e below s _ _ _ (T4.setTop (mkF m 15 #[.val (.ref a)] [(.ref b4), (.ref a)]))
  obtain ⟨T5, h5, X5, e5, W5, st5⟩ := putF X4 hx hZ hown (host := "") (Or.inl (hw _ (List.mem_of_getElem? (i := 14) rfl))) Via.refl e4 Faway E_a (Or.inr ⟨(hw _ (List.mem_of_getElem? (i := 15) rfl)), rfl, hnm⟩) (hw _ (List.mem_of_getElem? (i := 3) rfl)) (ty := (.array .double)) (by decide) rfl rfl (g := (mkF m 15 #[.val (.ref a)] [(.ref b4), (.ref a)])) rfl rfl (hb hby own_d_prog_57_1_15)
  refine Goes.st st5 ?_
  have E_a := E_a.wr W5
  have Fhere := Fhere.other W5 (Or.inr (slot_ne (Or.inr (hw _ (List.mem_of_getElem? (i := 13) rfl))) (Or.inr (hw _ (List.mem_of_getElem? (i := 15) rfl))) (by decide) (t := (.array .double)) (t' := (.array .double)) (by decide) (by decide)))
  have Faway := Faway.same W5
  have Fstaying := Fstaying.other W5 (Or.inr (slot_ne (Or.inl (hw _ (List.mem_of_getElem? (i := 30) rfl))) (Or.inr (hw _ (List.mem_of_getElem? (i := 15) rfl))) (by decide) (t := .boolean) (t' := (.array .double)) (by decide) (by decide)))
  have FawayNow := FawayNow.other W5 (Or.inr (slot_ne (Or.inl (hw _ (List.mem_of_getElem? (i := 39) rfl))) (Or.inr (hw _ (List.mem_of_getElem? (i := 15) rfl))) (by decide) (t := .boolean) (t' := (.array .double)) (by decide) (by decide)))
  have Fstarted := Fstarted.other W5 (Or.inr (slot_ne (Or.inl (hw _ (List.mem_of_getElem? (i := 32) rfl))) (Or.inr (hw _ (List.mem_of_getElem? (i := 15) rfl))) (by decide) (t := .int) (t' := (.array .double)) (by decide) (by decide)))
  have Fspent := Fspent.other W5 (Or.inr (slot_ne (Or.inl (hw _ (List.mem_of_getElem? (i := 41) rfl))) (Or.inr (hw _ (List.mem_of_getElem? (i := 15) rfl))) (by decide) (t := .long) (t' := (.array .double)) (by decide) (by decide)))
  have Fsince := Fsince.other W5 (Or.inr (slot_ne (Or.inl (hw _ (List.mem_of_getElem? (i := 18) rfl))) (Or.inr (hw _ (List.mem_of_getElem? (i := 15) rfl))) (by decide) (t := .long) (t' := (.array .double)) (by decide) (by decide)))
  have V_b2 := V_b2.other W5 (Ne.symm ne_a_b2)
  have V_b4 := V_b4.other W5 (Ne.symm ne_a_b4)
  have N5 := Fr.snoc X5 N3 g_a
  have Z0'''' := Nat.le_trans Z0''' (Keep.of_wr W5).1
  have K0 := K0.wr W5 (Or.inl (List.mem_of_getElem? (i := 0) rfl))
  show Goes p e below s _ _ _ (T5.setTop (mkF m 18 #[.val (.ref a)] []))
  refine Goes.st (fun t_ k_ => XS.aloadN X5.here hx rfl (hb hby own_d_prog_57_1_18) rfl rfl k_) ?_
  show Goes p e below s _ _ _ (T5.setTop (mkF m 19 #[.val (.ref a)] [(.ref a)]))
  refine Goes.st (fun t_ k_ => X5.ldc2Long hx hown (mvT hZ (hw _ (List.mem_of_getElem? (i := 16) rfl))) (g := (mkF m 19 #[.val (.ref a)] [(.ref a)])) rfl (hb hby own_d_prog_57_1_19) _ k_) ?_
  show Goes p e below s _ _ _ (T5.setTop (mkF m 22 #[.val (.ref a)] [(.long (-1 : Int64)), (.ref a)]))
  obtain ⟨T6, h6, X6, e6, W6, st6⟩ := putF X5 hx hZ hown (host := "") (Or.inl (hw _ (List.mem_of_getElem? (i := 17) rfl))) Via.refl e5 Fsince E_a (Or.inl (hw _ (List.mem_of_getElem? (i := 18) rfl))) (hw _ (List.mem_of_getElem? (i := 3) rfl)) (ty := .long) (by decide) rfl rfl (g := (mkF m 22 #[.val (.ref a)] [(.long (-1 : Int64)), (.ref a)])) rfl rfl (hb hby own_d_prog_57_1_22)
  refine Goes.st st6 ?_
  have E_a := E_a.wr W6
  have Fhere := Fhere.other W6 (Or.inr (slot_ne (Or.inr (hw _ (List.mem_of_getElem? (i := 13) rfl))) (Or.inl (hw _ (List.mem_of_getElem? (i := 18) rfl))) (by decide) (t := (.array .double)) (t' := .long) (by decide) (by decide)))
  have Faway := Faway.other W6 (Or.inr (slot_ne (Or.inr (hw _ (List.mem_of_getElem? (i := 15) rfl))) (Or.inl (hw _ (List.mem_of_getElem? (i := 18) rfl))) (by decide) (t := (.array .double)) (t' := .long) (by decide) (by decide)))
  have Fstaying := Fstaying.other W6 (Or.inr (slot_ne (Or.inl (hw _ (List.mem_of_getElem? (i := 30) rfl))) (Or.inl (hw _ (List.mem_of_getElem? (i := 18) rfl))) (by decide) (t := .boolean) (t' := .long) (by decide) (by decide)))
  have FawayNow := FawayNow.other W6 (Or.inr (slot_ne (Or.inl (hw _ (List.mem_of_getElem? (i := 39) rfl))) (Or.inl (hw _ (List.mem_of_getElem? (i := 18) rfl))) (by decide) (t := .boolean) (t' := .long) (by decide) (by decide)))
  have Fstarted := Fstarted.other W6 (Or.inr (slot_ne (Or.inl (hw _ (List.mem_of_getElem? (i := 32) rfl))) (Or.inl (hw _ (List.mem_of_getElem? (i := 18) rfl))) (by decide) (t := .int) (t' := .long) (by decide) (by decide)))
  have Fspent := Fspent.other W6 (Or.inr (slot_ne (Or.inl (hw _ (List.mem_of_getElem? (i := 41) rfl))) (Or.inl (hw _ (List.mem_of_getElem? (i := 18) rfl))) (by decide) (t := .long) (t' := .long) (by decide) (by decide)))
  have Fsince := Fsince.same W6
  have V_b2 := V_b2.other W6 (Ne.symm ne_a_b2)
  have V_b4 := V_b4.other W6 (Ne.symm ne_a_b4)
  have N6 := Fr.snoc X6 N5 g_a
  have Z0''''' := Nat.le_trans Z0'''' (Keep.of_wr W6).1
  have K0 := K0.wr W6 (Or.inl (List.mem_of_getElem? (i := 0) rfl))
  show Goes p e below s _ _ _ (T6.setTop (mkF m 25 #[.val (.ref a)] []))
  rw [← e6] at K0 E_a Fstaying FawayNow Fstarted Fspent Fsince
  exact Goes.ret0 X6 hx hret hlk (hb hby own_d_prog_57_1_25) (by decide) (by decide) (⟨rfl, N6, K0, E_a, Fstaying, FawayNow, Fstarted, Fspent, Fsince⟩)
theorem own_rmC_ef (m : MethodId) (a : Addr) : entryFrame m #[(.ref a)] 2 = mkF m 0 #[.val (.ref a), .unset] [] := by first | (simp [entryFrame, mkF, argsToLocals, Value.category]; done) | rfl
set_option maxRecDepth 65536 in
set_option maxHeartbeats 40000000 in
theorem own_rmC (l : Launch) (Z : State) (a0 : Array Value) (hw : ∀ d ∈ tables_1, d.before a0 Z = true) (ws : List Jvm.Cond) (a : Addr) (sd : Int32) (sp si : Int64) (b : Bool) (h0 : Heap) (n0 : Nat) (Z0 : n0 ≤ h0.size) (HP : own_P Z h0 a sd sp si) (hb1 : own_done sd sp = b) :
    MetFree l (⟨"com/example/delaunet/delaunet/core/sim/Pace", "complete", "()Z"⟩ : MethodName) (head1 (Jvm.Cond.code (⟨"com/example/delaunet/delaunet/core/sim/Pace", "complete", "()Z"⟩ : MethodName) prog_57_method_2_code 2 (some .boolean) :: ws) ({ frames := 0, cells := 0, slots := 0, locals := 0 } : Room)) (fun aa_ U => aa_ = #[(.ref a)] ∧ Z.Warmed39 U.vm ∧ U.heap = h0) (fun _ _ _ _ _ => True) (fun _ U oo_ U' => ∃ vv_ LL_, oo_ = .returned vv_ ∧ own_QC Z b h0 n0 vv_ U'.heap LL_ ∧ FrameEnd U oo_ U' LL_ ({ frames := 0, cells := 0, slots := 0, locals := 0 } : Room).cells ({ frames := 0, cells := 0, slots := 0, locals := 0 } : Room).slots) := by
  refine MetFree.of_bodySF (plainFor_of_name own_pn14) hisR ?_
  intro p e s m args below meth c s₁ Bd hml0 hP hK
  obtain ⟨rfl, hZ, hh⟩ := hP
  have hx := Bd.exec
  have hby := Bd.bytes
  have hml : c.maxLocals = 2 := hml0
  have hown : s.vm.findClass "com/example/delaunet/delaunet/core/sim/Pace" = some m.cls := findClass_of_methodNamed Bd.named
  have hnm := (name_of_methodNamed Bd.named Bd.method).1
  have hlk := Bd.notSynchronized
  have hret := Bd.returns
  have X0 : Stand p l e ({ frames := 0, cells := 0, slots := 0, locals := 0 } : Room) s m #[(.ref a)] below meth c s₁ [] 0 0 := Stand.of_body Bd
  have e0 : s₁.heap = h0 := by rw [← hh, Bd.state]; rfl
  have N0 := Fr.nil n0
  show Goes p e below s (own_QC Z b h0 n0) ({ frames := 0, cells := 0, slots := 0, locals := 0 } : Room).cells ({ frames := 0, cells := 0, slots := 0, locals := 0 } : Room).slots _
  refine Goes.cast (own_rmC_ef m a) ?_
  obtain ⟨E_a, Fs_a, Fa_a, Fd_a, Fp_a, Fi_a⟩ := HP
  show Goes p e below s _ _ _ (s₁.setTop (mkF m 0 #[.val (.ref a), .unset] []))
  refine Goes.st (fun t_ k_ => XS.aloadN X0.here hx rfl (hb hby own_d_prog_57_2_0) rfl rfl k_) ?_
  show Goes p e below s _ _ _ (s₁.setTop (mkF m 1 #[.val (.ref a), .unset] [(.ref a)]))
  obtain ⟨T7, X7, e7, st7⟩ := getF X0 hx hZ hown (host := "") (Or.inl (hw _ (List.mem_of_getElem? (i := 29) rfl))) Via.refl e0 Fs_a (g := (mkF m 1 #[.val (.ref a), .unset] [(.ref a)])) rfl rfl (hb hby own_d_prog_57_2_1)
  refine Goes.st st7 ?_
  show Goes p e below s _ _ _ (T7.setTop (mkF m 4 #[.val (.ref a), .unset] [(.int (0 : Int32))]))
  refine Goes.st (fun t_ k_ => XS.ifYes X7.here hx rfl (pc0 := 4) (pc' := 32) rfl (hb hby own_d_prog_57_2_4) rfl ((if0 _ _).trans (teq (rfl : (0 : Int32) = 0)).1) (by decide) (by decide) k_) ?_
  show Goes p e below s _ _ _ (T7.setTop (mkF m 32 #[.val (.ref a), .unset] []))
  refine Goes.st (fun t_ k_ => XS.aloadN X7.here hx rfl (hb hby own_d_prog_57_2_32) rfl rfl k_) ?_
  show Goes p e below s _ _ _ (T7.setTop (mkF m 33 #[.val (.ref a), .unset] [(.ref a)]))
  obtain ⟨T8, X8, e8, st8⟩ := getF X7 hx hZ hown (host := "") (Or.inl (hw _ (List.mem_of_getElem? (i := 31) rfl))) Via.refl e7 Fd_a (g := (mkF m 33 #[.val (.ref a), .unset] [(.ref a)])) rfl rfl (hb hby own_d_prog_57_2_33)
  refine Goes.st st8 ?_
  show Goes p e below s _ _ _ (T8.setTop (mkF m 36 #[.val (.ref a), .unset] [(.int sd)]))
  refine Goes.st (fun t_ k_ => XS.bipush X8.here hx rfl (hb hby own_d_prog_57_2_36) k_) ?_
  show Goes p e below s _ _ _ (T8.setTop (mkF m 38 #[.val (.ref a), .unset] [(.int (32 : Int32)), (.int sd)]))
  by_cases hc1 : sd = (32 : Int32)
  · refine Goes.st (fun t_ k_ => XS.icmpYes X8.here hx rfl (pc0 := 38) (pc' := 60) rfl (hb hby own_d_prog_57_2_38) rfl (teq hc1).1 (by decide) (by decide) k_) ?_
    have hb2 : b = true := by rw [← hb1]; simp [own_done, hc1]
    show Goes p e below s _ _ _ (T8.setTop (mkF m 60 #[.val (.ref a), .unset] []))
    refine Goes.st (fun t_ k_ => XS.iconst X8.here hx rfl (hb hby own_d_prog_57_2_60) k_) ?_
    show Goes p e below s _ _ _ (T8.setTop (mkF m 61 #[.val (.ref a), .unset] [(.int (1 : Int32))]))
    refine Goes.st (fun t_ k_ => XS.goto X8.here hx rfl (pc0 := 61) (pc' := 65) rfl (hb hby own_d_prog_57_2_61) (by decide) (by decide) k_) ?_
    show Goes p e below s _ _ _ (T8.setTop (mkF m 65 #[.val (.ref a), .unset] [(.int (1 : Int32))]))
    refine Goes.st (fun t_ k_ => XS.istoreN X8.here hx rfl (hb hby own_d_prog_57_2_65) rfl  (l' := #[.val (.ref a), .val (.int (1 : Int32))]) rfl k_) ?_
    show Goes p e below s _ _ _ (T8.setTop (mkF m 66 #[.val (.ref a), .val (.int (1 : Int32))] []))
    refine Goes.st (fun t_ k_ => XS.iloadN X8.here hx rfl (hb hby own_d_prog_57_2_66) rfl  k_) ?_
    show Goes p e below s _ _ _ (T8.setTop (mkF m 67 #[.val (.ref a), .val (.int (1 : Int32))] [(.int (1 : Int32))]))
    exact Goes.retN X8 hx (t := .boolean) hret hlk (by simp) (hb hby own_d_prog_57_2_67) (by decide) (by decide) (⟨by rw [hb2]; rfl, N0, e8⟩)
  · refine Goes.st (fun t_ k_ => XS.icmpNo X8.here hx rfl (hb hby own_d_prog_57_2_38) rfl (feq hc1).1 k_) ?_
    show Goes p e below s _ _ _ (T8.setTop (mkF m 41 #[.val (.ref a), .unset] []))
    refine Goes.st (fun t_ k_ => XS.aloadN X8.here hx rfl (hb hby own_d_prog_57_2_41) rfl rfl k_) ?_
    show Goes p e below s _ _ _ (T8.setTop (mkF m 42 #[.val (.ref a), .unset] [(.ref a)]))
    obtain ⟨T9, X9, e9, st9⟩ := getF X8 hx hZ hown (host := "") (Or.inl (hw _ (List.mem_of_getElem? (i := 31) rfl))) Via.refl e8 Fd_a (g := (mkF m 42 #[.val (.ref a), .unset] [(.ref a)])) rfl rfl (hb hby own_d_prog_57_2_42)
    refine Goes.st st9 ?_
    show Goes p e below s _ _ _ (T9.setTop (mkF m 45 #[.val (.ref a), .unset] [(.int sd)]))
    refine Goes.st (fun t_ k_ => XS.iconst X9.here hx rfl (hb hby own_d_prog_57_2_45) k_) ?_
    show Goes p e below s _ _ _ (T9.setTop (mkF m 46 #[.val (.ref a), .unset] [(.int (2 : Int32)), (.int sd)]))
    by_cases hc2 : (2 : Int32) < sd
    · refine Goes.st (fun t_ k_ => XS.icmpNo X9.here hx rfl (hb hby own_d_prog_57_2_46) rfl (tlt hc2).2.2.2 k_) ?_
      show Goes p e below s _ _ _ (T9.setTop (mkF m 49 #[.val (.ref a), .unset] []))
      refine Goes.st (fun t_ k_ => XS.aloadN X9.here hx rfl (hb hby own_d_prog_57_2_49) rfl rfl k_) ?_
      show Goes p e below s _ _ _ (T9.setTop (mkF m 50 #[.val (.ref a), .unset] [(.ref a)]))
      obtain ⟨T10, X10, e10, st10⟩ := getF X9 hx hZ hown (host := "") (Or.inl (hw _ (List.mem_of_getElem? (i := 40) rfl))) Via.refl e9 Fp_a (g := (mkF m 50 #[.val (.ref a), .unset] [(.ref a)])) rfl rfl (hb hby own_d_prog_57_2_50)
      refine Goes.st st10 ?_
      show Goes p e below s _ _ _ (T10.setTop (mkF m 53 #[.val (.ref a), .unset] [(.long sp)]))
      refine Goes.st (fun t_ k_ => X10.ldc2Long hx hown (mvT hZ (hw _ (List.mem_of_getElem? (i := 45) rfl))) (g := (mkF m 53 #[.val (.ref a), .unset] [(.long sp)])) rfl (hb hby own_d_prog_57_2_53) _ k_) ?_
      show Goes p e below s _ _ _ (T10.setTop (mkF m 56 #[.val (.ref a), .unset] [(.long (2000000 : Int64)), (.long sp)]))
      refine Goes.st (fun t_ k_ => XS.lcmp X10.here hx rfl (hb hby own_d_prog_57_2_56) rfl k_) ?_
      show Goes p e below s _ _ _ (T10.setTop (mkF m 57 #[.val (.ref a), .unset] [(.int (lcmpW sp (2000000 : Int64)))]))
      by_cases hc3 : sp < (2000000 : Int64)
      · refine Goes.st (fun t_ k_ => XS.ifYes X10.here hx rfl (pc0 := 57) (pc' := 64) rfl (hb hby own_d_prog_57_2_57) rfl ((if0 _ _).trans (tlt ((lw_lt _ _).mpr hc3)).1) (by decide) (by decide) k_) ?_
        have hb2 : b = false := by rw [← hb1]; simp [own_done, hc1, hc2, hc3]
        show Goes p e below s _ _ _ (T10.setTop (mkF m 64 #[.val (.ref a), .unset] []))
        refine Goes.st (fun t_ k_ => XS.iconst X10.here hx rfl (hb hby own_d_prog_57_2_64) k_) ?_
        show Goes p e below s _ _ _ (T10.setTop (mkF m 65 #[.val (.ref a), .unset] [(.int (0 : Int32))]))
        refine Goes.st (fun t_ k_ => XS.istoreN X10.here hx rfl (hb hby own_d_prog_57_2_65) rfl  (l' := #[.val (.ref a), .val (.int (0 : Int32))]) rfl k_) ?_
        show Goes p e below s _ _ _ (T10.setTop (mkF m 66 #[.val (.ref a), .val (.int (0 : Int32))] []))
        refine Goes.st (fun t_ k_ => XS.iloadN X10.here hx rfl (hb hby own_d_prog_57_2_66) rfl  k_) ?_
        show Goes p e below s _ _ _ (T10.setTop (mkF m 67 #[.val (.ref a), .val (.int (0 : Int32))] [(.int (0 : Int32))]))
        exact Goes.retN X10 hx (t := .boolean) hret hlk (by simp) (hb hby own_d_prog_57_2_67) (by decide) (by decide) (⟨by rw [hb2]; rfl, N0, e10⟩)
      · refine Goes.st (fun t_ k_ => XS.ifNo X10.here hx rfl (hb hby own_d_prog_57_2_57) rfl ((if0 _ _).trans (flt (mt (lw_lt _ _).mp hc3)).1) k_) ?_
        have hb2 : b = true := by rw [← hb1]; simp [own_done, hc1, hc2, hc3]
        show Goes p e below s _ _ _ (T10.setTop (mkF m 60 #[.val (.ref a), .unset] []))
        refine Goes.st (fun t_ k_ => XS.iconst X10.here hx rfl (hb hby own_d_prog_57_2_60) k_) ?_
        show Goes p e below s _ _ _ (T10.setTop (mkF m 61 #[.val (.ref a), .unset] [(.int (1 : Int32))]))
        refine Goes.st (fun t_ k_ => XS.goto X10.here hx rfl (pc0 := 61) (pc' := 65) rfl (hb hby own_d_prog_57_2_61) (by decide) (by decide) k_) ?_
        show Goes p e below s _ _ _ (T10.setTop (mkF m 65 #[.val (.ref a), .unset] [(.int (1 : Int32))]))
        refine Goes.st (fun t_ k_ => XS.istoreN X10.here hx rfl (hb hby own_d_prog_57_2_65) rfl  (l' := #[.val (.ref a), .val (.int (1 : Int32))]) rfl k_) ?_
        show Goes p e below s _ _ _ (T10.setTop (mkF m 66 #[.val (.ref a), .val (.int (1 : Int32))] []))
        refine Goes.st (fun t_ k_ => XS.iloadN X10.here hx rfl (hb hby own_d_prog_57_2_66) rfl  k_) ?_
        show Goes p e below s _ _ _ (T10.setTop (mkF m 67 #[.val (.ref a), .val (.int (1 : Int32))] [(.int (1 : Int32))]))
        exact Goes.retN X10 hx (t := .boolean) hret hlk (by simp) (hb hby own_d_prog_57_2_67) (by decide) (by decide) (⟨by rw [hb2]; rfl, N0, e10⟩)
    · refine Goes.st (fun t_ k_ => XS.icmpYes X9.here hx rfl (pc0 := 46) (pc' := 64) rfl (hb hby own_d_prog_57_2_46) rfl (flt hc2).2.2.2 (by decide) (by decide) k_) ?_
      have hb2 : b = false := by rw [← hb1]; simp [own_done, hc1, hc2]
      show Goes p e below s _ _ _ (T9.setTop (mkF m 64 #[.val (.ref a), .unset] []))
      refine Goes.st (fun t_ k_ => XS.iconst X9.here hx rfl (hb hby own_d_prog_57_2_64) k_) ?_
      show Goes p e below s _ _ _ (T9.setTop (mkF m 65 #[.val (.ref a), .unset] [(.int (0 : Int32))]))
      refine Goes.st (fun t_ k_ => XS.istoreN X9.here hx rfl (hb hby own_d_prog_57_2_65) rfl  (l' := #[.val (.ref a), .val (.int (0 : Int32))]) rfl k_) ?_
      show Goes p e below s _ _ _ (T9.setTop (mkF m 66 #[.val (.ref a), .val (.int (0 : Int32))] []))
      refine Goes.st (fun t_ k_ => XS.iloadN X9.here hx rfl (hb hby own_d_prog_57_2_66) rfl  k_) ?_
      show Goes p e below s _ _ _ (T9.setTop (mkF m 67 #[.val (.ref a), .val (.int (0 : Int32))] [(.int (0 : Int32))]))
      exact Goes.retN X9 hx (t := .boolean) hret hlk (by simp) (hb hby own_d_prog_57_2_67) (by decide) (by decide) (⟨by rw [hb2]; rfl, N0, e9⟩)
theorem own_rmE_ef (m : MethodId) (a : Addr) (now : Int64) : entryFrame m #[(.ref a), (.long now)] 3 = mkF m 0 #[.val (.ref a), .val (.long now), .second] [] := by first | (simp [entryFrame, mkF, argsToLocals, Value.category]; done) | rfl
set_option maxRecDepth 65536 in
set_option maxHeartbeats 40000000 in
theorem own_rmE (l : Launch) (Z : State) (a0 : Array Value) (hw : ∀ d ∈ tables_1, d.before a0 Z = true) (ws : List Jvm.Cond) (a : Addr) (now : Int64) (sd : Int32) (sp si sp' : Int64) (h0 : Heap) (n0 : Nat) (Z0 : n0 ≤ h0.size) (HP : own_P Z h0 a sd sp si) (hs : sp' = own_sp sd sp si now) (g_a : n0 ≤ a) :
    MetFree l (⟨"com/example/delaunet/delaunet/core/sim/Pace", "end", "(J)V"⟩ : MethodName) (head1 (Jvm.Cond.code (⟨"com/example/delaunet/delaunet/core/sim/Pace", "end", "(J)V"⟩ : MethodName) prog_57_method_4_code 3 none :: ws) ({ frames := 0, cells := 0, slots := 0, locals := 0 } : Room)) (fun aa_ U => aa_ = #[(.ref a), (.long now)] ∧ Z.Warmed39 U.vm ∧ U.heap = h0) (fun _ _ _ _ _ => True) (fun _ U oo_ U' => ∃ vv_ LL_, oo_ = .returned vv_ ∧ own_QE Z a sd sp' h0 n0 vv_ U'.heap LL_ ∧ FrameEnd U oo_ U' LL_ ({ frames := 0, cells := 0, slots := 0, locals := 0 } : Room).cells ({ frames := 0, cells := 0, slots := 0, locals := 0 } : Room).slots) := by
  refine MetFree.of_bodySF (plainFor_of_name own_pn14) hisR ?_
  intro p e s m args below meth c s₁ Bd hml0 hP hK
  obtain ⟨rfl, hZ, hh⟩ := hP
  have hx := Bd.exec
  have hby := Bd.bytes
  have hml : c.maxLocals = 3 := hml0
  have hown : s.vm.findClass "com/example/delaunet/delaunet/core/sim/Pace" = some m.cls := findClass_of_methodNamed Bd.named
  have hnm := (name_of_methodNamed Bd.named Bd.method).1
  have hlk := Bd.notSynchronized
  have hret := Bd.returns
  have X0 : Stand p l e ({ frames := 0, cells := 0, slots := 0, locals := 0 } : Room) s m #[(.ref a), (.long now)] below meth c s₁ [] 0 0 := Stand.of_body Bd
  have e0 : s₁.heap = h0 := by rw [← hh, Bd.state]; rfl
  have N0 := Fr.nil n0
  show Goes p e below s (own_QE Z a sd sp' h0 n0) ({ frames := 0, cells := 0, slots := 0, locals := 0 } : Room).cells ({ frames := 0, cells := 0, slots := 0, locals := 0 } : Room).slots _
  refine Goes.cast (own_rmE_ef m a now) ?_
  obtain ⟨E_a, Fs_a, Fa_a, Fd_a, Fp_a, Fi_a⟩ := HP
  have K0 := Keep.refl h0 [a]
  show Goes p e below s _ _ _ (s₁.setTop (mkF m 0 #[.val (.ref a), .val (.long now), .second] []))
  refine Goes.st (fun t_ k_ => XS.aloadN X0.here hx rfl (hb hby own_d_prog_57_4_0) rfl rfl k_) ?_
  show Goes p e below s _ _ _ (s₁.setTop (mkF m 1 #[.val (.ref a), .val (.long now), .second] [(.ref a)]))
  obtain ⟨T11, X11, e11, st11⟩ := getF X0 hx hZ hown (host := "") (Or.inl (hw _ (List.mem_of_getElem? (i := 17) rfl))) Via.refl e0 Fi_a (g := (mkF m 1 #[.val (.ref a), .val (.long now), .second] [(.ref a)])) rfl rfl (hb hby own_d_prog_57_4_1)
  refine Goes.st st11 ?_
  show Goes p e below s _ _ _ (T11.setTop (mkF m 4 #[.val (.ref a), .val (.long now), .second] [(.long si)]))
  refine Goes.st (fun t_ k_ => XS.lconst X11.here hx rfl (hb hby own_d_prog_57_4_4) k_) ?_
  show Goes p e below s _ _ _ (T11.setTop (mkF m 5 #[.val (.ref a), .val (.long now), .second] [(.long (0 : Int64)), (.long si)]))
  refine Goes.st (fun t_ k_ => XS.lcmp X11.here hx rfl (hb hby own_d_prog_57_4_5) rfl k_) ?_
  show Goes p e below s _ _ _ (T11.setTop (mkF m 6 #[.val (.ref a), .val (.long now), .second] [(.int (lcmpW si (0 : Int64)))]))
  by_cases hc1 : si < (0 : Int64)
  · refine Goes.st (fun t_ k_ => XS.ifYes X11.here hx rfl (pc0 := 6) (pc' := 32) rfl (hb hby own_d_prog_57_4_6) rfl ((if0 _ _).trans (tlt ((lw_lt _ _).mpr hc1)).1) (by decide) (by decide) k_) ?_
    show Goes p e below s _ _ _ (T11.setTop (mkF m 32 #[.val (.ref a), .val (.long now), .second] []))
    refine Goes.st (fun t_ k_ => XS.aloadN X11.here hx rfl (hb hby own_d_prog_57_4_32) rfl rfl k_) ?_
    show Goes p e below s _ _ _ (T11.setTop (mkF m 33 #[.val (.ref a), .val (.long now), .second] [(.ref a)]))
    refine Goes.st (fun t_ k_ => X11.ldc2Long hx hown (mvT hZ (hw _ (List.mem_of_getElem? (i := 16) rfl))) (g := (mkF m 33 #[.val (.ref a), .val (.long now), .second] [(.ref a)])) rfl (hb hby own_d_prog_57_4_33) _ k_) ?_
    show Goes p e below s _ _ _ (T11.setTop (mkF m 36 #[.val (.ref a), .val (.long now), .second] [(.long (-1 : Int64)), (.ref a)]))
    obtain ⟨T12, h12, X12, e12, W12, st12⟩ := putF X11 hx hZ hown (host := "") (Or.inl (hw _ (List.mem_of_getElem? (i := 17) rfl))) Via.refl e11 Fi_a E_a (Or.inl (hw _ (List.mem_of_getElem? (i := 18) rfl))) (hw _ (List.mem_of_getElem? (i := 3) rfl)) (ty := .long) (by decide) rfl rfl (g := (mkF m 36 #[.val (.ref a), .val (.long now), .second] [(.long (-1 : Int64)), (.ref a)])) rfl rfl (hb hby own_d_prog_57_4_36)
    refine Goes.st st12 ?_
    have E_a := E_a.wr W12
    have Fs_a := Fs_a.other W12 (Or.inr (slot_ne (Or.inl (hw _ (List.mem_of_getElem? (i := 30) rfl))) (Or.inl (hw _ (List.mem_of_getElem? (i := 18) rfl))) (by decide) (t := .boolean) (t' := .long) (by decide) (by decide)))
    have Fa_a := Fa_a.other W12 (Or.inr (slot_ne (Or.inl (hw _ (List.mem_of_getElem? (i := 39) rfl))) (Or.inl (hw _ (List.mem_of_getElem? (i := 18) rfl))) (by decide) (t := .boolean) (t' := .long) (by decide) (by decide)))
    have Fd_a := Fd_a.other W12 (Or.inr (slot_ne (Or.inl (hw _ (List.mem_of_getElem? (i := 32) rfl))) (Or.inl (hw _ (List.mem_of_getElem? (i := 18) rfl))) (by decide) (t := .int) (t' := .long) (by decide) (by decide)))
    have Fp_a := Fp_a.other W12 (Or.inr (slot_ne (Or.inl (hw _ (List.mem_of_getElem? (i := 41) rfl))) (Or.inl (hw _ (List.mem_of_getElem? (i := 18) rfl))) (by decide) (t := .long) (t' := .long) (by decide) (by decide)))
    have Fi_a := Fi_a.same W12
    have N12 := Fr.snoc X12 N0 g_a
    have Z0' := Nat.le_trans Z0 (Keep.of_wr W12).1
    have K0 := K0.wr W12 (Or.inl (List.mem_of_getElem? (i := 0) rfl))
    show Goes p e below s _ _ _ (T12.setTop (mkF m 39 #[.val (.ref a), .val (.long now), .second] []))
    have hs2 : sp' = sp := by rw [hs]; simp [own_sp, hc1]
    rw [← hs2] at Fp_a
    rw [← e12] at K0 E_a Fs_a Fa_a Fd_a Fp_a Fi_a
    exact Goes.ret0 X12 hx hret hlk (hb hby own_d_prog_57_4_39) (by decide) (by decide) (⟨rfl, N12, K0, E_a, Fs_a, Fa_a, Fd_a, Fp_a, Fi_a⟩)
  · refine Goes.st (fun t_ k_ => XS.ifNo X11.here hx rfl (hb hby own_d_prog_57_4_6) rfl ((if0 _ _).trans (flt (mt (lw_lt _ _).mp hc1)).1) k_) ?_
    show Goes p e below s _ _ _ (T11.setTop (mkF m 9 #[.val (.ref a), .val (.long now), .second] []))
    refine Goes.st (fun t_ k_ => XS.aloadN X11.here hx rfl (hb hby own_d_prog_57_4_9) rfl rfl k_) ?_
    show Goes p e below s _ _ _ (T11.setTop (mkF m 10 #[.val (.ref a), .val (.long now), .second] [(.ref a)]))
    obtain ⟨T13, X13, e13, st13⟩ := getF X11 hx hZ hown (host := "") (Or.inl (hw _ (List.mem_of_getElem? (i := 31) rfl))) Via.refl e11 Fd_a (g := (mkF m 10 #[.val (.ref a), .val (.long now), .second] [(.ref a)])) rfl rfl (hb hby own_d_prog_57_4_10)
    refine Goes.st st13 ?_
    show Goes p e below s _ _ _ (T13.setTop (mkF m 13 #[.val (.ref a), .val (.long now), .second] [(.int sd)]))
    refine Goes.st (fun t_ k_ => XS.iconst X13.here hx rfl (hb hby own_d_prog_57_4_13) k_) ?_
    show Goes p e below s _ _ _ (T13.setTop (mkF m 14 #[.val (.ref a), .val (.long now), .second] [(.int (1 : Int32)), (.int sd)]))
    by_cases hc2 : (1 : Int32) < sd
    · refine Goes.st (fun t_ k_ => XS.icmpNo X13.here hx rfl (hb hby own_d_prog_57_4_14) rfl (tlt hc2).2.2.2 k_) ?_
      show Goes p e below s _ _ _ (T13.setTop (mkF m 17 #[.val (.ref a), .val (.long now), .second] []))
      refine Goes.st (fun t_ k_ => XS.aloadN X13.here hx rfl (hb hby own_d_prog_57_4_17) rfl rfl k_) ?_
      show Goes p e below s _ _ _ (T13.setTop (mkF m 18 #[.val (.ref a), .val (.long now), .second] [(.ref a)]))
      refine Goes.st (fun t_ k_ => XS.dup X13.here hx rfl (hb hby own_d_prog_57_4_18) rfl rfl k_) ?_
      show Goes p e below s _ _ _ (T13.setTop (mkF m 19 #[.val (.ref a), .val (.long now), .second] [(.ref a), (.ref a)]))
      obtain ⟨T14, X14, e14, st14⟩ := getF X13 hx hZ hown (host := "") (Or.inl (hw _ (List.mem_of_getElem? (i := 40) rfl))) Via.refl e13 Fp_a (g := (mkF m 19 #[.val (.ref a), .val (.long now), .second] [(.ref a), (.ref a)])) rfl rfl (hb hby own_d_prog_57_4_19)
      refine Goes.st st14 ?_
      show Goes p e below s _ _ _ (T14.setTop (mkF m 22 #[.val (.ref a), .val (.long now), .second] [(.long sp), (.ref a)]))
      refine Goes.st (fun t_ k_ => XS.lloadN X14.here hx rfl (hb hby own_d_prog_57_4_22) rfl  k_) ?_
      show Goes p e below s _ _ _ (T14.setTop (mkF m 23 #[.val (.ref a), .val (.long now), .second] [(.long now), (.long sp), (.ref a)]))
      refine Goes.st (fun t_ k_ => XS.aloadN X14.here hx rfl (hb hby own_d_prog_57_4_23) rfl rfl k_) ?_
      show Goes p e below s _ _ _ (T14.setTop (mkF m 24 #[.val (.ref a), .val (.long now), .second] [(.ref a), (.long now), (.long sp), (.ref a)]))
      obtain ⟨T15, X15, e15, st15⟩ := getF X14 hx hZ hown (host := "") (Or.inl (hw _ (List.mem_of_getElem? (i := 17) rfl))) Via.refl e14 Fi_a (g := (mkF m 24 #[.val (.ref a), .val (.long now), .second] [(.ref a), (.long now), (.long sp), (.ref a)])) rfl rfl (hb hby own_d_prog_57_4_24)
      refine Goes.st st15 ?_
      show Goes p e below s _ _ _ (T15.setTop (mkF m 27 #[.val (.ref a), .val (.long now), .second] [(.long si), (.long now), (.long sp), (.ref a)]))
      refine Goes.st (fun t_ k_ => XS.lsub X15.here hx rfl (hb hby own_d_prog_57_4_27) rfl k_) ?_
      show Goes p e below s _ _ _ (T15.setTop (mkF m 28 #[.val (.ref a), .val (.long now), .second] [(.long (now - si)), (.long sp), (.ref a)]))
      refine Goes.st (fun t_ k_ => XS.ladd X15.here hx rfl (hb hby own_d_prog_57_4_28) rfl k_) ?_
      show Goes p e below s _ _ _ (T15.setTop (mkF m 29 #[.val (.ref a), .val (.long now), .second] [(.long (sp + (now - si))), (.ref a)]))
      obtain ⟨T16, h16, X16, e16, W16, st16⟩ := putF X15 hx hZ hown (host := "") (Or.inl (hw _ (List.mem_of_getElem? (i := 40) rfl))) Via.refl e15 Fp_a E_a (Or.inl (hw _ (List.mem_of_getElem? (i := 41) rfl))) (hw _ (List.mem_of_getElem? (i := 3) rfl)) (ty := .long) (by decide) rfl rfl (g := (mkF m 29 #[.val (.ref a), .val (.long now), .second] [(.long (sp + (now - si))), (.ref a)])) rfl rfl (hb hby own_d_prog_57_4_29)
      refine Goes.st st16 ?_
      have E_a := E_a.wr W16
      have Fs_a := Fs_a.other W16 (Or.inr (slot_ne (Or.inl (hw _ (List.mem_of_getElem? (i := 30) rfl))) (Or.inl (hw _ (List.mem_of_getElem? (i := 41) rfl))) (by decide) (t := .boolean) (t' := .long) (by decide) (by decide)))
      have Fa_a := Fa_a.other W16 (Or.inr (slot_ne (Or.inl (hw _ (List.mem_of_getElem? (i := 39) rfl))) (Or.inl (hw _ (List.mem_of_getElem? (i := 41) rfl))) (by decide) (t := .boolean) (t' := .long) (by decide) (by decide)))
      have Fd_a := Fd_a.other W16 (Or.inr (slot_ne (Or.inl (hw _ (List.mem_of_getElem? (i := 32) rfl))) (Or.inl (hw _ (List.mem_of_getElem? (i := 41) rfl))) (by decide) (t := .int) (t' := .long) (by decide) (by decide)))
      have Fp_a := Fp_a.same W16
      have Fi_a := Fi_a.other W16 (Or.inr (slot_ne (Or.inl (hw _ (List.mem_of_getElem? (i := 18) rfl))) (Or.inl (hw _ (List.mem_of_getElem? (i := 41) rfl))) (by decide) (t := .long) (t' := .long) (by decide) (by decide)))
      have N16 := Fr.snoc X16 N0 g_a
      have Z0' := Nat.le_trans Z0 (Keep.of_wr W16).1
      have K0 := K0.wr W16 (Or.inl (List.mem_of_getElem? (i := 0) rfl))
      show Goes p e below s _ _ _ (T16.setTop (mkF m 32 #[.val (.ref a), .val (.long now), .second] []))
      refine Goes.st (fun t_ k_ => XS.aloadN X16.here hx rfl (hb hby own_d_prog_57_4_32) rfl rfl k_) ?_
      show Goes p e below s _ _ _ (T16.setTop (mkF m 33 #[.val (.ref a), .val (.long now), .second] [(.ref a)]))
      refine Goes.st (fun t_ k_ => X16.ldc2Long hx hown (mvT hZ (hw _ (List.mem_of_getElem? (i := 16) rfl))) (g := (mkF m 33 #[.val (.ref a), .val (.long now), .second] [(.ref a)])) rfl (hb hby own_d_prog_57_4_33) _ k_) ?_
      show Goes p e below s _ _ _ (T16.setTop (mkF m 36 #[.val (.ref a), .val (.long now), .second] [(.long (-1 : Int64)), (.ref a)]))
      obtain ⟨T17, h17, X17, e17, W17, st17⟩ := putF X16 hx hZ hown (host := "") (Or.inl (hw _ (List.mem_of_getElem? (i := 17) rfl))) Via.refl e16 Fi_a E_a (Or.inl (hw _ (List.mem_of_getElem? (i := 18) rfl))) (hw _ (List.mem_of_getElem? (i := 3) rfl)) (ty := .long) (by decide) rfl rfl (g := (mkF m 36 #[.val (.ref a), .val (.long now), .second] [(.long (-1 : Int64)), (.ref a)])) rfl rfl (hb hby own_d_prog_57_4_36)
      refine Goes.st st17 ?_
      have E_a := E_a.wr W17
      have Fs_a := Fs_a.other W17 (Or.inr (slot_ne (Or.inl (hw _ (List.mem_of_getElem? (i := 30) rfl))) (Or.inl (hw _ (List.mem_of_getElem? (i := 18) rfl))) (by decide) (t := .boolean) (t' := .long) (by decide) (by decide)))
      have Fa_a := Fa_a.other W17 (Or.inr (slot_ne (Or.inl (hw _ (List.mem_of_getElem? (i := 39) rfl))) (Or.inl (hw _ (List.mem_of_getElem? (i := 18) rfl))) (by decide) (t := .boolean) (t' := .long) (by decide) (by decide)))
      have Fd_a := Fd_a.other W17 (Or.inr (slot_ne (Or.inl (hw _ (List.mem_of_getElem? (i := 32) rfl))) (Or.inl (hw _ (List.mem_of_getElem? (i := 18) rfl))) (by decide) (t := .int) (t' := .long) (by decide) (by decide)))
      have Fp_a := Fp_a.other W17 (Or.inr (slot_ne (Or.inl (hw _ (List.mem_of_getElem? (i := 41) rfl))) (Or.inl (hw _ (List.mem_of_getElem? (i := 18) rfl))) (by decide) (t := .long) (t' := .long) (by decide) (by decide)))
      have Fi_a := Fi_a.same W17
      have N17 := Fr.snoc X17 N16 g_a
      have Z0'' := Nat.le_trans Z0' (Keep.of_wr W17).1
      have K0 := K0.wr W17 (Or.inl (List.mem_of_getElem? (i := 0) rfl))
      show Goes p e below s _ _ _ (T17.setTop (mkF m 39 #[.val (.ref a), .val (.long now), .second] []))
      have hs2 : sp' = (sp + (now - si)) := by rw [hs]; simp [own_sp, hc1, hc2]
      rw [← hs2] at Fp_a
      rw [← e17] at K0 E_a Fs_a Fa_a Fd_a Fp_a Fi_a
      exact Goes.ret0 X17 hx hret hlk (hb hby own_d_prog_57_4_39) (by decide) (by decide) (⟨rfl, N17, K0, E_a, Fs_a, Fa_a, Fd_a, Fp_a, Fi_a⟩)
    · refine Goes.st (fun t_ k_ => XS.icmpYes X13.here hx rfl (pc0 := 14) (pc' := 32) rfl (hb hby own_d_prog_57_4_14) rfl (flt hc2).2.2.2 (by decide) (by decide) k_) ?_
      show Goes p e below s _ _ _ (T13.setTop (mkF m 32 #[.val (.ref a), .val (.long now), .second] []))
      refine Goes.st (fun t_ k_ => XS.aloadN X13.here hx rfl (hb hby own_d_prog_57_4_32) rfl rfl k_) ?_
      show Goes p e below s _ _ _ (T13.setTop (mkF m 33 #[.val (.ref a), .val (.long now), .second] [(.ref a)]))
      refine Goes.st (fun t_ k_ => X13.ldc2Long hx hown (mvT hZ (hw _ (List.mem_of_getElem? (i := 16) rfl))) (g := (mkF m 33 #[.val (.ref a), .val (.long now), .second] [(.ref a)])) rfl (hb hby own_d_prog_57_4_33) _ k_) ?_
      show Goes p e below s _ _ _ (T13.setTop (mkF m 36 #[.val (.ref a), .val (.long now), .second] [(.long (-1 : Int64)), (.ref a)]))
      obtain ⟨T18, h18, X18, e18, W18, st18⟩ := putF X13 hx hZ hown (host := "") (Or.inl (hw _ (List.mem_of_getElem? (i := 17) rfl))) Via.refl e13 Fi_a E_a (Or.inl (hw _ (List.mem_of_getElem? (i := 18) rfl))) (hw _ (List.mem_of_getElem? (i := 3) rfl)) (ty := .long) (by decide) rfl rfl (g := (mkF m 36 #[.val (.ref a), .val (.long now), .second] [(.long (-1 : Int64)), (.ref a)])) rfl rfl (hb hby own_d_prog_57_4_36)
      refine Goes.st st18 ?_
      have E_a := E_a.wr W18
      have Fs_a := Fs_a.other W18 (Or.inr (slot_ne (Or.inl (hw _ (List.mem_of_getElem? (i := 30) rfl))) (Or.inl (hw _ (List.mem_of_getElem? (i := 18) rfl))) (by decide) (t := .boolean) (t' := .long) (by decide) (by decide)))
      have Fa_a := Fa_a.other W18 (Or.inr (slot_ne (Or.inl (hw _ (List.mem_of_getElem? (i := 39) rfl))) (Or.inl (hw _ (List.mem_of_getElem? (i := 18) rfl))) (by decide) (t := .boolean) (t' := .long) (by decide) (by decide)))
      have Fd_a := Fd_a.other W18 (Or.inr (slot_ne (Or.inl (hw _ (List.mem_of_getElem? (i := 32) rfl))) (Or.inl (hw _ (List.mem_of_getElem? (i := 18) rfl))) (by decide) (t := .int) (t' := .long) (by decide) (by decide)))
      have Fp_a := Fp_a.other W18 (Or.inr (slot_ne (Or.inl (hw _ (List.mem_of_getElem? (i := 41) rfl))) (Or.inl (hw _ (List.mem_of_getElem? (i := 18) rfl))) (by decide) (t := .long) (t' := .long) (by decide) (by decide)))
      have Fi_a := Fi_a.same W18
      have N18 := Fr.snoc X18 N0 g_a
      have Z0' := Nat.le_trans Z0 (Keep.of_wr W18).1
      have K0 := K0.wr W18 (Or.inl (List.mem_of_getElem? (i := 0) rfl))
      show Goes p e below s _ _ _ (T18.setTop (mkF m 39 #[.val (.ref a), .val (.long now), .second] []))
      have hs2 : sp' = sp := by rw [hs]; simp [own_sp, hc1, hc2]
      rw [← hs2] at Fp_a
      rw [← e18] at K0 E_a Fs_a Fa_a Fd_a Fp_a Fi_a
      exact Goes.ret0 X18 hx hret hlk (hb hby own_d_prog_57_4_39) (by decide) (by decide) (⟨rfl, N18, K0, E_a, Fs_a, Fa_a, Fd_a, Fp_a, Fi_a⟩)
theorem own_rmS_ef (m : MethodId) (a : Addr) (now : Int64) : entryFrame m #[(.ref a), (.long now)] 4 = mkF m 0 #[.val (.ref a), .val (.long now), .second, .unset] [] := by first | (simp [entryFrame, mkF, argsToLocals, Value.category]; done) | rfl
set_option maxRecDepth 65536 in
set_option maxHeartbeats 40000000 in
theorem own_rmS (l : Launch) (Z : State) (a0 : Array Value) (hw : ∀ d ∈ tables_1, d.before a0 Z = true) (ws : List Jvm.Cond) (a : Addr) (now : Int64) (sd : Int32) (sp si sp' : Int64) (h0 : Heap) (n0 : Nat) (Z0 : n0 ≤ h0.size) (HP : own_P Z h0 a sd sp si) (hd : own_done sd sp = false) (hs : sp' = own_sp sd sp si now) (g_a : n0 ≤ a) :
    MetFree l (⟨"com/example/delaunet/delaunet/core/sim/Pace", "start", "(J)Z"⟩ : MethodName) (head1 (Jvm.Cond.code (⟨"com/example/delaunet/delaunet/core/sim/Pace", "start", "(J)Z"⟩ : MethodName) prog_57_method_3_code 4 (some .boolean) :: ws) ({ frames := 1, cells := 0, slots := 0, locals := 14 } : Room)) (fun aa_ U => aa_ = #[(.ref a), (.long now)] ∧ Z.Warmed39 U.vm ∧ U.heap = h0) (fun _ _ _ _ _ => True) (fun _ U oo_ U' => ∃ vv_ LL_, oo_ = .returned vv_ ∧ own_QS Z a sd sp' now h0 n0 vv_ U'.heap LL_ ∧ FrameEnd U oo_ U' LL_ ({ frames := 1, cells := 0, slots := 0, locals := 14 } : Room).cells ({ frames := 1, cells := 0, slots := 0, locals := 14 } : Room).slots) := by
  refine MetFree.of_bodySF (plainFor_of_name own_pn14) hisR ?_
  intro p e s m args below meth c s₁ Bd hml0 hP hK
  obtain ⟨rfl, hZ, hh⟩ := hP
  have hx := Bd.exec
  have hby := Bd.bytes
  have hml : c.maxLocals = 4 := hml0
  have hown : s.vm.findClass "com/example/delaunet/delaunet/core/sim/Pace" = some m.cls := findClass_of_methodNamed Bd.named
  have hnm := (name_of_methodNamed Bd.named Bd.method).1
  have hlk := Bd.notSynchronized
  have hret := Bd.returns
  have X0 : Stand p l e ({ frames := 1, cells := 0, slots := 0, locals := 14 } : Room) s m #[(.ref a), (.long now)] below meth c s₁ [] 0 0 := Stand.of_body Bd
  have e0 : s₁.heap = h0 := by rw [← hh, Bd.state]; rfl
  have N0 := Fr.nil n0
  show Goes p e below s (own_QS Z a sd sp' now h0 n0) ({ frames := 1, cells := 0, slots := 0, locals := 14 } : Room).cells ({ frames := 1, cells := 0, slots := 0, locals := 14 } : Room).slots _
  refine Goes.cast (own_rmS_ef m a now) ?_
  have HP' := HP
  obtain ⟨E_a, Fs_a, Fa_a, Fd_a, Fp_a, Fi_a⟩ := HP'
  have K0 := Keep.refl h0 [a]
  show Goes p e below s _ _ _ (s₁.setTop (mkF m 0 #[.val (.ref a), .val (.long now), .second, .unset] []))
  refine Goes.st (fun t_ k_ => XS.aloadN X0.here hx rfl (hb hby own_d_prog_57_3_0) rfl rfl k_) ?_
  show Goes p e below s _ _ _ (s₁.setTop (mkF m 1 #[.val (.ref a), .val (.long now), .second, .unset] [(.ref a)]))
  obtain ⟨cq19, kq19, q19a, q19b, q19c⟩ := isOf hZ e0 E_a
  obtain ⟨_, _, ⟨T19, L19, k19, n19⟩, -, X19, ⟨Lc19, hQ19, l19, y19, z19⟩, st19⟩ := X0.virtualBack hx (y := (⟨"com/example/delaunet/delaunet/core/sim/Pace", "complete", "()Z"⟩ : MethodName)) (z := (⟨"com/example/delaunet/delaunet/core/sim/Pace", "complete", "()Z"⟩ : MethodName)) hown (mvT hZ (hw _ (List.mem_of_getElem? (i := 24) rfl))) (mvT hZ (hw _ (List.mem_of_getElem? (i := 25) rfl))) (notFace_of_selects (args := #[]) (mvT hZ (hw _ (List.mem_of_getElem? (i := 27) rfl)))) (mvT hZ (hw _ (List.mem_of_getElem? (i := 27) rfl))) (mvT hZ (hw _ (List.mem_of_getElem? (i := 26) rfl))) (by decide) (backOf (W := 0) (own_rmC l Z a0 hw [] a sd sp si false h0 n0 Z0 HP hd) hZ (hw _ (List.mem_of_getElem? (i := 28) rfl)) (hw _ (List.mem_of_getElem? (i := 4) rfl)) (by decide) (by decide)) q19a q19c (g := (mkF m 1 #[.val (.ref a), .val (.long now), .second, .unset] [(.ref a)])) rfl (by rw [hml]; rfl) (Steps.refl _) (argsL := []) (rest := []) (lenOf own_pd60 rfl) rfl (by show 2 * 0 + _ ≤ _; exact Nat.le_of_eq rfl) (hb hby own_d_prog_57_3_1) (fun _ _ => ⟨rfl, e0, (by decide : 0 + 0 ≤ _), (by decide : 0 + 0 ≤ _)⟩)
  dsimp only [Pt.U, Pt.locs, Pt.cells, Pt.slots] at X19 l19 y19 z19 st19 hQ19
  subst l19 y19 z19
  obtain ⟨rfl, N19q, EQ1⟩ := hQ19
  have N19 := Fr.app N0 N19q
  refine Goes.tr st19 ?_
  show Goes p e below s _ _ _ (T19.setTop (mkF m 4 #[.val (.ref a), .val (.long now), .second, .unset] [(.int (own_bI false))]))
  refine Goes.st (fun t_ k_ => XS.istoreN X19.here hx rfl (hb hby own_d_prog_57_3_4) rfl  (l' := #[.val (.ref a), .val (.long now), .second, .val (.int (own_bI false))]) rfl k_) ?_
  show Goes p e below s _ _ _ (T19.setTop (mkF m 5 #[.val (.ref a), .val (.long now), .second, .val (.int (own_bI false))] []))
  refine Goes.st (fun t_ k_ => XS.aloadN X19.here hx rfl (hb hby own_d_prog_57_3_5) rfl rfl k_) ?_
  show Goes p e below s _ _ _ (T19.setTop (mkF m 6 #[.val (.ref a), .val (.long now), .second, .val (.int (own_bI false))] [(.ref a)]))
  refine Goes.st (fun t_ k_ => XS.lloadN X19.here hx rfl (hb hby own_d_prog_57_3_6) rfl  k_) ?_
  show Goes p e below s _ _ _ (T19.setTop (mkF m 7 #[.val (.ref a), .val (.long now), .second, .val (.int (own_bI false))] [(.long now), (.ref a)]))
  obtain ⟨cq20, kq20, q20a, q20b, q20c⟩ := isOf hZ EQ1 E_a
  obtain ⟨_, _, ⟨T20, L20, k20, n20⟩, -, X20, ⟨Lc20, hQ20, l20, y20, z20⟩, st20⟩ := X19.virtualBack hx (y := (⟨"com/example/delaunet/delaunet/core/sim/Pace", "end", "(J)V"⟩ : MethodName)) (z := (⟨"com/example/delaunet/delaunet/core/sim/Pace", "end", "(J)V"⟩ : MethodName)) hown (mvT hZ (hw _ (List.mem_of_getElem? (i := 33) rfl))) (mvT hZ (hw _ (List.mem_of_getElem? (i := 34) rfl))) (notFace_of_selects (args := #[]) (mvT hZ (hw _ (List.mem_of_getElem? (i := 36) rfl)))) (mvT hZ (hw _ (List.mem_of_getElem? (i := 36) rfl))) (mvT hZ (hw _ (List.mem_of_getElem? (i := 35) rfl))) (by decide) (backOf (W := 0) (own_rmE l Z a0 hw [] a now sd sp si sp' h0 n0 Z0 HP hs g_a) hZ (hw _ (List.mem_of_getElem? (i := 37) rfl)) (hw _ (List.mem_of_getElem? (i := 4) rfl)) (by decide) (by decide)) q20a q20c (g := (mkF m 7 #[.val (.ref a), .val (.long now), .second, .val (.int (own_bI false))] [(.long now), (.ref a)])) rfl (by rw [hml]; rfl) (Steps.refl _) (argsL := [(.long now)]) (rest := []) (lenOf own_pd65 rfl) rfl (by show 2 * 0 + _ ≤ _; exact Nat.le_of_eq rfl) (hb hby own_d_prog_57_3_7) (fun _ _ => ⟨rfl, EQ1, (by decide : 0 + 0 ≤ _), (by decide : 0 + 0 ≤ _)⟩)
  dsimp only [Pt.U, Pt.locs, Pt.cells, Pt.slots] at X20 l20 y20 z20 st20 hQ20
  subst l20 y20 z20
  obtain ⟨rfl, N20q, K1, HP1⟩ := hQ20
  have N20 := Fr.app N19 N20q
  refine Goes.tr st20 ?_
  have Z0' := Nat.le_trans Z0 K1.1
  have K0 : Keep h0 _ _ := K0.trans K1 (allS (Or.inl (List.mem_of_getElem? (i := 0) rfl)) all0)
  obtain ⟨E_a, Fs_a, Fa_a, Fd_a, Fp_a, Fi_a⟩ := HP1
  show Goes p e below s _ _ _ (T20.setTop (mkF m 10 #[.val (.ref a), .val (.long now), .second, .val (.int (own_bI false))] []))
  refine Goes.st (fun t_ k_ => XS.iloadN X20.here hx rfl (hb hby own_d_prog_57_3_10) rfl  k_) ?_
  show Goes p e below s _ _ _ (T20.setTop (mkF m 11 #[.val (.ref a), .val (.long now), .second, .val (.int (own_bI false))] [(.int (own_bI false))]))
  refine Goes.st (fun t_ k_ => XS.ifYes X20.here hx rfl (pc0 := 11) (pc' := 44) rfl (hb hby own_d_prog_57_3_11) rfl ((if0 _ _).trans (teq (rfl : own_bI false = 0)).1) (by decide) (by decide) k_) ?_
  show Goes p e below s _ _ _ (T20.setTop (mkF m 44 #[.val (.ref a), .val (.long now), .second, .val (.int (own_bI false))] []))
  refine Goes.st (fun t_ k_ => XS.iloadN X20.here hx rfl (hb hby own_d_prog_57_3_44) rfl  k_) ?_
  show Goes p e below s _ _ _ (T20.setTop (mkF m 45 #[.val (.ref a), .val (.long now), .second, .val (.int (own_bI false))] [(.int (own_bI false))]))
  refine Goes.st (fun t_ k_ => XS.ifYes X20.here hx rfl (pc0 := 45) (pc' := 52) rfl (hb hby own_d_prog_57_3_45) rfl ((if0 _ _).trans (teq (rfl : own_bI false = 0)).1) (by decide) (by decide) k_) ?_
  show Goes p e below s _ _ _ (T20.setTop (mkF m 52 #[.val (.ref a), .val (.long now), .second, .val (.int (own_bI false))] []))
  refine Goes.st (fun t_ k_ => XS.aloadN X20.here hx rfl (hb hby own_d_prog_57_3_52) rfl rfl k_) ?_
  show Goes p e below s _ _ _ (T20.setTop (mkF m 53 #[.val (.ref a), .val (.long now), .second, .val (.int (own_bI false))] [(.ref a)]))
  refine Goes.st (fun t_ k_ => XS.dup X20.here hx rfl (hb hby own_d_prog_57_3_53) rfl rfl k_) ?_
  show Goes p e below s _ _ _ (T20.setTop (mkF m 54 #[.val (.ref a), .val (.long now), .second, .val (.int (own_bI false))] [(.ref a), (.ref a)]))
  obtain ⟨T21, X21, e21, st21⟩ := getF X20 hx hZ hown (host := "") (Or.inl (hw _ (List.mem_of_getElem? (i := 31) rfl))) Via.refl rfl Fd_a (g := (mkF m 54 #[.val (.ref a), .val (.long now), .second, .val (.int (own_bI false))] [(.ref a), (.ref a)])) rfl rfl (hb hby own_d_prog_57_3_54)
  refine Goes.st st21 ?_
  show Goes p e below s _ _ _ (T21.setTop (mkF m 57 #[.val (.ref a), .val (.long now), .second, .val (.int (own_bI false))] [(.int sd), (.ref a)]))
  refine Goes.st (fun t_ k_ => XS.iconst X21.here hx rfl (hb hby own_d_prog_57_3_57) k_) ?_
  show Goes p e below s _ _ _ (T21.setTop (mkF m 58 #[.val (.ref a), .val (.long now), .second, .val (.int (own_bI false))] [(.int (1 : Int32)), (.int sd), (.ref a)]))
  refine Goes.st (fun t_ k_ => XS.iadd X21.here hx rfl (hb hby own_d_prog_57_3_58) rfl k_) ?_
  show Goes p e below s _ _ _ (T21.setTop (mkF m 59 #[.val (.ref a), .val (.long now), .second, .val (.int (own_bI false))] [(.int (sd + (1 : Int32))), (.ref a)]))
  obtain ⟨T22, h22, X22, e22, W22, st22⟩ := putF X21 hx hZ hown (host := "") (Or.inl (hw _ (List.mem_of_getElem? (i := 31) rfl))) Via.refl e21 Fd_a E_a (Or.inl (hw _ (List.mem_of_getElem? (i := 32) rfl))) (hw _ (List.mem_of_getElem? (i := 3) rfl)) (ty := .int) (by decide) rfl rfl (g := (mkF m 59 #[.val (.ref a), .val (.long now), .second, .val (.int (own_bI false))] [(.int (sd + (1 : Int32))), (.ref a)])) rfl rfl (hb hby own_d_prog_57_3_59)
  refine Goes.st st22 ?_
  have E_a := E_a.wr W22
  have Fs_a := Fs_a.other W22 (Or.inr (slot_ne (Or.inl (hw _ (List.mem_of_getElem? (i := 30) rfl))) (Or.inl (hw _ (List.mem_of_getElem? (i := 32) rfl))) (by decide) (t := .boolean) (t' := .int) (by decide) (by decide)))
  have Fa_a := Fa_a.other W22 (Or.inr (slot_ne (Or.inl (hw _ (List.mem_of_getElem? (i := 39) rfl))) (Or.inl (hw _ (List.mem_of_getElem? (i := 32) rfl))) (by decide) (t := .boolean) (t' := .int) (by decide) (by decide)))
  have Fd_a := Fd_a.same W22
  have Fp_a := Fp_a.other W22 (Or.inr (slot_ne (Or.inl (hw _ (List.mem_of_getElem? (i := 41) rfl))) (Or.inl (hw _ (List.mem_of_getElem? (i := 32) rfl))) (by decide) (t := .long) (t' := .int) (by decide) (by decide)))
  have Fi_a := Fi_a.other W22 (Or.inr (slot_ne (Or.inl (hw _ (List.mem_of_getElem? (i := 18) rfl))) (Or.inl (hw _ (List.mem_of_getElem? (i := 32) rfl))) (by decide) (t := .long) (t' := .int) (by decide) (by decide)))
  have N22 := Fr.snoc X22 N20 g_a
  have Z0'' := Nat.le_trans Z0' (Keep.of_wr W22).1
  have K0 := K0.wr W22 (Or.inl (List.mem_of_getElem? (i := 0) rfl))
  show Goes p e below s _ _ _ (T22.setTop (mkF m 62 #[.val (.ref a), .val (.long now), .second, .val (.int (own_bI false))] []))
  refine Goes.st (fun t_ k_ => XS.aloadN X22.here hx rfl (hb hby own_d_prog_57_3_62) rfl rfl k_) ?_
  show Goes p e below s _ _ _ (T22.setTop (mkF m 63 #[.val (.ref a), .val (.long now), .second, .val (.int (own_bI false))] [(.ref a)]))
  refine Goes.st (fun t_ k_ => XS.lloadN X22.here hx rfl (hb hby own_d_prog_57_3_63) rfl  k_) ?_
  show Goes p e below s _ _ _ (T22.setTop (mkF m 64 #[.val (.ref a), .val (.long now), .second, .val (.int (own_bI false))] [(.long now), (.ref a)]))
  obtain ⟨T23, h23, X23, e23, W23, st23⟩ := putF X22 hx hZ hown (host := "") (Or.inl (hw _ (List.mem_of_getElem? (i := 17) rfl))) Via.refl e22 Fi_a E_a (Or.inl (hw _ (List.mem_of_getElem? (i := 18) rfl))) (hw _ (List.mem_of_getElem? (i := 3) rfl)) (ty := .long) (by decide) rfl rfl (g := (mkF m 64 #[.val (.ref a), .val (.long now), .second, .val (.int (own_bI false))] [(.long now), (.ref a)])) rfl rfl (hb hby own_d_prog_57_3_64)
  refine Goes.st st23 ?_
  have E_a := E_a.wr W23
  have Fs_a := Fs_a.other W23 (Or.inr (slot_ne (Or.inl (hw _ (List.mem_of_getElem? (i := 30) rfl))) (Or.inl (hw _ (List.mem_of_getElem? (i := 18) rfl))) (by decide) (t := .boolean) (t' := .long) (by decide) (by decide)))
  have Fa_a := Fa_a.other W23 (Or.inr (slot_ne (Or.inl (hw _ (List.mem_of_getElem? (i := 39) rfl))) (Or.inl (hw _ (List.mem_of_getElem? (i := 18) rfl))) (by decide) (t := .boolean) (t' := .long) (by decide) (by decide)))
  have Fd_a := Fd_a.other W23 (Or.inr (slot_ne (Or.inl (hw _ (List.mem_of_getElem? (i := 32) rfl))) (Or.inl (hw _ (List.mem_of_getElem? (i := 18) rfl))) (by decide) (t := .int) (t' := .long) (by decide) (by decide)))
  have Fp_a := Fp_a.other W23 (Or.inr (slot_ne (Or.inl (hw _ (List.mem_of_getElem? (i := 41) rfl))) (Or.inl (hw _ (List.mem_of_getElem? (i := 18) rfl))) (by decide) (t := .long) (t' := .long) (by decide) (by decide)))
  have Fi_a := Fi_a.same W23
  have N23 := Fr.snoc X23 N22 g_a
  have Z0''' := Nat.le_trans Z0'' (Keep.of_wr W23).1
  have K0 := K0.wr W23 (Or.inl (List.mem_of_getElem? (i := 0) rfl))
  show Goes p e below s _ _ _ (T23.setTop (mkF m 67 #[.val (.ref a), .val (.long now), .second, .val (.int (own_bI false))] []))
  refine Goes.st (fun t_ k_ => XS.aloadN X23.here hx rfl (hb hby own_d_prog_57_3_67) rfl rfl k_) ?_
  show Goes p e below s _ _ _ (T23.setTop (mkF m 68 #[.val (.ref a), .val (.long now), .second, .val (.int (own_bI false))] [(.ref a)]))
  obtain ⟨T24, X24, e24, st24⟩ := getF X23 hx hZ hown (host := "") (Or.inl (hw _ (List.mem_of_getElem? (i := 38) rfl))) Via.refl e23 Fa_a (g := (mkF m 68 #[.val (.ref a), .val (.long now), .second, .val (.int (own_bI false))] [(.ref a)])) rfl rfl (hb hby own_d_prog_57_3_68)
  refine Goes.st st24 ?_
  show Goes p e below s _ _ _ (T24.setTop (mkF m 71 #[.val (.ref a), .val (.long now), .second, .val (.int (own_bI false))] [(.int (0 : Int32))]))
  rw [← e24] at K0 E_a Fs_a Fa_a Fd_a Fp_a Fi_a
  exact Goes.retN X24 hx (t := .boolean) hret hlk (by simp) (hb hby own_d_prog_57_3_71) (by decide) (by decide) (⟨rfl, N23, K0, E_a, Fs_a, Fa_a, Fd_a, Fp_a, Fi_a⟩)
theorem own_rm0_ef (m : MethodId) (q0 : Int64) (p1 : Int32) (p2 : Int32) (p3 : Int32) (p4 : Int32) (p5 : Int32) : entryFrame m #[(.long q0), (.int p1), (.int p2), (.int p3), (.int p4), (.int p5)] maxLocals = mkF m 0 #[.val (.long q0), .second, .val (.int p1), .val (.int p2), .val (.int p3), .val (.int p4), .val (.int p5), .unset, .unset, .unset, .unset, .unset, .unset, .unset, .unset, .unset, .unset, .unset, .unset, .unset, .unset, .unset, .unset, .unset, .unset, .unset, .unset, .unset, .unset, .unset, .unset, .unset, .unset] [] := by first | (simp [entryFrame, mkF, argsToLocals, Value.category, maxLocals]; done) | rfl
set_option maxRecDepth 65536 in
set_option maxHeartbeats 40000000 in
theorem own_rm0 (l : Launch) (Z : State) (a0 : Array Value) (hw : ∀ d ∈ tables_1, d.before a0 Z = true) (ws : List Jvm.Cond) (q0 : Int64) (p1 p2 p3 p4 p5 : Int32) (h0 : Heap) (n0 : Nat) (Z0 : n0 ≤ h0.size)  :
    MetFree l x (head1 (Jvm.Cond.code x code maxLocals ret :: ws) room_1) (fun aa_ U => aa_ = #[(.long q0), (.int p1), (.int p2), (.int p3), (.int p4), (.int p5)] ∧ Z.Warmed39 U.vm ∧ U.heap = h0) (fun _ _ _ _ _ => True) (fun _ U oo_ U' => ∃ vv_ LL_, oo_ = .returned vv_ ∧ own_Q0 Z  h0 n0 vv_ U'.heap LL_ ∧ FrameEnd U oo_ U' LL_ 3 21) := by
  refine MetFree.of_bodySF (plainFor_of_name own_pn85) hisR ?_
  intro p e s m args below meth c s₁ Bd hml0 hP hK
  obtain ⟨rfl, hZ, hh⟩ := hP
  have hx := Bd.exec
  have hby := Bd.bytes
  have hml : c.maxLocals = 33 := hml0
  have hown : s.vm.findClass "com/example/delaunet/delaunet/core/sim/PaceEndPinLaw" = some m.cls := findClass_of_methodNamed Bd.named
  have hnm := (name_of_methodNamed Bd.named Bd.method).1
  have hlk := Bd.notSynchronized
  have hret := Bd.returns
  have X0 : Stand p l e room_1 s m #[(.long q0), (.int p1), (.int p2), (.int p3), (.int p4), (.int p5)] below meth c s₁ [] 0 0 := Stand.of_body Bd
  have e0 : s₁.heap = h0 := by rw [← hh, Bd.state]; rfl
  have N0 := Fr.nil n0
  show Goes p e below s (own_Q0 Z  h0 n0) (3) (21) _
  refine Goes.cast (own_rm0_ef m q0 p1 p2 p3 p4 p5) ?_
  show Goes p e below s _ _ _ (s₁.setTop (mkF m 0 #[.val (.long q0), .second, .val (.int p1), .val (.int p2), .val (.int p3), .val (.int p4), .val (.int p5), .unset, .unset, .unset, .unset, .unset, .unset, .unset, .unset, .unset, .unset, .unset, .unset, .unset, .unset, .unset, .unset, .unset, .unset, .unset, .unset, .unset, .unset, .unset, .unset, .unset, .unset] []))
  refine Goes.st (fun t_ k_ => XS.lloadN X0.here hx rfl (hb hby at_0) rfl  k_) ?_
  show Goes p e below s _ _ _ (s₁.setTop (mkF m 1 #[.val (.long q0), .second, .val (.int p1), .val (.int p2), .val (.int p3), .val (.int p4), .val (.int p5), .unset, .unset, .unset, .unset, .unset, .unset, .unset, .unset, .unset, .unset, .unset, .unset, .unset, .unset, .unset, .unset, .unset, .unset, .unset, .unset, .unset, .unset, .unset, .unset, .unset, .unset] [(.long q0)]))
  refine Goes.st (fun t_ k_ => X0.ldc2Long hx hown (mvT hZ (hw _ (List.mem_of_getElem? (i := 0) rfl))) (g := (mkF m 1 #[.val (.long q0), .second, .val (.int p1), .val (.int p2), .val (.int p3), .val (.int p4), .val (.int p5), .unset, .unset, .unset, .unset, .unset, .unset, .unset, .unset, .unset, .unset, .unset, .unset, .unset, .unset, .unset, .unset, .unset, .unset, .unset, .unset, .unset, .unset, .unset, .unset, .unset, .unset] [(.long q0)])) rfl (hb hby at_1) _ k_) ?_
  show Goes p e below s _ _ _ (s₁.setTop (mkF m 4 #[.val (.long q0), .second, .val (.int p1), .val (.int p2), .val (.int p3), .val (.int p4), .val (.int p5), .unset, .unset, .unset, .unset, .unset, .unset, .unset, .unset, .unset, .unset, .unset, .unset, .unset, .unset, .unset, .unset, .unset, .unset, .unset, .unset, .unset, .unset, .unset, .unset, .unset, .unset] [(.long (1152921504606846975 : Int64)), (.long q0)]))
  refine Goes.st (fun t_ k_ => XS.land X0.here hx rfl (hb hby at_4) rfl k_) ?_
  show Goes p e below s _ _ _ (s₁.setTop (mkF m 5 #[.val (.long q0), .second, .val (.int p1), .val (.int p2), .val (.int p3), .val (.int p4), .val (.int p5), .unset, .unset, .unset, .unset, .unset, .unset, .unset, .unset, .unset, .unset, .unset, .unset, .unset, .unset, .unset, .unset, .unset, .unset, .unset, .unset, .unset, .unset, .unset, .unset, .unset, .unset] [(.long (q0 &&& (1152921504606846975 : Int64)))]))
  refine Goes.st (fun t_ k_ => XS.lstore X0.here hx rfl (hb hby at_5) rfl  (l' := #[.val (.long q0), .second, .val (.int p1), .val (.int p2), .val (.int p3), .val (.int p4), .val (.int p5), .val (.long (q0 &&& (1152921504606846975 : Int64))), .second, .unset, .unset, .unset, .unset, .unset, .unset, .unset, .unset, .unset, .unset, .unset, .unset, .unset, .unset, .unset, .unset, .unset, .unset, .unset, .unset, .unset, .unset, .unset, .unset]) rfl k_) ?_
  show Goes p e below s _ _ _ (s₁.setTop (mkF m 7 #[.val (.long q0), .second, .val (.int p1), .val (.int p2), .val (.int p3), .val (.int p4), .val (.int p5), .val (.long (q0 &&& (1152921504606846975 : Int64))), .second, .unset, .unset, .unset, .unset, .unset, .unset, .unset, .unset, .unset, .unset, .unset, .unset, .unset, .unset, .unset, .unset, .unset, .unset, .unset, .unset, .unset, .unset, .unset, .unset] []))
  refine Goes.st (fun t_ k_ => XS.iloadN X0.here hx rfl (hb hby at_7) rfl  k_) ?_
  show Goes p e below s _ _ _ (s₁.setTop (mkF m 8 #[.val (.long q0), .second, .val (.int p1), .val (.int p2), .val (.int p3), .val (.int p4), .val (.int p5), .val (.long (q0 &&& (1152921504606846975 : Int64))), .second, .unset, .unset, .unset, .unset, .unset, .unset, .unset, .unset, .unset, .unset, .unset, .unset, .unset, .unset, .unset, .unset, .unset, .unset, .unset, .unset, .unset, .unset, .unset, .unset] [(.int p1)]))
  refine Goes.st (fun t_ k_ => X0.ldcInt hx hown (mvT hZ (hw _ (List.mem_of_getElem? (i := 1) rfl))) (g := (mkF m 8 #[.val (.long q0), .second, .val (.int p1), .val (.int p2), .val (.int p3), .val (.int p4), .val (.int p5), .val (.long (q0 &&& (1152921504606846975 : Int64))), .second, .unset, .unset, .unset, .unset, .unset, .unset, .unset, .unset, .unset, .unset, .unset, .unset, .unset, .unset, .unset, .unset, .unset, .unset, .unset, .unset, .unset, .unset, .unset, .unset] [(.int p1)])) rfl (hb hby at_8) _ k_) ?_
  show Goes p e below s _ _ _ (s₁.setTop (mkF m 10 #[.val (.long q0), .second, .val (.int p1), .val (.int p2), .val (.int p3), .val (.int p4), .val (.int p5), .val (.long (q0 &&& (1152921504606846975 : Int64))), .second, .unset, .unset, .unset, .unset, .unset, .unset, .unset, .unset, .unset, .unset, .unset, .unset, .unset, .unset, .unset, .unset, .unset, .unset, .unset, .unset, .unset, .unset, .unset, .unset] [(.int (4194303 : Int32)), (.int p1)]))
  refine Goes.st (fun t_ k_ => XS.iand X0.here hx rfl (hb hby at_10) rfl k_) ?_
  show Goes p e below s _ _ _ (s₁.setTop (mkF m 11 #[.val (.long q0), .second, .val (.int p1), .val (.int p2), .val (.int p3), .val (.int p4), .val (.int p5), .val (.long (q0 &&& (1152921504606846975 : Int64))), .second, .unset, .unset, .unset, .unset, .unset, .unset, .unset, .unset, .unset, .unset, .unset, .unset, .unset, .unset, .unset, .unset, .unset, .unset, .unset, .unset, .unset, .unset, .unset, .unset] [(.int (p1 &&& (4194303 : Int32)))]))
  refine Goes.st (fun t_ k_ => XS.i2l X0.here hx rfl (hb hby at_11) rfl k_) ?_
  show Goes p e below s _ _ _ (s₁.setTop (mkF m 12 #[.val (.long q0), .second, .val (.int p1), .val (.int p2), .val (.int p3), .val (.int p4), .val (.int p5), .val (.long (q0 &&& (1152921504606846975 : Int64))), .second, .unset, .unset, .unset, .unset, .unset, .unset, .unset, .unset, .unset, .unset, .unset, .unset, .unset, .unset, .unset, .unset, .unset, .unset, .unset, .unset, .unset, .unset, .unset, .unset] [(.long ((p1 &&& (4194303 : Int32)).toInt64))]))
  refine Goes.st (fun t_ k_ => XS.lstore X0.here hx rfl (hb hby at_12) rfl  (l' := #[.val (.long q0), .second, .val (.int p1), .val (.int p2), .val (.int p3), .val (.int p4), .val (.int p5), .val (.long (q0 &&& (1152921504606846975 : Int64))), .second, .val (.long ((p1 &&& (4194303 : Int32)).toInt64)), .second, .unset, .unset, .unset, .unset, .unset, .unset, .unset, .unset, .unset, .unset, .unset, .unset, .unset, .unset, .unset, .unset, .unset, .unset, .unset, .unset, .unset, .unset]) rfl k_) ?_
  show Goes p e below s _ _ _ (s₁.setTop (mkF m 14 #[.val (.long q0), .second, .val (.int p1), .val (.int p2), .val (.int p3), .val (.int p4), .val (.int p5), .val (.long (q0 &&& (1152921504606846975 : Int64))), .second, .val (.long ((p1 &&& (4194303 : Int32)).toInt64)), .second, .unset, .unset, .unset, .unset, .unset, .unset, .unset, .unset, .unset, .unset, .unset, .unset, .unset, .unset, .unset, .unset, .unset, .unset, .unset, .unset, .unset, .unset] []))
  refine Goes.st (fun t_ k_ => XS.iloadN X0.here hx rfl (hb hby at_14) rfl  k_) ?_
  show Goes p e below s _ _ _ (s₁.setTop (mkF m 15 #[.val (.long q0), .second, .val (.int p1), .val (.int p2), .val (.int p3), .val (.int p4), .val (.int p5), .val (.long (q0 &&& (1152921504606846975 : Int64))), .second, .val (.long ((p1 &&& (4194303 : Int32)).toInt64)), .second, .unset, .unset, .unset, .unset, .unset, .unset, .unset, .unset, .unset, .unset, .unset, .unset, .unset, .unset, .unset, .unset, .unset, .unset, .unset, .unset, .unset, .unset] [(.int p2)]))
  refine Goes.st (fun t_ k_ => X0.ldcInt hx hown (mvT hZ (hw _ (List.mem_of_getElem? (i := 1) rfl))) (g := (mkF m 15 #[.val (.long q0), .second, .val (.int p1), .val (.int p2), .val (.int p3), .val (.int p4), .val (.int p5), .val (.long (q0 &&& (1152921504606846975 : Int64))), .second, .val (.long ((p1 &&& (4194303 : Int32)).toInt64)), .second, .unset, .unset, .unset, .unset, .unset, .unset, .unset, .unset, .unset, .unset, .unset, .unset, .unset, .unset, .unset, .unset, .unset, .unset, .unset, .unset, .unset, .unset] [(.int p2)])) rfl (hb hby at_15) _ k_) ?_
  show Goes p e below s _ _ _ (s₁.setTop (mkF m 17 #[.val (.long q0), .second, .val (.int p1), .val (.int p2), .val (.int p3), .val (.int p4), .val (.int p5), .val (.long (q0 &&& (1152921504606846975 : Int64))), .second, .val (.long ((p1 &&& (4194303 : Int32)).toInt64)), .second, .unset, .unset, .unset, .unset, .unset, .unset, .unset, .unset, .unset, .unset, .unset, .unset, .unset, .unset, .unset, .unset, .unset, .unset, .unset, .unset, .unset, .unset] [(.int (4194303 : Int32)), (.int p2)]))
  refine Goes.st (fun t_ k_ => XS.iand X0.here hx rfl (hb hby at_17) rfl k_) ?_
  show Goes p e below s _ _ _ (s₁.setTop (mkF m 18 #[.val (.long q0), .second, .val (.int p1), .val (.int p2), .val (.int p3), .val (.int p4), .val (.int p5), .val (.long (q0 &&& (1152921504606846975 : Int64))), .second, .val (.long ((p1 &&& (4194303 : Int32)).toInt64)), .second, .unset, .unset, .unset, .unset, .unset, .unset, .unset, .unset, .unset, .unset, .unset, .unset, .unset, .unset, .unset, .unset, .unset, .unset, .unset, .unset, .unset, .unset] [(.int (p2 &&& (4194303 : Int32)))]))
  refine Goes.st (fun t_ k_ => XS.i2l X0.here hx rfl (hb hby at_18) rfl k_) ?_
  show Goes p e below s _ _ _ (s₁.setTop (mkF m 19 #[.val (.long q0), .second, .val (.int p1), .val (.int p2), .val (.int p3), .val (.int p4), .val (.int p5), .val (.long (q0 &&& (1152921504606846975 : Int64))), .second, .val (.long ((p1 &&& (4194303 : Int32)).toInt64)), .second, .unset, .unset, .unset, .unset, .unset, .unset, .unset, .unset, .unset, .unset, .unset, .unset, .unset, .unset, .unset, .unset, .unset, .unset, .unset, .unset, .unset, .unset] [(.long ((p2 &&& (4194303 : Int32)).toInt64))]))
  refine Goes.st (fun t_ k_ => XS.lstore X0.here hx rfl (hb hby at_19) rfl  (l' := #[.val (.long q0), .second, .val (.int p1), .val (.int p2), .val (.int p3), .val (.int p4), .val (.int p5), .val (.long (q0 &&& (1152921504606846975 : Int64))), .second, .val (.long ((p1 &&& (4194303 : Int32)).toInt64)), .second, .val (.long ((p2 &&& (4194303 : Int32)).toInt64)), .second, .unset, .unset, .unset, .unset, .unset, .unset, .unset, .unset, .unset, .unset, .unset, .unset, .unset, .unset, .unset, .unset, .unset, .unset, .unset, .unset]) rfl k_) ?_
  show Goes p e below s _ _ _ (s₁.setTop (mkF m 21 #[.val (.long q0), .second, .val (.int p1), .val (.int p2), .val (.int p3), .val (.int p4), .val (.int p5), .val (.long (q0 &&& (1152921504606846975 : Int64))), .second, .val (.long ((p1 &&& (4194303 : Int32)).toInt64)), .second, .val (.long ((p2 &&& (4194303 : Int32)).toInt64)), .second, .unset, .unset, .unset, .unset, .unset, .unset, .unset, .unset, .unset, .unset, .unset, .unset, .unset, .unset, .unset, .unset, .unset, .unset, .unset, .unset] []))
  refine Goes.st (fun t_ k_ => XS.iload X0.here hx rfl (hb hby at_21) rfl  k_) ?_
  show Goes p e below s _ _ _ (s₁.setTop (mkF m 23 #[.val (.long q0), .second, .val (.int p1), .val (.int p2), .val (.int p3), .val (.int p4), .val (.int p5), .val (.long (q0 &&& (1152921504606846975 : Int64))), .second, .val (.long ((p1 &&& (4194303 : Int32)).toInt64)), .second, .val (.long ((p2 &&& (4194303 : Int32)).toInt64)), .second, .unset, .unset, .unset, .unset, .unset, .unset, .unset, .unset, .unset, .unset, .unset, .unset, .unset, .unset, .unset, .unset, .unset, .unset, .unset, .unset] [(.int p3)]))
  refine Goes.st (fun t_ k_ => X0.ldcInt hx hown (mvT hZ (hw _ (List.mem_of_getElem? (i := 1) rfl))) (g := (mkF m 23 #[.val (.long q0), .second, .val (.int p1), .val (.int p2), .val (.int p3), .val (.int p4), .val (.int p5), .val (.long (q0 &&& (1152921504606846975 : Int64))), .second, .val (.long ((p1 &&& (4194303 : Int32)).toInt64)), .second, .val (.long ((p2 &&& (4194303 : Int32)).toInt64)), .second, .unset, .unset, .unset, .unset, .unset, .unset, .unset, .unset, .unset, .unset, .unset, .unset, .unset, .unset, .unset, .unset, .unset, .unset, .unset, .unset] [(.int p3)])) rfl (hb hby at_23) _ k_) ?_
  show Goes p e below s _ _ _ (s₁.setTop (mkF m 25 #[.val (.long q0), .second, .val (.int p1), .val (.int p2), .val (.int p3), .val (.int p4), .val (.int p5), .val (.long (q0 &&& (1152921504606846975 : Int64))), .second, .val (.long ((p1 &&& (4194303 : Int32)).toInt64)), .second, .val (.long ((p2 &&& (4194303 : Int32)).toInt64)), .second, .unset, .unset, .unset, .unset, .unset, .unset, .unset, .unset, .unset, .unset, .unset, .unset, .unset, .unset, .unset, .unset, .unset, .unset, .unset, .unset] [(.int (4194303 : Int32)), (.int p3)]))
  refine Goes.st (fun t_ k_ => XS.iand X0.here hx rfl (hb hby at_25) rfl k_) ?_
  show Goes p e below s _ _ _ (s₁.setTop (mkF m 26 #[.val (.long q0), .second, .val (.int p1), .val (.int p2), .val (.int p3), .val (.int p4), .val (.int p5), .val (.long (q0 &&& (1152921504606846975 : Int64))), .second, .val (.long ((p1 &&& (4194303 : Int32)).toInt64)), .second, .val (.long ((p2 &&& (4194303 : Int32)).toInt64)), .second, .unset, .unset, .unset, .unset, .unset, .unset, .unset, .unset, .unset, .unset, .unset, .unset, .unset, .unset, .unset, .unset, .unset, .unset, .unset, .unset] [(.int (p3 &&& (4194303 : Int32)))]))
  refine Goes.st (fun t_ k_ => XS.i2l X0.here hx rfl (hb hby at_26) rfl k_) ?_
  show Goes p e below s _ _ _ (s₁.setTop (mkF m 27 #[.val (.long q0), .second, .val (.int p1), .val (.int p2), .val (.int p3), .val (.int p4), .val (.int p5), .val (.long (q0 &&& (1152921504606846975 : Int64))), .second, .val (.long ((p1 &&& (4194303 : Int32)).toInt64)), .second, .val (.long ((p2 &&& (4194303 : Int32)).toInt64)), .second, .unset, .unset, .unset, .unset, .unset, .unset, .unset, .unset, .unset, .unset, .unset, .unset, .unset, .unset, .unset, .unset, .unset, .unset, .unset, .unset] [(.long ((p3 &&& (4194303 : Int32)).toInt64))]))
  refine Goes.st (fun t_ k_ => XS.lstore X0.here hx rfl (hb hby at_27) rfl  (l' := #[.val (.long q0), .second, .val (.int p1), .val (.int p2), .val (.int p3), .val (.int p4), .val (.int p5), .val (.long (q0 &&& (1152921504606846975 : Int64))), .second, .val (.long ((p1 &&& (4194303 : Int32)).toInt64)), .second, .val (.long ((p2 &&& (4194303 : Int32)).toInt64)), .second, .val (.long ((p3 &&& (4194303 : Int32)).toInt64)), .second, .unset, .unset, .unset, .unset, .unset, .unset, .unset, .unset, .unset, .unset, .unset, .unset, .unset, .unset, .unset, .unset, .unset, .unset]) rfl k_) ?_
  show Goes p e below s _ _ _ (s₁.setTop (mkF m 29 #[.val (.long q0), .second, .val (.int p1), .val (.int p2), .val (.int p3), .val (.int p4), .val (.int p5), .val (.long (q0 &&& (1152921504606846975 : Int64))), .second, .val (.long ((p1 &&& (4194303 : Int32)).toInt64)), .second, .val (.long ((p2 &&& (4194303 : Int32)).toInt64)), .second, .val (.long ((p3 &&& (4194303 : Int32)).toInt64)), .second, .unset, .unset, .unset, .unset, .unset, .unset, .unset, .unset, .unset, .unset, .unset, .unset, .unset, .unset, .unset, .unset, .unset, .unset] []))
  refine Goes.st (fun t_ k_ => XS.iload X0.here hx rfl (hb hby at_29) rfl  k_) ?_
  show Goes p e below s _ _ _ (s₁.setTop (mkF m 31 #[.val (.long q0), .second, .val (.int p1), .val (.int p2), .val (.int p3), .val (.int p4), .val (.int p5), .val (.long (q0 &&& (1152921504606846975 : Int64))), .second, .val (.long ((p1 &&& (4194303 : Int32)).toInt64)), .second, .val (.long ((p2 &&& (4194303 : Int32)).toInt64)), .second, .val (.long ((p3 &&& (4194303 : Int32)).toInt64)), .second, .unset, .unset, .unset, .unset, .unset, .unset, .unset, .unset, .unset, .unset, .unset, .unset, .unset, .unset, .unset, .unset, .unset, .unset] [(.int p4)]))
  refine Goes.st (fun t_ k_ => X0.ldcInt hx hown (mvT hZ (hw _ (List.mem_of_getElem? (i := 1) rfl))) (g := (mkF m 31 #[.val (.long q0), .second, .val (.int p1), .val (.int p2), .val (.int p3), .val (.int p4), .val (.int p5), .val (.long (q0 &&& (1152921504606846975 : Int64))), .second, .val (.long ((p1 &&& (4194303 : Int32)).toInt64)), .second, .val (.long ((p2 &&& (4194303 : Int32)).toInt64)), .second, .val (.long ((p3 &&& (4194303 : Int32)).toInt64)), .second, .unset, .unset, .unset, .unset, .unset, .unset, .unset, .unset, .unset, .unset, .unset, .unset, .unset, .unset, .unset, .unset, .unset, .unset] [(.int p4)])) rfl (hb hby at_31) _ k_) ?_
  show Goes p e below s _ _ _ (s₁.setTop (mkF m 33 #[.val (.long q0), .second, .val (.int p1), .val (.int p2), .val (.int p3), .val (.int p4), .val (.int p5), .val (.long (q0 &&& (1152921504606846975 : Int64))), .second, .val (.long ((p1 &&& (4194303 : Int32)).toInt64)), .second, .val (.long ((p2 &&& (4194303 : Int32)).toInt64)), .second, .val (.long ((p3 &&& (4194303 : Int32)).toInt64)), .second, .unset, .unset, .unset, .unset, .unset, .unset, .unset, .unset, .unset, .unset, .unset, .unset, .unset, .unset, .unset, .unset, .unset, .unset] [(.int (4194303 : Int32)), (.int p4)]))
  refine Goes.st (fun t_ k_ => XS.iand X0.here hx rfl (hb hby at_33) rfl k_) ?_
  show Goes p e below s _ _ _ (s₁.setTop (mkF m 34 #[.val (.long q0), .second, .val (.int p1), .val (.int p2), .val (.int p3), .val (.int p4), .val (.int p5), .val (.long (q0 &&& (1152921504606846975 : Int64))), .second, .val (.long ((p1 &&& (4194303 : Int32)).toInt64)), .second, .val (.long ((p2 &&& (4194303 : Int32)).toInt64)), .second, .val (.long ((p3 &&& (4194303 : Int32)).toInt64)), .second, .unset, .unset, .unset, .unset, .unset, .unset, .unset, .unset, .unset, .unset, .unset, .unset, .unset, .unset, .unset, .unset, .unset, .unset] [(.int (p4 &&& (4194303 : Int32)))]))
  refine Goes.st (fun t_ k_ => XS.i2l X0.here hx rfl (hb hby at_34) rfl k_) ?_
  show Goes p e below s _ _ _ (s₁.setTop (mkF m 35 #[.val (.long q0), .second, .val (.int p1), .val (.int p2), .val (.int p3), .val (.int p4), .val (.int p5), .val (.long (q0 &&& (1152921504606846975 : Int64))), .second, .val (.long ((p1 &&& (4194303 : Int32)).toInt64)), .second, .val (.long ((p2 &&& (4194303 : Int32)).toInt64)), .second, .val (.long ((p3 &&& (4194303 : Int32)).toInt64)), .second, .unset, .unset, .unset, .unset, .unset, .unset, .unset, .unset, .unset, .unset, .unset, .unset, .unset, .unset, .unset, .unset, .unset, .unset] [(.long ((p4 &&& (4194303 : Int32)).toInt64))]))
  refine Goes.st (fun t_ k_ => XS.lstore X0.here hx rfl (hb hby at_35) rfl  (l' := #[.val (.long q0), .second, .val (.int p1), .val (.int p2), .val (.int p3), .val (.int p4), .val (.int p5), .val (.long (q0 &&& (1152921504606846975 : Int64))), .second, .val (.long ((p1 &&& (4194303 : Int32)).toInt64)), .second, .val (.long ((p2 &&& (4194303 : Int32)).toInt64)), .second, .val (.long ((p3 &&& (4194303 : Int32)).toInt64)), .second, .val (.long ((p4 &&& (4194303 : Int32)).toInt64)), .second, .unset, .unset, .unset, .unset, .unset, .unset, .unset, .unset, .unset, .unset, .unset, .unset, .unset, .unset, .unset, .unset]) rfl k_) ?_
  show Goes p e below s _ _ _ (s₁.setTop (mkF m 37 #[.val (.long q0), .second, .val (.int p1), .val (.int p2), .val (.int p3), .val (.int p4), .val (.int p5), .val (.long (q0 &&& (1152921504606846975 : Int64))), .second, .val (.long ((p1 &&& (4194303 : Int32)).toInt64)), .second, .val (.long ((p2 &&& (4194303 : Int32)).toInt64)), .second, .val (.long ((p3 &&& (4194303 : Int32)).toInt64)), .second, .val (.long ((p4 &&& (4194303 : Int32)).toInt64)), .second, .unset, .unset, .unset, .unset, .unset, .unset, .unset, .unset, .unset, .unset, .unset, .unset, .unset, .unset, .unset, .unset] []))
  refine Goes.st (fun t_ k_ => XS.iload X0.here hx rfl (hb hby at_37) rfl  k_) ?_
  show Goes p e below s _ _ _ (s₁.setTop (mkF m 39 #[.val (.long q0), .second, .val (.int p1), .val (.int p2), .val (.int p3), .val (.int p4), .val (.int p5), .val (.long (q0 &&& (1152921504606846975 : Int64))), .second, .val (.long ((p1 &&& (4194303 : Int32)).toInt64)), .second, .val (.long ((p2 &&& (4194303 : Int32)).toInt64)), .second, .val (.long ((p3 &&& (4194303 : Int32)).toInt64)), .second, .val (.long ((p4 &&& (4194303 : Int32)).toInt64)), .second, .unset, .unset, .unset, .unset, .unset, .unset, .unset, .unset, .unset, .unset, .unset, .unset, .unset, .unset, .unset, .unset] [(.int p5)]))
  refine Goes.st (fun t_ k_ => XS.iconst X0.here hx rfl (hb hby at_39) k_) ?_
  show Goes p e below s _ _ _ (s₁.setTop (mkF m 40 #[.val (.long q0), .second, .val (.int p1), .val (.int p2), .val (.int p3), .val (.int p4), .val (.int p5), .val (.long (q0 &&& (1152921504606846975 : Int64))), .second, .val (.long ((p1 &&& (4194303 : Int32)).toInt64)), .second, .val (.long ((p2 &&& (4194303 : Int32)).toInt64)), .second, .val (.long ((p3 &&& (4194303 : Int32)).toInt64)), .second, .val (.long ((p4 &&& (4194303 : Int32)).toInt64)), .second, .unset, .unset, .unset, .unset, .unset, .unset, .unset, .unset, .unset, .unset, .unset, .unset, .unset, .unset, .unset, .unset] [(.int (1 : Int32)), (.int p5)]))
  refine Goes.st (fun t_ k_ => XS.iand X0.here hx rfl (hb hby at_40) rfl k_) ?_
  show Goes p e below s _ _ _ (s₁.setTop (mkF m 41 #[.val (.long q0), .second, .val (.int p1), .val (.int p2), .val (.int p3), .val (.int p4), .val (.int p5), .val (.long (q0 &&& (1152921504606846975 : Int64))), .second, .val (.long ((p1 &&& (4194303 : Int32)).toInt64)), .second, .val (.long ((p2 &&& (4194303 : Int32)).toInt64)), .second, .val (.long ((p3 &&& (4194303 : Int32)).toInt64)), .second, .val (.long ((p4 &&& (4194303 : Int32)).toInt64)), .second, .unset, .unset, .unset, .unset, .unset, .unset, .unset, .unset, .unset, .unset, .unset, .unset, .unset, .unset, .unset, .unset] [(.int (p5 &&& (1 : Int32)))]))
  obtain ⟨t0, hd_t0⟩ : ∃ z : Int64, z = (q0 &&& (1152921504606846975 : Int64)) := ⟨_, rfl⟩
  have hb_t0 : 0 ≤ t0.toInt ∧ t0.toInt < 1152921504606846976 := by rw [hd_t0]; exact own_m60 _
  rw [← hd_t0]
  obtain ⟨ee, hd_ee⟩ : ∃ z : Int64, z = ((p1 &&& (4194303 : Int32)).toInt64) := ⟨_, rfl⟩
  have hb_ee : 0 ≤ ee.toInt ∧ ee.toInt < 4194304 := by rw [hd_ee]; exact own_m22 _
  rw [← hd_ee]
  obtain ⟨d1, hd_d1⟩ : ∃ z : Int64, z = ((p2 &&& (4194303 : Int32)).toInt64) := ⟨_, rfl⟩
  have hb_d1 : 0 ≤ d1.toInt ∧ d1.toInt < 4194304 := by rw [hd_d1]; exact own_m22 _
  rw [← hd_d1]
  obtain ⟨d2, hd_d2⟩ : ∃ z : Int64, z = ((p3 &&& (4194303 : Int32)).toInt64) := ⟨_, rfl⟩
  have hb_d2 : 0 ≤ d2.toInt ∧ d2.toInt < 4194304 := by rw [hd_d2]; exact own_m22 _
  rw [← hd_d2]
  obtain ⟨d3, hd_d3⟩ : ∃ z : Int64, z = ((p4 &&& (4194303 : Int32)).toInt64) := ⟨_, rfl⟩
  have hb_d3 : 0 ≤ d3.toInt ∧ d3.toInt < 4194304 := by rw [hd_d3]; exact own_m22 _
  rw [← hd_d3]
  clear hd_t0 hd_ee hd_d1 hd_d2 hd_d3
  show Goes p e below s _ _ _ (s₁.setTop (mkF m 41 #[.val (.long q0), .second, .val (.int p1), .val (.int p2), .val (.int p3), .val (.int p4), .val (.int p5), .val (.long t0), .second, .val (.long ee), .second, .val (.long d1), .second, .val (.long d2), .second, .val (.long d3), .second, .unset, .unset, .unset, .unset, .unset, .unset, .unset, .unset, .unset, .unset, .unset, .unset, .unset, .unset, .unset, .unset] [(.int (p5 &&& (1 : Int32)))]))
  have hj1 : ∀ (T25 : State) (h25 : Heap) (L25 : List Loc) (fe : Int32) (X25 : Stand p l e room_1 s m #[(.long q0), (.int p1), (.int p2), (.int p3), (.int p4), (.int p5)] below meth c T25 L25 0 0) (e25 : T25.heap = h25) (N25 : Fr n0 L25) (Z25 : n0 ≤ h25.size), Goes p e below s (own_Q0 Z  h0 n0) (3) (21) (T25.setTop (mkF m 49 #[.val (.long q0), .second, .val (.int p1), .val (.int p2), .val (.int p3), .val (.int p4), .val (.int p5), .val (.long t0), .second, .val (.long ee), .second, .val (.long d1), .second, .val (.long d2), .second, .val (.long d3), .second, .unset, .unset, .unset, .unset, .unset, .unset, .unset, .unset, .unset, .unset, .unset, .unset, .unset, .unset, .unset, .unset] [(.int fe)])) := by
    intro T25 h25 L25 fe X25 e25 N25 Z25     
    show Goes p e below s _ _ _ (T25.setTop (mkF m 49 #[.val (.long q0), .second, .val (.int p1), .val (.int p2), .val (.int p3), .val (.int p4), .val (.int p5), .val (.long t0), .second, .val (.long ee), .second, .val (.long d1), .second, .val (.long d2), .second, .val (.long d3), .second, .unset, .unset, .unset, .unset, .unset, .unset, .unset, .unset, .unset, .unset, .unset, .unset, .unset, .unset, .unset, .unset] [(.int fe)]))
    refine Goes.st (fun t_ k_ => XS.istore X25.here hx rfl (hb hby at_49) rfl  (l' := #[.val (.long q0), .second, .val (.int p1), .val (.int p2), .val (.int p3), .val (.int p4), .val (.int p5), .val (.long t0), .second, .val (.long ee), .second, .val (.long d1), .second, .val (.long d2), .second, .val (.long d3), .second, .val (.int fe), .unset, .unset, .unset, .unset, .unset, .unset, .unset, .unset, .unset, .unset, .unset, .unset, .unset, .unset, .unset]) rfl k_) ?_
    show Goes p e below s _ _ _ (T25.setTop (mkF m 51 #[.val (.long q0), .second, .val (.int p1), .val (.int p2), .val (.int p3), .val (.int p4), .val (.int p5), .val (.long t0), .second, .val (.long ee), .second, .val (.long d1), .second, .val (.long d2), .second, .val (.long d3), .second, .val (.int fe), .unset, .unset, .unset, .unset, .unset, .unset, .unset, .unset, .unset, .unset, .unset, .unset, .unset, .unset, .unset] []))
    refine Goes.st (fun t_ k_ => XS.iload X25.here hx rfl (hb hby at_51) rfl  k_) ?_
    show Goes p e below s _ _ _ (T25.setTop (mkF m 53 #[.val (.long q0), .second, .val (.int p1), .val (.int p2), .val (.int p3), .val (.int p4), .val (.int p5), .val (.long t0), .second, .val (.long ee), .second, .val (.long d1), .second, .val (.long d2), .second, .val (.long d3), .second, .val (.int fe), .unset, .unset, .unset, .unset, .unset, .unset, .unset, .unset, .unset, .unset, .unset, .unset, .unset, .unset, .unset] [(.int p5)]))
    refine Goes.st (fun t_ k_ => XS.iconst X25.here hx rfl (hb hby at_53) k_) ?_
    show Goes p e below s _ _ _ (T25.setTop (mkF m 54 #[.val (.long q0), .second, .val (.int p1), .val (.int p2), .val (.int p3), .val (.int p4), .val (.int p5), .val (.long t0), .second, .val (.long ee), .second, .val (.long d1), .second, .val (.long d2), .second, .val (.long d3), .second, .val (.int fe), .unset, .unset, .unset, .unset, .unset, .unset, .unset, .unset, .unset, .unset, .unset, .unset, .unset, .unset, .unset] [(.int (2 : Int32)), (.int p5)]))
    refine Goes.st (fun t_ k_ => XS.iand X25.here hx rfl (hb hby at_54) rfl k_) ?_
    show Goes p e below s _ _ _ (T25.setTop (mkF m 55 #[.val (.long q0), .second, .val (.int p1), .val (.int p2), .val (.int p3), .val (.int p4), .val (.int p5), .val (.long t0), .second, .val (.long ee), .second, .val (.long d1), .second, .val (.long d2), .second, .val (.long d3), .second, .val (.int fe), .unset, .unset, .unset, .unset, .unset, .unset, .unset, .unset, .unset, .unset, .unset, .unset, .unset, .unset, .unset] [(.int (p5 &&& (2 : Int32)))]))
    have hj2 : ∀ (T26 : State) (h26 : Heap) (L26 : List Loc) (me : Int32) (X26 : Stand p l e room_1 s m #[(.long q0), (.int p1), (.int p2), (.int p3), (.int p4), (.int p5)] below meth c T26 L26 0 0) (e26 : T26.heap = h26) (N26 : Fr n0 L26) (Z26 : n0 ≤ h26.size), Goes p e below s (own_Q0 Z  h0 n0) (3) (21) (T26.setTop (mkF m 63 #[.val (.long q0), .second, .val (.int p1), .val (.int p2), .val (.int p3), .val (.int p4), .val (.int p5), .val (.long t0), .second, .val (.long ee), .second, .val (.long d1), .second, .val (.long d2), .second, .val (.long d3), .second, .val (.int fe), .unset, .unset, .unset, .unset, .unset, .unset, .unset, .unset, .unset, .unset, .unset, .unset, .unset, .unset, .unset] [(.int me)])) := by
      intro T26 h26 L26 me X26 e26 N26 Z26     
      show Goes p e below s _ _ _ (T26.setTop (mkF m 63 #[.val (.long q0), .second, .val (.int p1), .val (.int p2), .val (.int p3), .val (.int p4), .val (.int p5), .val (.long t0), .second, .val (.long ee), .second, .val (.long d1), .second, .val (.long d2), .second, .val (.long d3), .second, .val (.int fe), .unset, .unset, .unset, .unset, .unset, .unset, .unset, .unset, .unset, .unset, .unset, .unset, .unset, .unset, .unset] [(.int me)]))
      refine Goes.st (fun t_ k_ => XS.istore X26.here hx rfl (hb hby at_63) rfl  (l' := #[.val (.long q0), .second, .val (.int p1), .val (.int p2), .val (.int p3), .val (.int p4), .val (.int p5), .val (.long t0), .second, .val (.long ee), .second, .val (.long d1), .second, .val (.long d2), .second, .val (.long d3), .second, .val (.int fe), .val (.int me), .unset, .unset, .unset, .unset, .unset, .unset, .unset, .unset, .unset, .unset, .unset, .unset, .unset, .unset]) rfl k_) ?_
      show Goes p e below s _ _ _ (T26.setTop (mkF m 65 #[.val (.long q0), .second, .val (.int p1), .val (.int p2), .val (.int p3), .val (.int p4), .val (.int p5), .val (.long t0), .second, .val (.long ee), .second, .val (.long d1), .second, .val (.long d2), .second, .val (.long d3), .second, .val (.int fe), .val (.int me), .unset, .unset, .unset, .unset, .unset, .unset, .unset, .unset, .unset, .unset, .unset, .unset, .unset, .unset] []))
      obtain ⟨T27, h27, X27, e27, E27, A27, D27, -, st27⟩ := newO X26 hx hZ hown (hw _ (List.mem_of_getElem? (i := 2) rfl)) (hw _ (List.mem_of_getElem? (i := 3) rfl)) (hw _ (List.mem_of_getElem? (i := 4) rfl)) e26 (g := (mkF m 65 #[.val (.long q0), .second, .val (.int p1), .val (.int p2), .val (.int p3), .val (.int p4), .val (.int p5), .val (.long t0), .second, .val (.long ee), .second, .val (.long d1), .second, .val (.long d2), .second, .val (.long d3), .second, .val (.int fe), .val (.int me), .unset, .unset, .unset, .unset, .unset, .unset, .unset, .unset, .unset, .unset, .unset, .unset, .unset, .unset] [])) rfl (hb hby at_65) (by decide) (by decide)
      obtain ⟨b27, g27⟩ : ∃ z, z = h26.size := ⟨_, rfl⟩
      rw [← g27] at A27 D27 st27
      have gn_b27 : n0 ≤ b27 := Nat.le_trans Z26 (Nat.le_of_eq g27.symm)
      refine Goes.st st27 ?_
      have Z26' := Nat.le_trans Z26 E27.1
      have Ex_b27 := A27
      have F_here_b27 : Fld Z h27 b27 "com/example/delaunet/delaunet/core/sim/Pace" "here" "[D" .null := D27 (Or.inr (hw _ (List.mem_of_getElem? (i := 13) rfl))) (ty := (.array .double)) (by decide)
      have F_away_b27 : Fld Z h27 b27 "com/example/delaunet/delaunet/core/sim/Pace" "away" "[D" .null := D27 (Or.inr (hw _ (List.mem_of_getElem? (i := 15) rfl))) (ty := (.array .double)) (by decide)
      have F_since_b27 : Fld Z h27 b27 "com/example/delaunet/delaunet/core/sim/Pace" "since" "J" (.long (0 : Int64)) := D27 (Or.inl (hw _ (List.mem_of_getElem? (i := 18) rfl))) (ty := .long) (by decide)
      have F_staying_b27 : Fld Z h27 b27 "com/example/delaunet/delaunet/core/sim/Pace" "staying" "Z" (.int (0 : Int32)) := D27 (Or.inl (hw _ (List.mem_of_getElem? (i := 30) rfl))) (ty := .boolean) (by decide)
      have F_started_b27 : Fld Z h27 b27 "com/example/delaunet/delaunet/core/sim/Pace" "started" "I" (.int (0 : Int32)) := D27 (Or.inl (hw _ (List.mem_of_getElem? (i := 32) rfl))) (ty := .int) (by decide)
      have F_awayNow_b27 : Fld Z h27 b27 "com/example/delaunet/delaunet/core/sim/Pace" "awayNow" "Z" (.int (0 : Int32)) := D27 (Or.inl (hw _ (List.mem_of_getElem? (i := 39) rfl))) (ty := .boolean) (by decide)
      have F_spent_b27 : Fld Z h27 b27 "com/example/delaunet/delaunet/core/sim/Pace" "spent" "J" (.long (0 : Int64)) := D27 (Or.inl (hw _ (List.mem_of_getElem? (i := 41) rfl))) (ty := .long) (by decide)
      have F_trials_b27 : Fld Z h27 b27 "com/example/delaunet/delaunet/core/sim/Pace" "trials" "I" (.int (0 : Int32)) := D27 (Or.inl (hw _ (List.mem_of_getElem? (i := 47) rfl))) (ty := .int) (by decide)
      have F_tried_b27 : Fld Z h27 b27 "com/example/delaunet/delaunet/core/sim/Pace" "tried" "I" (.int (0 : Int32)) := D27 (Or.inl (hw _ (List.mem_of_getElem? (i := 49) rfl))) (ty := .int) (by decide)
      have F_stay_b27 : Fld Z h27 b27 "com/example/delaunet/delaunet/core/sim/Pace" "stay" "I" (.int (0 : Int32)) := D27 (Or.inl (hw _ (List.mem_of_getElem? (i := 51) rfl))) (ty := .int) (by decide)
      show Goes p e below s _ _ _ (T27.setTop (mkF m 68 #[.val (.long q0), .second, .val (.int p1), .val (.int p2), .val (.int p3), .val (.int p4), .val (.int p5), .val (.long t0), .second, .val (.long ee), .second, .val (.long d1), .second, .val (.long d2), .second, .val (.long d3), .second, .val (.int fe), .val (.int me), .unset, .unset, .unset, .unset, .unset, .unset, .unset, .unset, .unset, .unset, .unset, .unset, .unset, .unset] [(.ref b27)]))
      refine Goes.st (fun t_ k_ => XS.dup X27.here hx rfl (hb hby at_68) rfl rfl k_) ?_
      show Goes p e below s _ _ _ (T27.setTop (mkF m 69 #[.val (.long q0), .second, .val (.int p1), .val (.int p2), .val (.int p3), .val (.int p4), .val (.int p5), .val (.long t0), .second, .val (.long ee), .second, .val (.long d1), .second, .val (.long d2), .second, .val (.long d3), .second, .val (.int fe), .val (.int me), .unset, .unset, .unset, .unset, .unset, .unset, .unset, .unset, .unset, .unset, .unset, .unset, .unset, .unset] [(.ref b27), (.ref b27)]))
      obtain ⟨_, _, ⟨T28, L28, k28, n28⟩, -, X28, ⟨Lc28, hQ28, l28, y28, z28⟩, st28⟩ := X27.specialBack hx (y := (⟨"com/example/delaunet/delaunet/core/sim/Pace", "<init>", "()V"⟩ : MethodName)) rfl hown (mvT hZ (hw _ (List.mem_of_getElem? (i := 5) rfl))) (mvT hZ (hw _ (List.mem_of_getElem? (i := 6) rfl))) (mvT hZ (hw _ (List.mem_of_getElem? (i := 7) rfl))) (by decide) (backOf (W := 1) (own_rmI l Z a0 hw [] b27 h27 n0 Z26' Ex_b27 F_here_b27 F_away_b27 F_staying_b27 F_awayNow_b27 F_started_b27 F_spent_b27 F_since_b27 gn_b27) hZ (hw _ (List.mem_of_getElem? (i := 7) rfl)) (hw _ (List.mem_of_getElem? (i := 4) rfl)) (by decide) (by decide)) (g := (mkF m 69 #[.val (.long q0), .second, .val (.int p1), .val (.int p2), .val (.int p3), .val (.int p4), .val (.int p5), .val (.long t0), .second, .val (.long ee), .second, .val (.long d1), .second, .val (.long d2), .second, .val (.long d3), .second, .val (.int fe), .val (.int me), .unset, .unset, .unset, .unset, .unset, .unset, .unset, .unset, .unset, .unset, .unset, .unset, .unset, .unset] [(.ref b27), (.ref b27)])) rfl (by rw [hml]; rfl) (Steps.refl _) (a := b27) (argsL := []) (rest := [(.ref b27)]) (lenOf own_pd83 rfl) rfl (by show 2 * 0 + _ ≤ _; exact Nat.le_of_eq rfl) (hb hby at_69) (fun _ _ => ⟨rfl, e27, (by decide : 1 + 2 ≤ _), (by decide : 11 + 10 ≤ _)⟩)
      dsimp only [Pt.U, Pt.locs, Pt.cells, Pt.slots] at X28 l28 y28 z28 st28 hQ28
      subst l28 y28 z28
      obtain ⟨rfl, N28q, KI, HP⟩ := hQ28
      have N28 := Fr.app N26 N28q
      refine Goes.tr st28 ?_
      have Z26'' := Nat.le_trans Z26' KI.1
      have HP' := HP
      obtain ⟨E_b27, Fs_b27, Fa_b27, Fd_b27, Fp_b27, Fi_b27⟩ := HP'
      show Goes p e below s _ _ _ (T28.setTop (mkF m 72 #[.val (.long q0), .second, .val (.int p1), .val (.int p2), .val (.int p3), .val (.int p4), .val (.int p5), .val (.long t0), .second, .val (.long ee), .second, .val (.long d1), .second, .val (.long d2), .second, .val (.long d3), .second, .val (.int fe), .val (.int me), .unset, .unset, .unset, .unset, .unset, .unset, .unset, .unset, .unset, .unset, .unset, .unset, .unset, .unset] [(.ref b27)]))
      refine Goes.st (fun t_ k_ => XS.astore X28.here hx rfl (hb hby at_72) rfl rfl (l' := #[.val (.long q0), .second, .val (.int p1), .val (.int p2), .val (.int p3), .val (.int p4), .val (.int p5), .val (.long t0), .second, .val (.long ee), .second, .val (.long d1), .second, .val (.long d2), .second, .val (.long d3), .second, .val (.int fe), .val (.int me), .val (.ref b27), .unset, .unset, .unset, .unset, .unset, .unset, .unset, .unset, .unset, .unset, .unset, .unset, .unset]) rfl k_) ?_
      show Goes p e below s _ _ _ (T28.setTop (mkF m 74 #[.val (.long q0), .second, .val (.int p1), .val (.int p2), .val (.int p3), .val (.int p4), .val (.int p5), .val (.long t0), .second, .val (.long ee), .second, .val (.long d1), .second, .val (.long d2), .second, .val (.long d3), .second, .val (.int fe), .val (.int me), .val (.ref b27), .unset, .unset, .unset, .unset, .unset, .unset, .unset, .unset, .unset, .unset, .unset, .unset, .unset] []))
      refine Goes.st (fun t_ k_ => XS.aload X28.here hx rfl (hb hby at_74) rfl rfl k_) ?_
      show Goes p e below s _ _ _ (T28.setTop (mkF m 76 #[.val (.long q0), .second, .val (.int p1), .val (.int p2), .val (.int p3), .val (.int p4), .val (.int p5), .val (.long t0), .second, .val (.long ee), .second, .val (.long d1), .second, .val (.long d2), .second, .val (.long d3), .second, .val (.int fe), .val (.int me), .val (.ref b27), .unset, .unset, .unset, .unset, .unset, .unset, .unset, .unset, .unset, .unset, .unset, .unset, .unset] [(.ref b27)]))
      refine Goes.st (fun t_ k_ => XS.lload X28.here hx rfl (hb hby at_76) rfl  k_) ?_
      show Goes p e below s _ _ _ (T28.setTop (mkF m 78 #[.val (.long q0), .second, .val (.int p1), .val (.int p2), .val (.int p3), .val (.int p4), .val (.int p5), .val (.long t0), .second, .val (.long ee), .second, .val (.long d1), .second, .val (.long d2), .second, .val (.long d3), .second, .val (.int fe), .val (.int me), .val (.ref b27), .unset, .unset, .unset, .unset, .unset, .unset, .unset, .unset, .unset, .unset, .unset, .unset, .unset] [(.long t0), (.ref b27)]))
      obtain ⟨cq29, kq29, q29a, q29b, q29c⟩ := isOf hZ rfl E_b27
      obtain ⟨_, _, ⟨T29, L29, k29, n29⟩, -, X29, ⟨Lc29, hQ29, l29, y29, z29⟩, st29⟩ := X28.virtualBack hx (y := (⟨"com/example/delaunet/delaunet/core/sim/Pace", "start", "(J)Z"⟩ : MethodName)) (z := (⟨"com/example/delaunet/delaunet/core/sim/Pace", "start", "(J)Z"⟩ : MethodName)) hown (mvT hZ (hw _ (List.mem_of_getElem? (i := 19) rfl))) (mvT hZ (hw _ (List.mem_of_getElem? (i := 20) rfl))) (notFace_of_selects (args := #[]) (mvT hZ (hw _ (List.mem_of_getElem? (i := 22) rfl)))) (mvT hZ (hw _ (List.mem_of_getElem? (i := 22) rfl))) (mvT hZ (hw _ (List.mem_of_getElem? (i := 21) rfl))) (by decide) (backOf (W := 0) (own_rmS l Z a0 hw [] b27 t0 0 0 (-1) 0 T28.heap n0 Z26'' HP (own_dS (by decide) (by decide)) (by simp [own_sp]) gn_b27) hZ (hw _ (List.mem_of_getElem? (i := 23) rfl)) (hw _ (List.mem_of_getElem? (i := 4) rfl)) (by decide) (by decide)) q29a q29c (g := (mkF m 78 #[.val (.long q0), .second, .val (.int p1), .val (.int p2), .val (.int p3), .val (.int p4), .val (.int p5), .val (.long t0), .second, .val (.long ee), .second, .val (.long d1), .second, .val (.long d2), .second, .val (.long d3), .second, .val (.int fe), .val (.int me), .val (.ref b27), .unset, .unset, .unset, .unset, .unset, .unset, .unset, .unset, .unset, .unset, .unset, .unset, .unset] [(.long t0), (.ref b27)])) rfl (by rw [hml]; rfl) (Steps.refl _) (argsL := [(.long t0)]) (rest := []) (lenOf own_pd84 rfl) rfl (by show 2 * 0 + _ ≤ _; exact Nat.le_of_eq rfl) (hb hby at_78) (fun _ _ => ⟨rfl, rfl, (by decide : 3 + 0 ≤ _), (by decide : 21 + 0 ≤ _)⟩)
      dsimp only [Pt.U, Pt.locs, Pt.cells, Pt.slots] at X29 l29 y29 z29 st29 hQ29
      subst l29 y29 z29
      obtain ⟨rfl, N29q, KS, HP⟩ := hQ29
      have N29 := Fr.app N28 N29q
      refine Goes.tr st29 ?_
      have Z26''' := Nat.le_trans Z26'' KS.1
      have HP' := HP
      obtain ⟨E_b27, Fs_b27, Fa_b27, Fd_b27, Fp_b27, Fi_b27⟩ := HP'
      have HP : own_P Z _ b27 1 0 t0 := HP
      obtain ⟨E_b27, Fs_b27, Fa_b27, Fd_b27, Fp_b27, Fi_b27⟩ := HP
      show Goes p e below s _ _ _ (T29.setTop (mkF m 81 #[.val (.long q0), .second, .val (.int p1), .val (.int p2), .val (.int p3), .val (.int p4), .val (.int p5), .val (.long t0), .second, .val (.long ee), .second, .val (.long d1), .second, .val (.long d2), .second, .val (.long d3), .second, .val (.int fe), .val (.int me), .val (.ref b27), .unset, .unset, .unset, .unset, .unset, .unset, .unset, .unset, .unset, .unset, .unset, .unset, .unset] [(.int (0 : Int32))]))
      refine Goes.st (fun t_ k_ => XS.pop X29.here hx rfl (hb hby at_81) rfl rfl k_) ?_
      show Goes p e below s _ _ _ (T29.setTop (mkF m 82 #[.val (.long q0), .second, .val (.int p1), .val (.int p2), .val (.int p3), .val (.int p4), .val (.int p5), .val (.long t0), .second, .val (.long ee), .second, .val (.long d1), .second, .val (.long d2), .second, .val (.long d3), .second, .val (.int fe), .val (.int me), .val (.ref b27), .unset, .unset, .unset, .unset, .unset, .unset, .unset, .unset, .unset, .unset, .unset, .unset, .unset] []))
      refine Goes.st (fun t_ k_ => XS.lload X29.here hx rfl (hb hby at_82) rfl  k_) ?_
      show Goes p e below s _ _ _ (T29.setTop (mkF m 84 #[.val (.long q0), .second, .val (.int p1), .val (.int p2), .val (.int p3), .val (.int p4), .val (.int p5), .val (.long t0), .second, .val (.long ee), .second, .val (.long d1), .second, .val (.long d2), .second, .val (.long d3), .second, .val (.int fe), .val (.int me), .val (.ref b27), .unset, .unset, .unset, .unset, .unset, .unset, .unset, .unset, .unset, .unset, .unset, .unset, .unset] [(.long t0)]))
      refine Goes.st (fun t_ k_ => XS.lload X29.here hx rfl (hb hby at_84) rfl  k_) ?_
      show Goes p e below s _ _ _ (T29.setTop (mkF m 86 #[.val (.long q0), .second, .val (.int p1), .val (.int p2), .val (.int p3), .val (.int p4), .val (.int p5), .val (.long t0), .second, .val (.long ee), .second, .val (.long d1), .second, .val (.long d2), .second, .val (.long d3), .second, .val (.int fe), .val (.int me), .val (.ref b27), .unset, .unset, .unset, .unset, .unset, .unset, .unset, .unset, .unset, .unset, .unset, .unset, .unset] [(.long ee), (.long t0)]))
      refine Goes.st (fun t_ k_ => XS.ladd X29.here hx rfl (hb hby at_86) rfl k_) ?_
      show Goes p e below s _ _ _ (T29.setTop (mkF m 87 #[.val (.long q0), .second, .val (.int p1), .val (.int p2), .val (.int p3), .val (.int p4), .val (.int p5), .val (.long t0), .second, .val (.long ee), .second, .val (.long d1), .second, .val (.long d2), .second, .val (.long d3), .second, .val (.int fe), .val (.int me), .val (.ref b27), .unset, .unset, .unset, .unset, .unset, .unset, .unset, .unset, .unset, .unset, .unset, .unset, .unset] [(.long (t0 + ee))]))
      refine Goes.st (fun t_ k_ => XS.lstore X29.here hx rfl (hb hby at_87) rfl  (l' := #[.val (.long q0), .second, .val (.int p1), .val (.int p2), .val (.int p3), .val (.int p4), .val (.int p5), .val (.long t0), .second, .val (.long ee), .second, .val (.long d1), .second, .val (.long d2), .second, .val (.long d3), .second, .val (.int fe), .val (.int me), .val (.ref b27), .val (.long (t0 + ee)), .second, .unset, .unset, .unset, .unset, .unset, .unset, .unset, .unset, .unset, .unset, .unset]) rfl k_) ?_
      show Goes p e below s _ _ _ (T29.setTop (mkF m 89 #[.val (.long q0), .second, .val (.int p1), .val (.int p2), .val (.int p3), .val (.int p4), .val (.int p5), .val (.long t0), .second, .val (.long ee), .second, .val (.long d1), .second, .val (.long d2), .second, .val (.long d3), .second, .val (.int fe), .val (.int me), .val (.ref b27), .val (.long (t0 + ee)), .second, .unset, .unset, .unset, .unset, .unset, .unset, .unset, .unset, .unset, .unset, .unset] []))
      refine Goes.st (fun t_ k_ => XS.iload X29.here hx rfl (hb hby at_89) rfl  k_) ?_
      show Goes p e below s _ _ _ (T29.setTop (mkF m 91 #[.val (.long q0), .second, .val (.int p1), .val (.int p2), .val (.int p3), .val (.int p4), .val (.int p5), .val (.long t0), .second, .val (.long ee), .second, .val (.long d1), .second, .val (.long d2), .second, .val (.long d3), .second, .val (.int fe), .val (.int me), .val (.ref b27), .val (.long (t0 + ee)), .second, .unset, .unset, .unset, .unset, .unset, .unset, .unset, .unset, .unset, .unset, .unset] [(.int fe)]))
      have hj3 : ∀ (T30 : State) (h30 : Heap) (L30 : List Loc) (si : Int64) (X30 : Stand p l e room_1 s m #[(.long q0), (.int p1), (.int p2), (.int p3), (.int p4), (.int p5)] below meth c T30 L30 3 21) (e30 : T30.heap = h30) (N30 : Fr n0 L30) (Z30 : n0 ≤ h30.size) (E_b27 : Exa Z h30 b27 "com/example/delaunet/delaunet/core/sim/Pace") (Fs_b27 : Fld Z h30 b27 "com/example/delaunet/delaunet/core/sim/Pace" "staying" "Z" (.int (0 : Int32))) (Fa_b27 : Fld Z h30 b27 "com/example/delaunet/delaunet/core/sim/Pace" "awayNow" "Z" (.int (0 : Int32))) (Fd_b27 : Fld Z h30 b27 "com/example/delaunet/delaunet/core/sim/Pace" "started" "I" (.int (1 : Int32))) (Fp_b27 : Fld Z h30 b27 "com/example/delaunet/delaunet/core/sim/Pace" "spent" "J" (.long (0 : Int64))) (Fi_b27 : Fld Z h30 b27 "com/example/delaunet/delaunet/core/sim/Pace" "since" "J" (.long si)), Goes p e below s (own_Q0 Z  h0 n0) (3) (21) (T30.setTop (mkF m 101 #[.val (.long q0), .second, .val (.int p1), .val (.int p2), .val (.int p3), .val (.int p4), .val (.int p5), .val (.long t0), .second, .val (.long ee), .second, .val (.long d1), .second, .val (.long d2), .second, .val (.long d3), .second, .val (.int fe), .val (.int me), .val (.ref b27), .val (.long (t0 + ee)), .second, .unset, .unset, .unset, .unset, .unset, .unset, .unset, .unset, .unset, .unset, .unset] [])) := by
        intro T30 h30 L30 si X30 e30 N30 Z30 E_b27 Fs_b27 Fa_b27 Fd_b27 Fp_b27 Fi_b27    
        have HP : own_P Z _ b27 1 0 si := ⟨E_b27, Fs_b27, Fa_b27, Fd_b27, Fp_b27, Fi_b27⟩
        show Goes p e below s _ _ _ (T30.setTop (mkF m 101 #[.val (.long q0), .second, .val (.int p1), .val (.int p2), .val (.int p3), .val (.int p4), .val (.int p5), .val (.long t0), .second, .val (.long ee), .second, .val (.long d1), .second, .val (.long d2), .second, .val (.long d3), .second, .val (.int fe), .val (.int me), .val (.ref b27), .val (.long (t0 + ee)), .second, .unset, .unset, .unset, .unset, .unset, .unset, .unset, .unset, .unset, .unset, .unset] []))
        refine Goes.st (fun t_ k_ => XS.aload X30.here hx rfl (hb hby at_101) rfl rfl k_) ?_
        show Goes p e below s _ _ _ (T30.setTop (mkF m 103 #[.val (.long q0), .second, .val (.int p1), .val (.int p2), .val (.int p3), .val (.int p4), .val (.int p5), .val (.long t0), .second, .val (.long ee), .second, .val (.long d1), .second, .val (.long d2), .second, .val (.long d3), .second, .val (.int fe), .val (.int me), .val (.ref b27), .val (.long (t0 + ee)), .second, .unset, .unset, .unset, .unset, .unset, .unset, .unset, .unset, .unset, .unset, .unset] [(.ref b27)]))
        refine Goes.st (fun t_ k_ => XS.lload X30.here hx rfl (hb hby at_103) rfl  k_) ?_
        show Goes p e below s _ _ _ (T30.setTop (mkF m 105 #[.val (.long q0), .second, .val (.int p1), .val (.int p2), .val (.int p3), .val (.int p4), .val (.int p5), .val (.long t0), .second, .val (.long ee), .second, .val (.long d1), .second, .val (.long d2), .second, .val (.long d3), .second, .val (.int fe), .val (.int me), .val (.ref b27), .val (.long (t0 + ee)), .second, .unset, .unset, .unset, .unset, .unset, .unset, .unset, .unset, .unset, .unset, .unset] [(.long (t0 + ee)), (.ref b27)]))
        obtain ⟨cq31, kq31, q31a, q31b, q31c⟩ := isOf hZ e30 E_b27
        obtain ⟨_, _, ⟨T31, L31, k31, n31⟩, -, X31, ⟨Lc31, hQ31, l31, y31, z31⟩, st31⟩ := X30.virtualBack hx (y := (⟨"com/example/delaunet/delaunet/core/sim/Pace", "start", "(J)Z"⟩ : MethodName)) (z := (⟨"com/example/delaunet/delaunet/core/sim/Pace", "start", "(J)Z"⟩ : MethodName)) hown (mvT hZ (hw _ (List.mem_of_getElem? (i := 19) rfl))) (mvT hZ (hw _ (List.mem_of_getElem? (i := 20) rfl))) (notFace_of_selects (args := #[]) (mvT hZ (hw _ (List.mem_of_getElem? (i := 22) rfl)))) (mvT hZ (hw _ (List.mem_of_getElem? (i := 22) rfl))) (mvT hZ (hw _ (List.mem_of_getElem? (i := 21) rfl))) (by decide) (backOf (W := 0) (own_rmS l Z a0 hw [] b27 (t0 + ee) 1 0 si 0 h30 n0 Z30 HP (own_dS (by decide) (by decide)) (by simp [own_sp]) gn_b27) hZ (hw _ (List.mem_of_getElem? (i := 23) rfl)) (hw _ (List.mem_of_getElem? (i := 4) rfl)) (by decide) (by decide)) q31a q31c (g := (mkF m 105 #[.val (.long q0), .second, .val (.int p1), .val (.int p2), .val (.int p3), .val (.int p4), .val (.int p5), .val (.long t0), .second, .val (.long ee), .second, .val (.long d1), .second, .val (.long d2), .second, .val (.long d3), .second, .val (.int fe), .val (.int me), .val (.ref b27), .val (.long (t0 + ee)), .second, .unset, .unset, .unset, .unset, .unset, .unset, .unset, .unset, .unset, .unset, .unset] [(.long (t0 + ee)), (.ref b27)])) rfl (by rw [hml]; rfl) (Steps.refl _) (argsL := [(.long (t0 + ee))]) (rest := []) (lenOf own_pd84 rfl) rfl (by show 2 * 0 + _ ≤ _; exact Nat.le_of_eq rfl) (hb hby at_105) (fun _ _ => ⟨rfl, e30, (by decide : 3 + 0 ≤ _), (by decide : 21 + 0 ≤ _)⟩)
        dsimp only [Pt.U, Pt.locs, Pt.cells, Pt.slots] at X31 l31 y31 z31 st31 hQ31
        subst l31 y31 z31
        obtain ⟨rfl, N31q, KS, HP⟩ := hQ31
        have N31 := Fr.app N30 N31q
        refine Goes.tr st31 ?_
        have Z30' := Nat.le_trans Z30 KS.1
        have HP : own_P Z _ b27 2 0 (t0 + ee) := HP
        have HP' := HP
        obtain ⟨E_b27, Fs_b27, Fa_b27, Fd_b27, Fp_b27, Fi_b27⟩ := HP'
        have ht1 := own_t1 hb_t0 hb_ee
        show Goes p e below s _ _ _ (T31.setTop (mkF m 108 #[.val (.long q0), .second, .val (.int p1), .val (.int p2), .val (.int p3), .val (.int p4), .val (.int p5), .val (.long t0), .second, .val (.long ee), .second, .val (.long d1), .second, .val (.long d2), .second, .val (.long d3), .second, .val (.int fe), .val (.int me), .val (.ref b27), .val (.long (t0 + ee)), .second, .unset, .unset, .unset, .unset, .unset, .unset, .unset, .unset, .unset, .unset, .unset] [(.int (0 : Int32))]))
        refine Goes.st (fun t_ k_ => XS.pop X31.here hx rfl (hb hby at_108) rfl rfl k_) ?_
        show Goes p e below s _ _ _ (T31.setTop (mkF m 109 #[.val (.long q0), .second, .val (.int p1), .val (.int p2), .val (.int p3), .val (.int p4), .val (.int p5), .val (.long t0), .second, .val (.long ee), .second, .val (.long d1), .second, .val (.long d2), .second, .val (.long d3), .second, .val (.int fe), .val (.int me), .val (.ref b27), .val (.long (t0 + ee)), .second, .unset, .unset, .unset, .unset, .unset, .unset, .unset, .unset, .unset, .unset, .unset] []))
        refine Goes.st (fun t_ k_ => XS.lload X31.here hx rfl (hb hby at_109) rfl  k_) ?_
        show Goes p e below s _ _ _ (T31.setTop (mkF m 111 #[.val (.long q0), .second, .val (.int p1), .val (.int p2), .val (.int p3), .val (.int p4), .val (.int p5), .val (.long t0), .second, .val (.long ee), .second, .val (.long d1), .second, .val (.long d2), .second, .val (.long d3), .second, .val (.int fe), .val (.int me), .val (.ref b27), .val (.long (t0 + ee)), .second, .unset, .unset, .unset, .unset, .unset, .unset, .unset, .unset, .unset, .unset, .unset] [(.long (t0 + ee))]))
        refine Goes.st (fun t_ k_ => XS.lload X31.here hx rfl (hb hby at_111) rfl  k_) ?_
        show Goes p e below s _ _ _ (T31.setTop (mkF m 113 #[.val (.long q0), .second, .val (.int p1), .val (.int p2), .val (.int p3), .val (.int p4), .val (.int p5), .val (.long t0), .second, .val (.long ee), .second, .val (.long d1), .second, .val (.long d2), .second, .val (.long d3), .second, .val (.int fe), .val (.int me), .val (.ref b27), .val (.long (t0 + ee)), .second, .unset, .unset, .unset, .unset, .unset, .unset, .unset, .unset, .unset, .unset, .unset] [(.long d1), (.long (t0 + ee))]))
        refine Goes.st (fun t_ k_ => XS.ladd X31.here hx rfl (hb hby at_113) rfl k_) ?_
        show Goes p e below s _ _ _ (T31.setTop (mkF m 114 #[.val (.long q0), .second, .val (.int p1), .val (.int p2), .val (.int p3), .val (.int p4), .val (.int p5), .val (.long t0), .second, .val (.long ee), .second, .val (.long d1), .second, .val (.long d2), .second, .val (.long d3), .second, .val (.int fe), .val (.int me), .val (.ref b27), .val (.long (t0 + ee)), .second, .unset, .unset, .unset, .unset, .unset, .unset, .unset, .unset, .unset, .unset, .unset] [(.long ((t0 + ee) + d1))]))
        refine Goes.st (fun t_ k_ => XS.lstore X31.here hx rfl (hb hby at_114) rfl  (l' := #[.val (.long q0), .second, .val (.int p1), .val (.int p2), .val (.int p3), .val (.int p4), .val (.int p5), .val (.long t0), .second, .val (.long ee), .second, .val (.long d1), .second, .val (.long d2), .second, .val (.long d3), .second, .val (.int fe), .val (.int me), .val (.ref b27), .val (.long (t0 + ee)), .second, .val (.long ((t0 + ee) + d1)), .second, .unset, .unset, .unset, .unset, .unset, .unset, .unset, .unset, .unset]) rfl k_) ?_
        show Goes p e below s _ _ _ (T31.setTop (mkF m 116 #[.val (.long q0), .second, .val (.int p1), .val (.int p2), .val (.int p3), .val (.int p4), .val (.int p5), .val (.long t0), .second, .val (.long ee), .second, .val (.long d1), .second, .val (.long d2), .second, .val (.long d3), .second, .val (.int fe), .val (.int me), .val (.ref b27), .val (.long (t0 + ee)), .second, .val (.long ((t0 + ee) + d1)), .second, .unset, .unset, .unset, .unset, .unset, .unset, .unset, .unset, .unset] []))
        refine Goes.st (fun t_ k_ => XS.iload X31.here hx rfl (hb hby at_116) rfl  k_) ?_
        show Goes p e below s _ _ _ (T31.setTop (mkF m 118 #[.val (.long q0), .second, .val (.int p1), .val (.int p2), .val (.int p3), .val (.int p4), .val (.int p5), .val (.long t0), .second, .val (.long ee), .second, .val (.long d1), .second, .val (.long d2), .second, .val (.long d3), .second, .val (.int fe), .val (.int me), .val (.ref b27), .val (.long (t0 + ee)), .second, .val (.long ((t0 + ee) + d1)), .second, .unset, .unset, .unset, .unset, .unset, .unset, .unset, .unset, .unset] [(.int me)]))
        have hj4 : ∀ (T32 : State) (h32 : Heap) (L32 : List Loc) (t2 t3 sp ex : Int64) (X32 : Stand p l e room_1 s m #[(.long q0), (.int p1), (.int p2), (.int p3), (.int p4), (.int p5)] below meth c T32 L32 3 21) (e32 : T32.heap = h32) (N32 : Fr n0 L32) (Z32 : n0 ≤ h32.size) (E_b27 : Exa Z h32 b27 "com/example/delaunet/delaunet/core/sim/Pace") (Fs_b27 : Fld Z h32 b27 "com/example/delaunet/delaunet/core/sim/Pace" "staying" "Z" (.int (0 : Int32))) (Fa_b27 : Fld Z h32 b27 "com/example/delaunet/delaunet/core/sim/Pace" "awayNow" "Z" (.int (0 : Int32))) (Fd_b27 : Fld Z h32 b27 "com/example/delaunet/delaunet/core/sim/Pace" "started" "I" (.int (3 : Int32))) (Fp_b27 : Fld Z h32 b27 "com/example/delaunet/delaunet/core/sim/Pace" "spent" "J" (.long sp)) (Fi_b27 : Fld Z h32 b27 "com/example/delaunet/delaunet/core/sim/Pace" "since" "J" (.long (-1 : Int64))) (hsx : sp = ex), Goes p e below s (own_Q0 Z  h0 n0) (3) (21) (T32.setTop (mkF m 178 #[.val (.long q0), .second, .val (.int p1), .val (.int p2), .val (.int p3), .val (.int p4), .val (.int p5), .val (.long t0), .second, .val (.long ee), .second, .val (.long d1), .second, .val (.long d2), .second, .val (.long d3), .second, .val (.int fe), .val (.int me), .val (.ref b27), .val (.long (t0 + ee)), .second, .val (.long ((t0 + ee) + d1)), .second, .val (.long t2), .second, .val (.long t3), .second, .unset, .unset, .unset, .unset, .unset] [(.long ex)])) := by
          intro T32 h32 L32 t2 t3 sp ex X32 e32 N32 Z32 E_b27 Fs_b27 Fa_b27 Fd_b27 Fp_b27 Fi_b27    hsx
          have HP : own_P Z _ b27 3 sp (-1) := ⟨E_b27, Fs_b27, Fa_b27, Fd_b27, Fp_b27, Fi_b27⟩
          subst hsx
          show Goes p e below s _ _ _ (T32.setTop (mkF m 178 #[.val (.long q0), .second, .val (.int p1), .val (.int p2), .val (.int p3), .val (.int p4), .val (.int p5), .val (.long t0), .second, .val (.long ee), .second, .val (.long d1), .second, .val (.long d2), .second, .val (.long d3), .second, .val (.int fe), .val (.int me), .val (.ref b27), .val (.long (t0 + ee)), .second, .val (.long ((t0 + ee) + d1)), .second, .val (.long t2), .second, .val (.long t3), .second, .unset, .unset, .unset, .unset, .unset] [(.long sp)]))
          refine Goes.st (fun t_ k_ => XS.lstore X32.here hx rfl (hb hby at_178) rfl  (l' := #[.val (.long q0), .second, .val (.int p1), .val (.int p2), .val (.int p3), .val (.int p4), .val (.int p5), .val (.long t0), .second, .val (.long ee), .second, .val (.long d1), .second, .val (.long d2), .second, .val (.long d3), .second, .val (.int fe), .val (.int me), .val (.ref b27), .val (.long (t0 + ee)), .second, .val (.long ((t0 + ee) + d1)), .second, .val (.long t2), .second, .val (.long t3), .second, .val (.long sp), .second, .unset, .unset, .unset]) rfl k_) ?_
          show Goes p e below s _ _ _ (T32.setTop (mkF m 180 #[.val (.long q0), .second, .val (.int p1), .val (.int p2), .val (.int p3), .val (.int p4), .val (.int p5), .val (.long t0), .second, .val (.long ee), .second, .val (.long d1), .second, .val (.long d2), .second, .val (.long d3), .second, .val (.int fe), .val (.int me), .val (.ref b27), .val (.long (t0 + ee)), .second, .val (.long ((t0 + ee) + d1)), .second, .val (.long t2), .second, .val (.long t3), .second, .val (.long sp), .second, .unset, .unset, .unset] []))
          refine Goes.st (fun t_ k_ => XS.lload X32.here hx rfl (hb hby at_180) rfl  k_) ?_
          show Goes p e below s _ _ _ (T32.setTop (mkF m 182 #[.val (.long q0), .second, .val (.int p1), .val (.int p2), .val (.int p3), .val (.int p4), .val (.int p5), .val (.long t0), .second, .val (.long ee), .second, .val (.long d1), .second, .val (.long d2), .second, .val (.long d3), .second, .val (.int fe), .val (.int me), .val (.ref b27), .val (.long (t0 + ee)), .second, .val (.long ((t0 + ee) + d1)), .second, .val (.long t2), .second, .val (.long t3), .second, .val (.long sp), .second, .unset, .unset, .unset] [(.long sp)]))
          refine Goes.st (fun t_ k_ => X32.ldc2Long hx hown (mvT hZ (hw _ (List.mem_of_getElem? (i := 43) rfl))) (g := (mkF m 182 #[.val (.long q0), .second, .val (.int p1), .val (.int p2), .val (.int p3), .val (.int p4), .val (.int p5), .val (.long t0), .second, .val (.long ee), .second, .val (.long d1), .second, .val (.long d2), .second, .val (.long d3), .second, .val (.int fe), .val (.int me), .val (.ref b27), .val (.long (t0 + ee)), .second, .val (.long ((t0 + ee) + d1)), .second, .val (.long t2), .second, .val (.long t3), .second, .val (.long sp), .second, .unset, .unset, .unset] [(.long sp)])) rfl (hb hby at_182) _ k_) ?_
          show Goes p e below s _ _ _ (T32.setTop (mkF m 185 #[.val (.long q0), .second, .val (.int p1), .val (.int p2), .val (.int p3), .val (.int p4), .val (.int p5), .val (.long t0), .second, .val (.long ee), .second, .val (.long d1), .second, .val (.long d2), .second, .val (.long d3), .second, .val (.int fe), .val (.int me), .val (.ref b27), .val (.long (t0 + ee)), .second, .val (.long ((t0 + ee) + d1)), .second, .val (.long t2), .second, .val (.long t3), .second, .val (.long sp), .second, .unset, .unset, .unset] [(.long (2000000 : Int64)), (.long sp)]))
          refine Goes.st (fun t_ k_ => XS.lcmp X32.here hx rfl (hb hby at_185) rfl k_) ?_
          show Goes p e below s _ _ _ (T32.setTop (mkF m 186 #[.val (.long q0), .second, .val (.int p1), .val (.int p2), .val (.int p3), .val (.int p4), .val (.int p5), .val (.long t0), .second, .val (.long ee), .second, .val (.long d1), .second, .val (.long d2), .second, .val (.long d3), .second, .val (.int fe), .val (.int me), .val (.ref b27), .val (.long (t0 + ee)), .second, .val (.long ((t0 + ee) + d1)), .second, .val (.long t2), .second, .val (.long t3), .second, .val (.long sp), .second, .unset, .unset, .unset] [(.int (lcmpW sp (2000000 : Int64)))]))
          by_cases hx2 : sp < (2000000 : Int64)
          · refine Goes.st (fun t_ k_ => XS.ifYes X32.here hx rfl (pc0 := 186) (pc' := 193) rfl (hb hby at_186) rfl ((if0 _ _).trans (tlt ((lw_lt _ _).mpr hx2)).1) (by decide) (by decide) k_) ?_
            show Goes p e below s _ _ _ (T32.setTop (mkF m 193 #[.val (.long q0), .second, .val (.int p1), .val (.int p2), .val (.int p3), .val (.int p4), .val (.int p5), .val (.long t0), .second, .val (.long ee), .second, .val (.long d1), .second, .val (.long d2), .second, .val (.long d3), .second, .val (.int fe), .val (.int me), .val (.ref b27), .val (.long (t0 + ee)), .second, .val (.long ((t0 + ee) + d1)), .second, .val (.long t2), .second, .val (.long t3), .second, .val (.long sp), .second, .unset, .unset, .unset] []))
            refine Goes.st (fun t_ k_ => XS.iconst X32.here hx rfl (hb hby at_193) k_) ?_
            show Goes p e below s _ _ _ (T32.setTop (mkF m 194 #[.val (.long q0), .second, .val (.int p1), .val (.int p2), .val (.int p3), .val (.int p4), .val (.int p5), .val (.long t0), .second, .val (.long ee), .second, .val (.long d1), .second, .val (.long d2), .second, .val (.long d3), .second, .val (.int fe), .val (.int me), .val (.ref b27), .val (.long (t0 + ee)), .second, .val (.long ((t0 + ee) + d1)), .second, .val (.long t2), .second, .val (.long t3), .second, .val (.long sp), .second, .unset, .unset, .unset] [(.int (0 : Int32))]))
            refine Goes.st (fun t_ k_ => XS.istore X32.here hx rfl (hb hby at_194) rfl  (l' := #[.val (.long q0), .second, .val (.int p1), .val (.int p2), .val (.int p3), .val (.int p4), .val (.int p5), .val (.long t0), .second, .val (.long ee), .second, .val (.long d1), .second, .val (.long d2), .second, .val (.long d3), .second, .val (.int fe), .val (.int me), .val (.ref b27), .val (.long (t0 + ee)), .second, .val (.long ((t0 + ee) + d1)), .second, .val (.long t2), .second, .val (.long t3), .second, .val (.long sp), .second, .val (.int (0 : Int32)), .unset, .unset]) rfl k_) ?_
            show Goes p e below s _ _ _ (T32.setTop (mkF m 196 #[.val (.long q0), .second, .val (.int p1), .val (.int p2), .val (.int p3), .val (.int p4), .val (.int p5), .val (.long t0), .second, .val (.long ee), .second, .val (.long d1), .second, .val (.long d2), .second, .val (.long d3), .second, .val (.int fe), .val (.int me), .val (.ref b27), .val (.long (t0 + ee)), .second, .val (.long ((t0 + ee) + d1)), .second, .val (.long t2), .second, .val (.long t3), .second, .val (.long sp), .second, .val (.int (0 : Int32)), .unset, .unset] []))
            refine Goes.st (fun t_ k_ => XS.aload X32.here hx rfl (hb hby at_196) rfl rfl k_) ?_
            show Goes p e below s _ _ _ (T32.setTop (mkF m 198 #[.val (.long q0), .second, .val (.int p1), .val (.int p2), .val (.int p3), .val (.int p4), .val (.int p5), .val (.long t0), .second, .val (.long ee), .second, .val (.long d1), .second, .val (.long d2), .second, .val (.long d3), .second, .val (.int fe), .val (.int me), .val (.ref b27), .val (.long (t0 + ee)), .second, .val (.long ((t0 + ee) + d1)), .second, .val (.long t2), .second, .val (.long t3), .second, .val (.long sp), .second, .val (.int (0 : Int32)), .unset, .unset] [(.ref b27)]))
            obtain ⟨cq33, kq33, q33a, q33b, q33c⟩ := isOf hZ e32 E_b27
            obtain ⟨_, _, ⟨T33, L33, k33, n33⟩, -, X33, ⟨Lc33, hQ33, l33, y33, z33⟩, st33⟩ := X32.virtualBack hx (y := (⟨"com/example/delaunet/delaunet/core/sim/Pace", "complete", "()Z"⟩ : MethodName)) (z := (⟨"com/example/delaunet/delaunet/core/sim/Pace", "complete", "()Z"⟩ : MethodName)) hown (mvT hZ (hw _ (List.mem_of_getElem? (i := 44) rfl))) (mvT hZ (hw _ (List.mem_of_getElem? (i := 25) rfl))) (notFace_of_selects (args := #[]) (mvT hZ (hw _ (List.mem_of_getElem? (i := 27) rfl)))) (mvT hZ (hw _ (List.mem_of_getElem? (i := 27) rfl))) (mvT hZ (hw _ (List.mem_of_getElem? (i := 26) rfl))) (by decide) (backOf (W := 0) (own_rmC l Z a0 hw [] b27 3 sp (-1) false h32 n0 Z32 HP (by exact own_dN (by decide) hx2)) hZ (hw _ (List.mem_of_getElem? (i := 28) rfl)) (hw _ (List.mem_of_getElem? (i := 4) rfl)) (by decide) (by decide)) q33a q33c (g := (mkF m 198 #[.val (.long q0), .second, .val (.int p1), .val (.int p2), .val (.int p3), .val (.int p4), .val (.int p5), .val (.long t0), .second, .val (.long ee), .second, .val (.long d1), .second, .val (.long d2), .second, .val (.long d3), .second, .val (.int fe), .val (.int me), .val (.ref b27), .val (.long (t0 + ee)), .second, .val (.long ((t0 + ee) + d1)), .second, .val (.long t2), .second, .val (.long t3), .second, .val (.long sp), .second, .val (.int (0 : Int32)), .unset, .unset] [(.ref b27)])) rfl (by rw [hml]; rfl) (Steps.refl _) (argsL := []) (rest := []) (lenOf own_pd60 rfl) rfl (by show 2 * 0 + _ ≤ _; exact Nat.le_of_eq rfl) (hb hby at_198) (fun _ _ => ⟨rfl, e32, (by decide : 3 + 0 ≤ _), (by decide : 21 + 0 ≤ _)⟩)
            dsimp only [Pt.U, Pt.locs, Pt.cells, Pt.slots] at X33 l33 y33 z33 st33 hQ33
            subst l33 y33 z33
            obtain ⟨rfl, N33q, EQ1⟩ := hQ33
            have N33 := Fr.app N32 N33q
            refine Goes.tr st33 ?_
            show Goes p e below s _ _ _ (T33.setTop (mkF m 201 #[.val (.long q0), .second, .val (.int p1), .val (.int p2), .val (.int p3), .val (.int p4), .val (.int p5), .val (.long t0), .second, .val (.long ee), .second, .val (.long d1), .second, .val (.long d2), .second, .val (.long d3), .second, .val (.int fe), .val (.int me), .val (.ref b27), .val (.long (t0 + ee)), .second, .val (.long ((t0 + ee) + d1)), .second, .val (.long t2), .second, .val (.long t3), .second, .val (.long sp), .second, .val (.int (0 : Int32)), .unset, .unset] [(.int (own_bI false))]))
            refine Goes.st (fun t_ k_ => XS.istore X33.here hx rfl (hb hby at_201) rfl  (l' := #[.val (.long q0), .second, .val (.int p1), .val (.int p2), .val (.int p3), .val (.int p4), .val (.int p5), .val (.long t0), .second, .val (.long ee), .second, .val (.long d1), .second, .val (.long d2), .second, .val (.long d3), .second, .val (.int fe), .val (.int me), .val (.ref b27), .val (.long (t0 + ee)), .second, .val (.long ((t0 + ee) + d1)), .second, .val (.long t2), .second, .val (.long t3), .second, .val (.long sp), .second, .val (.int (0 : Int32)), .val (.int (own_bI false)), .unset]) rfl k_) ?_
            show Goes p e below s _ _ _ (T33.setTop (mkF m 203 #[.val (.long q0), .second, .val (.int p1), .val (.int p2), .val (.int p3), .val (.int p4), .val (.int p5), .val (.long t0), .second, .val (.long ee), .second, .val (.long d1), .second, .val (.long d2), .second, .val (.long d3), .second, .val (.int fe), .val (.int me), .val (.ref b27), .val (.long (t0 + ee)), .second, .val (.long ((t0 + ee) + d1)), .second, .val (.long t2), .second, .val (.long t3), .second, .val (.long sp), .second, .val (.int (0 : Int32)), .val (.int (own_bI false)), .unset] []))
            refine Goes.st (fun t_ k_ => XS.aload X33.here hx rfl (hb hby at_203) rfl rfl k_) ?_
            show Goes p e below s _ _ _ (T33.setTop (mkF m 205 #[.val (.long q0), .second, .val (.int p1), .val (.int p2), .val (.int p3), .val (.int p4), .val (.int p5), .val (.long t0), .second, .val (.long ee), .second, .val (.long d1), .second, .val (.long d2), .second, .val (.long d3), .second, .val (.int fe), .val (.int me), .val (.ref b27), .val (.long (t0 + ee)), .second, .val (.long ((t0 + ee) + d1)), .second, .val (.long t2), .second, .val (.long t3), .second, .val (.long sp), .second, .val (.int (0 : Int32)), .val (.int (own_bI false)), .unset] [(.ref b27)]))
            refine Goes.st (fun t_ k_ => XS.lload X33.here hx rfl (hb hby at_205) rfl  k_) ?_
            show Goes p e below s _ _ _ (T33.setTop (mkF m 207 #[.val (.long q0), .second, .val (.int p1), .val (.int p2), .val (.int p3), .val (.int p4), .val (.int p5), .val (.long t0), .second, .val (.long ee), .second, .val (.long d1), .second, .val (.long d2), .second, .val (.long d3), .second, .val (.int fe), .val (.int me), .val (.ref b27), .val (.long (t0 + ee)), .second, .val (.long ((t0 + ee) + d1)), .second, .val (.long t2), .second, .val (.long t3), .second, .val (.long sp), .second, .val (.int (0 : Int32)), .val (.int (own_bI false)), .unset] [(.long t3), (.ref b27)]))
            refine Goes.st (fun t_ k_ => XS.lload X33.here hx rfl (hb hby at_207) rfl  k_) ?_
            show Goes p e below s _ _ _ (T33.setTop (mkF m 209 #[.val (.long q0), .second, .val (.int p1), .val (.int p2), .val (.int p3), .val (.int p4), .val (.int p5), .val (.long t0), .second, .val (.long ee), .second, .val (.long d1), .second, .val (.long d2), .second, .val (.long d3), .second, .val (.int fe), .val (.int me), .val (.ref b27), .val (.long (t0 + ee)), .second, .val (.long ((t0 + ee) + d1)), .second, .val (.long t2), .second, .val (.long t3), .second, .val (.long sp), .second, .val (.int (0 : Int32)), .val (.int (own_bI false)), .unset] [(.long d1), (.long t3), (.ref b27)]))
            refine Goes.st (fun t_ k_ => XS.ladd X33.here hx rfl (hb hby at_209) rfl k_) ?_
            show Goes p e below s _ _ _ (T33.setTop (mkF m 210 #[.val (.long q0), .second, .val (.int p1), .val (.int p2), .val (.int p3), .val (.int p4), .val (.int p5), .val (.long t0), .second, .val (.long ee), .second, .val (.long d1), .second, .val (.long d2), .second, .val (.long d3), .second, .val (.int fe), .val (.int me), .val (.ref b27), .val (.long (t0 + ee)), .second, .val (.long ((t0 + ee) + d1)), .second, .val (.long t2), .second, .val (.long t3), .second, .val (.long sp), .second, .val (.int (0 : Int32)), .val (.int (own_bI false)), .unset] [(.long (t3 + d1)), (.ref b27)]))
            obtain ⟨cq34, kq34, q34a, q34b, q34c⟩ := isOf hZ EQ1 E_b27
            obtain ⟨_, _, ⟨T34, L34, k34, n34⟩, -, X34, ⟨Lc34, hQ34, l34, y34, z34⟩, st34⟩ := X33.virtualBack hx (y := (⟨"com/example/delaunet/delaunet/core/sim/Pace", "end", "(J)V"⟩ : MethodName)) (z := (⟨"com/example/delaunet/delaunet/core/sim/Pace", "end", "(J)V"⟩ : MethodName)) hown (mvT hZ (hw _ (List.mem_of_getElem? (i := 42) rfl))) (mvT hZ (hw _ (List.mem_of_getElem? (i := 34) rfl))) (notFace_of_selects (args := #[]) (mvT hZ (hw _ (List.mem_of_getElem? (i := 36) rfl)))) (mvT hZ (hw _ (List.mem_of_getElem? (i := 36) rfl))) (mvT hZ (hw _ (List.mem_of_getElem? (i := 35) rfl))) (by decide) (backOf (W := 0) (own_rmE l Z a0 hw [] b27 (t3 + d1) 3 sp (-1) sp h32 n0 Z32 HP (by simp [own_sp]) gn_b27) hZ (hw _ (List.mem_of_getElem? (i := 37) rfl)) (hw _ (List.mem_of_getElem? (i := 4) rfl)) (by decide) (by decide)) q34a q34c (g := (mkF m 210 #[.val (.long q0), .second, .val (.int p1), .val (.int p2), .val (.int p3), .val (.int p4), .val (.int p5), .val (.long t0), .second, .val (.long ee), .second, .val (.long d1), .second, .val (.long d2), .second, .val (.long d3), .second, .val (.int fe), .val (.int me), .val (.ref b27), .val (.long (t0 + ee)), .second, .val (.long ((t0 + ee) + d1)), .second, .val (.long t2), .second, .val (.long t3), .second, .val (.long sp), .second, .val (.int (0 : Int32)), .val (.int (own_bI false)), .unset] [(.long (t3 + d1)), (.ref b27)])) rfl (by rw [hml]; rfl) (Steps.refl _) (argsL := [(.long (t3 + d1))]) (rest := []) (lenOf own_pd65 rfl) rfl (by show 2 * 0 + _ ≤ _; exact Nat.le_of_eq rfl) (hb hby at_210) (fun _ _ => ⟨rfl, EQ1, (by decide : 3 + 0 ≤ _), (by decide : 21 + 0 ≤ _)⟩)
            dsimp only [Pt.U, Pt.locs, Pt.cells, Pt.slots] at X34 l34 y34 z34 st34 hQ34
            subst l34 y34 z34
            obtain ⟨rfl, N34q, KE, HP⟩ := hQ34
            have N34 := Fr.app N33 N34q
            refine Goes.tr st34 ?_
            have Z32' := Nat.le_trans Z32 KE.1
            have HP2 := HP
            obtain ⟨E_b27, Fs_b27, Fa_b27, Fd_b27, Fp_b27, Fi_b27⟩ := HP2
            show Goes p e below s _ _ _ (T34.setTop (mkF m 213 #[.val (.long q0), .second, .val (.int p1), .val (.int p2), .val (.int p3), .val (.int p4), .val (.int p5), .val (.long t0), .second, .val (.long ee), .second, .val (.long d1), .second, .val (.long d2), .second, .val (.long d3), .second, .val (.int fe), .val (.int me), .val (.ref b27), .val (.long (t0 + ee)), .second, .val (.long ((t0 + ee) + d1)), .second, .val (.long t2), .second, .val (.long t3), .second, .val (.long sp), .second, .val (.int (0 : Int32)), .val (.int (own_bI false)), .unset] []))
            refine Goes.st (fun t_ k_ => XS.aload X34.here hx rfl (hb hby at_213) rfl rfl k_) ?_
            show Goes p e below s _ _ _ (T34.setTop (mkF m 215 #[.val (.long q0), .second, .val (.int p1), .val (.int p2), .val (.int p3), .val (.int p4), .val (.int p5), .val (.long t0), .second, .val (.long ee), .second, .val (.long d1), .second, .val (.long d2), .second, .val (.long d3), .second, .val (.int fe), .val (.int me), .val (.ref b27), .val (.long (t0 + ee)), .second, .val (.long ((t0 + ee) + d1)), .second, .val (.long t2), .second, .val (.long t3), .second, .val (.long sp), .second, .val (.int (0 : Int32)), .val (.int (own_bI false)), .unset] [(.ref b27)]))
            obtain ⟨cq35, kq35, q35a, q35b, q35c⟩ := isOf hZ rfl E_b27
            obtain ⟨_, _, ⟨T35, L35, k35, n35⟩, -, X35, ⟨Lc35, hQ35, l35, y35, z35⟩, st35⟩ := X34.virtualBack hx (y := (⟨"com/example/delaunet/delaunet/core/sim/Pace", "complete", "()Z"⟩ : MethodName)) (z := (⟨"com/example/delaunet/delaunet/core/sim/Pace", "complete", "()Z"⟩ : MethodName)) hown (mvT hZ (hw _ (List.mem_of_getElem? (i := 44) rfl))) (mvT hZ (hw _ (List.mem_of_getElem? (i := 25) rfl))) (notFace_of_selects (args := #[]) (mvT hZ (hw _ (List.mem_of_getElem? (i := 27) rfl)))) (mvT hZ (hw _ (List.mem_of_getElem? (i := 27) rfl))) (mvT hZ (hw _ (List.mem_of_getElem? (i := 26) rfl))) (by decide) (backOf (W := 0) (own_rmC l Z a0 hw [] b27 3 sp (-1) false T34.heap n0 Z32' HP (by exact own_dN (by decide) hx2)) hZ (hw _ (List.mem_of_getElem? (i := 28) rfl)) (hw _ (List.mem_of_getElem? (i := 4) rfl)) (by decide) (by decide)) q35a q35c (g := (mkF m 215 #[.val (.long q0), .second, .val (.int p1), .val (.int p2), .val (.int p3), .val (.int p4), .val (.int p5), .val (.long t0), .second, .val (.long ee), .second, .val (.long d1), .second, .val (.long d2), .second, .val (.long d3), .second, .val (.int fe), .val (.int me), .val (.ref b27), .val (.long (t0 + ee)), .second, .val (.long ((t0 + ee) + d1)), .second, .val (.long t2), .second, .val (.long t3), .second, .val (.long sp), .second, .val (.int (0 : Int32)), .val (.int (own_bI false)), .unset] [(.ref b27)])) rfl (by rw [hml]; rfl) (Steps.refl _) (argsL := []) (rest := []) (lenOf own_pd60 rfl) rfl (by show 2 * 0 + _ ≤ _; exact Nat.le_of_eq rfl) (hb hby at_215) (fun _ _ => ⟨rfl, rfl, (by decide : 3 + 0 ≤ _), (by decide : 21 + 0 ≤ _)⟩)
            dsimp only [Pt.U, Pt.locs, Pt.cells, Pt.slots] at X35 l35 y35 z35 st35 hQ35
            subst l35 y35 z35
            obtain ⟨rfl, N35q, EQ2⟩ := hQ35
            have N35 := Fr.app N34 N35q
            refine Goes.tr st35 ?_
            show Goes p e below s _ _ _ (T35.setTop (mkF m 218 #[.val (.long q0), .second, .val (.int p1), .val (.int p2), .val (.int p3), .val (.int p4), .val (.int p5), .val (.long t0), .second, .val (.long ee), .second, .val (.long d1), .second, .val (.long d2), .second, .val (.long d3), .second, .val (.int fe), .val (.int me), .val (.ref b27), .val (.long (t0 + ee)), .second, .val (.long ((t0 + ee) + d1)), .second, .val (.long t2), .second, .val (.long t3), .second, .val (.long sp), .second, .val (.int (0 : Int32)), .val (.int (own_bI false)), .unset] [(.int (own_bI false))]))
            refine Goes.st (fun t_ k_ => XS.istore X35.here hx rfl (hb hby at_218) rfl  (l' := #[.val (.long q0), .second, .val (.int p1), .val (.int p2), .val (.int p3), .val (.int p4), .val (.int p5), .val (.long t0), .second, .val (.long ee), .second, .val (.long d1), .second, .val (.long d2), .second, .val (.long d3), .second, .val (.int fe), .val (.int me), .val (.ref b27), .val (.long (t0 + ee)), .second, .val (.long ((t0 + ee) + d1)), .second, .val (.long t2), .second, .val (.long t3), .second, .val (.long sp), .second, .val (.int (0 : Int32)), .val (.int (own_bI false)), .val (.int (own_bI false))]) rfl k_) ?_
            show Goes p e below s _ _ _ (T35.setTop (mkF m 220 #[.val (.long q0), .second, .val (.int p1), .val (.int p2), .val (.int p3), .val (.int p4), .val (.int p5), .val (.long t0), .second, .val (.long ee), .second, .val (.long d1), .second, .val (.long d2), .second, .val (.long d3), .second, .val (.int fe), .val (.int me), .val (.ref b27), .val (.long (t0 + ee)), .second, .val (.long ((t0 + ee) + d1)), .second, .val (.long t2), .second, .val (.long t3), .second, .val (.long sp), .second, .val (.int (0 : Int32)), .val (.int (own_bI false)), .val (.int (own_bI false))] []))
            refine Goes.st (fun t_ k_ => XS.iload X35.here hx rfl (hb hby at_220) rfl  k_) ?_
            show Goes p e below s _ _ _ (T35.setTop (mkF m 222 #[.val (.long q0), .second, .val (.int p1), .val (.int p2), .val (.int p3), .val (.int p4), .val (.int p5), .val (.long t0), .second, .val (.long ee), .second, .val (.long d1), .second, .val (.long d2), .second, .val (.long d3), .second, .val (.int fe), .val (.int me), .val (.ref b27), .val (.long (t0 + ee)), .second, .val (.long ((t0 + ee) + d1)), .second, .val (.long t2), .second, .val (.long t3), .second, .val (.long sp), .second, .val (.int (0 : Int32)), .val (.int (own_bI false)), .val (.int (own_bI false))] [(.int (own_bI false))]))
            refine Goes.st (fun t_ k_ => XS.iload X35.here hx rfl (hb hby at_222) rfl  k_) ?_
            show Goes p e below s _ _ _ (T35.setTop (mkF m 224 #[.val (.long q0), .second, .val (.int p1), .val (.int p2), .val (.int p3), .val (.int p4), .val (.int p5), .val (.long t0), .second, .val (.long ee), .second, .val (.long d1), .second, .val (.long d2), .second, .val (.long d3), .second, .val (.int fe), .val (.int me), .val (.ref b27), .val (.long (t0 + ee)), .second, .val (.long ((t0 + ee) + d1)), .second, .val (.long t2), .second, .val (.long t3), .second, .val (.long sp), .second, .val (.int (0 : Int32)), .val (.int (own_bI false)), .val (.int (own_bI false))] [(.int (0 : Int32)), (.int (own_bI false))]))
            refine Goes.st (fun t_ k_ => XS.icmpNo X35.here hx rfl (hb hby at_224) rfl (teq (rfl : own_bI false = 0)).2 k_) ?_
            show Goes p e below s _ _ _ (T35.setTop (mkF m 227 #[.val (.long q0), .second, .val (.int p1), .val (.int p2), .val (.int p3), .val (.int p4), .val (.int p5), .val (.long t0), .second, .val (.long ee), .second, .val (.long d1), .second, .val (.long d2), .second, .val (.long d3), .second, .val (.int fe), .val (.int me), .val (.ref b27), .val (.long (t0 + ee)), .second, .val (.long ((t0 + ee) + d1)), .second, .val (.long t2), .second, .val (.long t3), .second, .val (.long sp), .second, .val (.int (0 : Int32)), .val (.int (own_bI false)), .val (.int (own_bI false))] []))
            refine Goes.st (fun t_ k_ => XS.iload X35.here hx rfl (hb hby at_227) rfl  k_) ?_
            show Goes p e below s _ _ _ (T35.setTop (mkF m 229 #[.val (.long q0), .second, .val (.int p1), .val (.int p2), .val (.int p3), .val (.int p4), .val (.int p5), .val (.long t0), .second, .val (.long ee), .second, .val (.long d1), .second, .val (.long d2), .second, .val (.long d3), .second, .val (.int fe), .val (.int me), .val (.ref b27), .val (.long (t0 + ee)), .second, .val (.long ((t0 + ee) + d1)), .second, .val (.long t2), .second, .val (.long t3), .second, .val (.long sp), .second, .val (.int (0 : Int32)), .val (.int (own_bI false)), .val (.int (own_bI false))] [(.int (own_bI false))]))
            refine Goes.st (fun t_ k_ => XS.iload X35.here hx rfl (hb hby at_229) rfl  k_) ?_
            show Goes p e below s _ _ _ (T35.setTop (mkF m 231 #[.val (.long q0), .second, .val (.int p1), .val (.int p2), .val (.int p3), .val (.int p4), .val (.int p5), .val (.long t0), .second, .val (.long ee), .second, .val (.long d1), .second, .val (.long d2), .second, .val (.long d3), .second, .val (.int fe), .val (.int me), .val (.ref b27), .val (.long (t0 + ee)), .second, .val (.long ((t0 + ee) + d1)), .second, .val (.long t2), .second, .val (.long t3), .second, .val (.long sp), .second, .val (.int (0 : Int32)), .val (.int (own_bI false)), .val (.int (own_bI false))] [(.int (0 : Int32)), (.int (own_bI false))]))
            refine Goes.st (fun t_ k_ => XS.icmpNo X35.here hx rfl (hb hby at_231) rfl (teq (rfl : own_bI false = 0)).2 k_) ?_
            show Goes p e below s _ _ _ (T35.setTop (mkF m 234 #[.val (.long q0), .second, .val (.int p1), .val (.int p2), .val (.int p3), .val (.int p4), .val (.int p5), .val (.long t0), .second, .val (.long ee), .second, .val (.long d1), .second, .val (.long d2), .second, .val (.long d3), .second, .val (.int fe), .val (.int me), .val (.ref b27), .val (.long (t0 + ee)), .second, .val (.long ((t0 + ee) + d1)), .second, .val (.long t2), .second, .val (.long t3), .second, .val (.long sp), .second, .val (.int (0 : Int32)), .val (.int (own_bI false)), .val (.int (own_bI false))] []))
            refine Goes.st (fun t_ k_ => XS.iconst X35.here hx rfl (hb hby at_234) k_) ?_
            show Goes p e below s _ _ _ (T35.setTop (mkF m 235 #[.val (.long q0), .second, .val (.int p1), .val (.int p2), .val (.int p3), .val (.int p4), .val (.int p5), .val (.long t0), .second, .val (.long ee), .second, .val (.long d1), .second, .val (.long d2), .second, .val (.long d3), .second, .val (.int fe), .val (.int me), .val (.ref b27), .val (.long (t0 + ee)), .second, .val (.long ((t0 + ee) + d1)), .second, .val (.long t2), .second, .val (.long t3), .second, .val (.long sp), .second, .val (.int (0 : Int32)), .val (.int (own_bI false)), .val (.int (own_bI false))] [(.int (1 : Int32))]))
            refine Goes.st (fun t_ k_ => XS.goto X35.here hx rfl (pc0 := 235) (pc' := 239) rfl (hb hby at_235) (by decide) (by decide) k_) ?_
            show Goes p e below s _ _ _ (T35.setTop (mkF m 239 #[.val (.long q0), .second, .val (.int p1), .val (.int p2), .val (.int p3), .val (.int p4), .val (.int p5), .val (.long t0), .second, .val (.long ee), .second, .val (.long d1), .second, .val (.long d2), .second, .val (.long d3), .second, .val (.int fe), .val (.int me), .val (.ref b27), .val (.long (t0 + ee)), .second, .val (.long ((t0 + ee) + d1)), .second, .val (.long t2), .second, .val (.long t3), .second, .val (.long sp), .second, .val (.int (0 : Int32)), .val (.int (own_bI false)), .val (.int (own_bI false))] [(.int (1 : Int32))]))
            exact Goes.retN X35 hx (t := .boolean) hret hlk (by simp) (hb hby at_239) (by decide) (by decide) (⟨rfl, N35⟩)
          · refine Goes.st (fun t_ k_ => XS.ifNo X32.here hx rfl (hb hby at_186) rfl ((if0 _ _).trans (flt (mt (lw_lt _ _).mp hx2)).1) k_) ?_
            show Goes p e below s _ _ _ (T32.setTop (mkF m 189 #[.val (.long q0), .second, .val (.int p1), .val (.int p2), .val (.int p3), .val (.int p4), .val (.int p5), .val (.long t0), .second, .val (.long ee), .second, .val (.long d1), .second, .val (.long d2), .second, .val (.long d3), .second, .val (.int fe), .val (.int me), .val (.ref b27), .val (.long (t0 + ee)), .second, .val (.long ((t0 + ee) + d1)), .second, .val (.long t2), .second, .val (.long t3), .second, .val (.long sp), .second, .unset, .unset, .unset] []))
            refine Goes.st (fun t_ k_ => XS.iconst X32.here hx rfl (hb hby at_189) k_) ?_
            show Goes p e below s _ _ _ (T32.setTop (mkF m 190 #[.val (.long q0), .second, .val (.int p1), .val (.int p2), .val (.int p3), .val (.int p4), .val (.int p5), .val (.long t0), .second, .val (.long ee), .second, .val (.long d1), .second, .val (.long d2), .second, .val (.long d3), .second, .val (.int fe), .val (.int me), .val (.ref b27), .val (.long (t0 + ee)), .second, .val (.long ((t0 + ee) + d1)), .second, .val (.long t2), .second, .val (.long t3), .second, .val (.long sp), .second, .unset, .unset, .unset] [(.int (1 : Int32))]))
            refine Goes.st (fun t_ k_ => XS.goto X32.here hx rfl (pc0 := 190) (pc' := 194) rfl (hb hby at_190) (by decide) (by decide) k_) ?_
            show Goes p e below s _ _ _ (T32.setTop (mkF m 194 #[.val (.long q0), .second, .val (.int p1), .val (.int p2), .val (.int p3), .val (.int p4), .val (.int p5), .val (.long t0), .second, .val (.long ee), .second, .val (.long d1), .second, .val (.long d2), .second, .val (.long d3), .second, .val (.int fe), .val (.int me), .val (.ref b27), .val (.long (t0 + ee)), .second, .val (.long ((t0 + ee) + d1)), .second, .val (.long t2), .second, .val (.long t3), .second, .val (.long sp), .second, .unset, .unset, .unset] [(.int (1 : Int32))]))
            refine Goes.st (fun t_ k_ => XS.istore X32.here hx rfl (hb hby at_194) rfl  (l' := #[.val (.long q0), .second, .val (.int p1), .val (.int p2), .val (.int p3), .val (.int p4), .val (.int p5), .val (.long t0), .second, .val (.long ee), .second, .val (.long d1), .second, .val (.long d2), .second, .val (.long d3), .second, .val (.int fe), .val (.int me), .val (.ref b27), .val (.long (t0 + ee)), .second, .val (.long ((t0 + ee) + d1)), .second, .val (.long t2), .second, .val (.long t3), .second, .val (.long sp), .second, .val (.int (1 : Int32)), .unset, .unset]) rfl k_) ?_
            show Goes p e below s _ _ _ (T32.setTop (mkF m 196 #[.val (.long q0), .second, .val (.int p1), .val (.int p2), .val (.int p3), .val (.int p4), .val (.int p5), .val (.long t0), .second, .val (.long ee), .second, .val (.long d1), .second, .val (.long d2), .second, .val (.long d3), .second, .val (.int fe), .val (.int me), .val (.ref b27), .val (.long (t0 + ee)), .second, .val (.long ((t0 + ee) + d1)), .second, .val (.long t2), .second, .val (.long t3), .second, .val (.long sp), .second, .val (.int (1 : Int32)), .unset, .unset] []))
            refine Goes.st (fun t_ k_ => XS.aload X32.here hx rfl (hb hby at_196) rfl rfl k_) ?_
            show Goes p e below s _ _ _ (T32.setTop (mkF m 198 #[.val (.long q0), .second, .val (.int p1), .val (.int p2), .val (.int p3), .val (.int p4), .val (.int p5), .val (.long t0), .second, .val (.long ee), .second, .val (.long d1), .second, .val (.long d2), .second, .val (.long d3), .second, .val (.int fe), .val (.int me), .val (.ref b27), .val (.long (t0 + ee)), .second, .val (.long ((t0 + ee) + d1)), .second, .val (.long t2), .second, .val (.long t3), .second, .val (.long sp), .second, .val (.int (1 : Int32)), .unset, .unset] [(.ref b27)]))
            obtain ⟨cq36, kq36, q36a, q36b, q36c⟩ := isOf hZ e32 E_b27
            obtain ⟨_, _, ⟨T36, L36, k36, n36⟩, -, X36, ⟨Lc36, hQ36, l36, y36, z36⟩, st36⟩ := X32.virtualBack hx (y := (⟨"com/example/delaunet/delaunet/core/sim/Pace", "complete", "()Z"⟩ : MethodName)) (z := (⟨"com/example/delaunet/delaunet/core/sim/Pace", "complete", "()Z"⟩ : MethodName)) hown (mvT hZ (hw _ (List.mem_of_getElem? (i := 44) rfl))) (mvT hZ (hw _ (List.mem_of_getElem? (i := 25) rfl))) (notFace_of_selects (args := #[]) (mvT hZ (hw _ (List.mem_of_getElem? (i := 27) rfl)))) (mvT hZ (hw _ (List.mem_of_getElem? (i := 27) rfl))) (mvT hZ (hw _ (List.mem_of_getElem? (i := 26) rfl))) (by decide) (backOf (W := 0) (own_rmC l Z a0 hw [] b27 3 sp (-1) true h32 n0 Z32 HP (by exact own_dT (by decide) hx2)) hZ (hw _ (List.mem_of_getElem? (i := 28) rfl)) (hw _ (List.mem_of_getElem? (i := 4) rfl)) (by decide) (by decide)) q36a q36c (g := (mkF m 198 #[.val (.long q0), .second, .val (.int p1), .val (.int p2), .val (.int p3), .val (.int p4), .val (.int p5), .val (.long t0), .second, .val (.long ee), .second, .val (.long d1), .second, .val (.long d2), .second, .val (.long d3), .second, .val (.int fe), .val (.int me), .val (.ref b27), .val (.long (t0 + ee)), .second, .val (.long ((t0 + ee) + d1)), .second, .val (.long t2), .second, .val (.long t3), .second, .val (.long sp), .second, .val (.int (1 : Int32)), .unset, .unset] [(.ref b27)])) rfl (by rw [hml]; rfl) (Steps.refl _) (argsL := []) (rest := []) (lenOf own_pd60 rfl) rfl (by show 2 * 0 + _ ≤ _; exact Nat.le_of_eq rfl) (hb hby at_198) (fun _ _ => ⟨rfl, e32, (by decide : 3 + 0 ≤ _), (by decide : 21 + 0 ≤ _)⟩)
            dsimp only [Pt.U, Pt.locs, Pt.cells, Pt.slots] at X36 l36 y36 z36 st36 hQ36
            subst l36 y36 z36
            obtain ⟨rfl, N36q, EQ1⟩ := hQ36
            have N36 := Fr.app N32 N36q
            refine Goes.tr st36 ?_
            show Goes p e below s _ _ _ (T36.setTop (mkF m 201 #[.val (.long q0), .second, .val (.int p1), .val (.int p2), .val (.int p3), .val (.int p4), .val (.int p5), .val (.long t0), .second, .val (.long ee), .second, .val (.long d1), .second, .val (.long d2), .second, .val (.long d3), .second, .val (.int fe), .val (.int me), .val (.ref b27), .val (.long (t0 + ee)), .second, .val (.long ((t0 + ee) + d1)), .second, .val (.long t2), .second, .val (.long t3), .second, .val (.long sp), .second, .val (.int (1 : Int32)), .unset, .unset] [(.int (own_bI true))]))
            refine Goes.st (fun t_ k_ => XS.istore X36.here hx rfl (hb hby at_201) rfl  (l' := #[.val (.long q0), .second, .val (.int p1), .val (.int p2), .val (.int p3), .val (.int p4), .val (.int p5), .val (.long t0), .second, .val (.long ee), .second, .val (.long d1), .second, .val (.long d2), .second, .val (.long d3), .second, .val (.int fe), .val (.int me), .val (.ref b27), .val (.long (t0 + ee)), .second, .val (.long ((t0 + ee) + d1)), .second, .val (.long t2), .second, .val (.long t3), .second, .val (.long sp), .second, .val (.int (1 : Int32)), .val (.int (own_bI true)), .unset]) rfl k_) ?_
            show Goes p e below s _ _ _ (T36.setTop (mkF m 203 #[.val (.long q0), .second, .val (.int p1), .val (.int p2), .val (.int p3), .val (.int p4), .val (.int p5), .val (.long t0), .second, .val (.long ee), .second, .val (.long d1), .second, .val (.long d2), .second, .val (.long d3), .second, .val (.int fe), .val (.int me), .val (.ref b27), .val (.long (t0 + ee)), .second, .val (.long ((t0 + ee) + d1)), .second, .val (.long t2), .second, .val (.long t3), .second, .val (.long sp), .second, .val (.int (1 : Int32)), .val (.int (own_bI true)), .unset] []))
            refine Goes.st (fun t_ k_ => XS.aload X36.here hx rfl (hb hby at_203) rfl rfl k_) ?_
            show Goes p e below s _ _ _ (T36.setTop (mkF m 205 #[.val (.long q0), .second, .val (.int p1), .val (.int p2), .val (.int p3), .val (.int p4), .val (.int p5), .val (.long t0), .second, .val (.long ee), .second, .val (.long d1), .second, .val (.long d2), .second, .val (.long d3), .second, .val (.int fe), .val (.int me), .val (.ref b27), .val (.long (t0 + ee)), .second, .val (.long ((t0 + ee) + d1)), .second, .val (.long t2), .second, .val (.long t3), .second, .val (.long sp), .second, .val (.int (1 : Int32)), .val (.int (own_bI true)), .unset] [(.ref b27)]))
            refine Goes.st (fun t_ k_ => XS.lload X36.here hx rfl (hb hby at_205) rfl  k_) ?_
            show Goes p e below s _ _ _ (T36.setTop (mkF m 207 #[.val (.long q0), .second, .val (.int p1), .val (.int p2), .val (.int p3), .val (.int p4), .val (.int p5), .val (.long t0), .second, .val (.long ee), .second, .val (.long d1), .second, .val (.long d2), .second, .val (.long d3), .second, .val (.int fe), .val (.int me), .val (.ref b27), .val (.long (t0 + ee)), .second, .val (.long ((t0 + ee) + d1)), .second, .val (.long t2), .second, .val (.long t3), .second, .val (.long sp), .second, .val (.int (1 : Int32)), .val (.int (own_bI true)), .unset] [(.long t3), (.ref b27)]))
            refine Goes.st (fun t_ k_ => XS.lload X36.here hx rfl (hb hby at_207) rfl  k_) ?_
            show Goes p e below s _ _ _ (T36.setTop (mkF m 209 #[.val (.long q0), .second, .val (.int p1), .val (.int p2), .val (.int p3), .val (.int p4), .val (.int p5), .val (.long t0), .second, .val (.long ee), .second, .val (.long d1), .second, .val (.long d2), .second, .val (.long d3), .second, .val (.int fe), .val (.int me), .val (.ref b27), .val (.long (t0 + ee)), .second, .val (.long ((t0 + ee) + d1)), .second, .val (.long t2), .second, .val (.long t3), .second, .val (.long sp), .second, .val (.int (1 : Int32)), .val (.int (own_bI true)), .unset] [(.long d1), (.long t3), (.ref b27)]))
            refine Goes.st (fun t_ k_ => XS.ladd X36.here hx rfl (hb hby at_209) rfl k_) ?_
            show Goes p e below s _ _ _ (T36.setTop (mkF m 210 #[.val (.long q0), .second, .val (.int p1), .val (.int p2), .val (.int p3), .val (.int p4), .val (.int p5), .val (.long t0), .second, .val (.long ee), .second, .val (.long d1), .second, .val (.long d2), .second, .val (.long d3), .second, .val (.int fe), .val (.int me), .val (.ref b27), .val (.long (t0 + ee)), .second, .val (.long ((t0 + ee) + d1)), .second, .val (.long t2), .second, .val (.long t3), .second, .val (.long sp), .second, .val (.int (1 : Int32)), .val (.int (own_bI true)), .unset] [(.long (t3 + d1)), (.ref b27)]))
            obtain ⟨cq37, kq37, q37a, q37b, q37c⟩ := isOf hZ EQ1 E_b27
            obtain ⟨_, _, ⟨T37, L37, k37, n37⟩, -, X37, ⟨Lc37, hQ37, l37, y37, z37⟩, st37⟩ := X36.virtualBack hx (y := (⟨"com/example/delaunet/delaunet/core/sim/Pace", "end", "(J)V"⟩ : MethodName)) (z := (⟨"com/example/delaunet/delaunet/core/sim/Pace", "end", "(J)V"⟩ : MethodName)) hown (mvT hZ (hw _ (List.mem_of_getElem? (i := 42) rfl))) (mvT hZ (hw _ (List.mem_of_getElem? (i := 34) rfl))) (notFace_of_selects (args := #[]) (mvT hZ (hw _ (List.mem_of_getElem? (i := 36) rfl)))) (mvT hZ (hw _ (List.mem_of_getElem? (i := 36) rfl))) (mvT hZ (hw _ (List.mem_of_getElem? (i := 35) rfl))) (by decide) (backOf (W := 0) (own_rmE l Z a0 hw [] b27 (t3 + d1) 3 sp (-1) sp h32 n0 Z32 HP (by simp [own_sp]) gn_b27) hZ (hw _ (List.mem_of_getElem? (i := 37) rfl)) (hw _ (List.mem_of_getElem? (i := 4) rfl)) (by decide) (by decide)) q37a q37c (g := (mkF m 210 #[.val (.long q0), .second, .val (.int p1), .val (.int p2), .val (.int p3), .val (.int p4), .val (.int p5), .val (.long t0), .second, .val (.long ee), .second, .val (.long d1), .second, .val (.long d2), .second, .val (.long d3), .second, .val (.int fe), .val (.int me), .val (.ref b27), .val (.long (t0 + ee)), .second, .val (.long ((t0 + ee) + d1)), .second, .val (.long t2), .second, .val (.long t3), .second, .val (.long sp), .second, .val (.int (1 : Int32)), .val (.int (own_bI true)), .unset] [(.long (t3 + d1)), (.ref b27)])) rfl (by rw [hml]; rfl) (Steps.refl _) (argsL := [(.long (t3 + d1))]) (rest := []) (lenOf own_pd65 rfl) rfl (by show 2 * 0 + _ ≤ _; exact Nat.le_of_eq rfl) (hb hby at_210) (fun _ _ => ⟨rfl, EQ1, (by decide : 3 + 0 ≤ _), (by decide : 21 + 0 ≤ _)⟩)
            dsimp only [Pt.U, Pt.locs, Pt.cells, Pt.slots] at X37 l37 y37 z37 st37 hQ37
            subst l37 y37 z37
            obtain ⟨rfl, N37q, KE, HP⟩ := hQ37
            have N37 := Fr.app N36 N37q
            refine Goes.tr st37 ?_
            have Z32' := Nat.le_trans Z32 KE.1
            have HP2 := HP
            obtain ⟨E_b27, Fs_b27, Fa_b27, Fd_b27, Fp_b27, Fi_b27⟩ := HP2
            show Goes p e below s _ _ _ (T37.setTop (mkF m 213 #[.val (.long q0), .second, .val (.int p1), .val (.int p2), .val (.int p3), .val (.int p4), .val (.int p5), .val (.long t0), .second, .val (.long ee), .second, .val (.long d1), .second, .val (.long d2), .second, .val (.long d3), .second, .val (.int fe), .val (.int me), .val (.ref b27), .val (.long (t0 + ee)), .second, .val (.long ((t0 + ee) + d1)), .second, .val (.long t2), .second, .val (.long t3), .second, .val (.long sp), .second, .val (.int (1 : Int32)), .val (.int (own_bI true)), .unset] []))
            refine Goes.st (fun t_ k_ => XS.aload X37.here hx rfl (hb hby at_213) rfl rfl k_) ?_
            show Goes p e below s _ _ _ (T37.setTop (mkF m 215 #[.val (.long q0), .second, .val (.int p1), .val (.int p2), .val (.int p3), .val (.int p4), .val (.int p5), .val (.long t0), .second, .val (.long ee), .second, .val (.long d1), .second, .val (.long d2), .second, .val (.long d3), .second, .val (.int fe), .val (.int me), .val (.ref b27), .val (.long (t0 + ee)), .second, .val (.long ((t0 + ee) + d1)), .second, .val (.long t2), .second, .val (.long t3), .second, .val (.long sp), .second, .val (.int (1 : Int32)), .val (.int (own_bI true)), .unset] [(.ref b27)]))
            obtain ⟨cq38, kq38, q38a, q38b, q38c⟩ := isOf hZ rfl E_b27
            obtain ⟨_, _, ⟨T38, L38, k38, n38⟩, -, X38, ⟨Lc38, hQ38, l38, y38, z38⟩, st38⟩ := X37.virtualBack hx (y := (⟨"com/example/delaunet/delaunet/core/sim/Pace", "complete", "()Z"⟩ : MethodName)) (z := (⟨"com/example/delaunet/delaunet/core/sim/Pace", "complete", "()Z"⟩ : MethodName)) hown (mvT hZ (hw _ (List.mem_of_getElem? (i := 44) rfl))) (mvT hZ (hw _ (List.mem_of_getElem? (i := 25) rfl))) (notFace_of_selects (args := #[]) (mvT hZ (hw _ (List.mem_of_getElem? (i := 27) rfl)))) (mvT hZ (hw _ (List.mem_of_getElem? (i := 27) rfl))) (mvT hZ (hw _ (List.mem_of_getElem? (i := 26) rfl))) (by decide) (backOf (W := 0) (own_rmC l Z a0 hw [] b27 3 sp (-1) true T37.heap n0 Z32' HP (by exact own_dT (by decide) hx2)) hZ (hw _ (List.mem_of_getElem? (i := 28) rfl)) (hw _ (List.mem_of_getElem? (i := 4) rfl)) (by decide) (by decide)) q38a q38c (g := (mkF m 215 #[.val (.long q0), .second, .val (.int p1), .val (.int p2), .val (.int p3), .val (.int p4), .val (.int p5), .val (.long t0), .second, .val (.long ee), .second, .val (.long d1), .second, .val (.long d2), .second, .val (.long d3), .second, .val (.int fe), .val (.int me), .val (.ref b27), .val (.long (t0 + ee)), .second, .val (.long ((t0 + ee) + d1)), .second, .val (.long t2), .second, .val (.long t3), .second, .val (.long sp), .second, .val (.int (1 : Int32)), .val (.int (own_bI true)), .unset] [(.ref b27)])) rfl (by rw [hml]; rfl) (Steps.refl _) (argsL := []) (rest := []) (lenOf own_pd60 rfl) rfl (by show 2 * 0 + _ ≤ _; exact Nat.le_of_eq rfl) (hb hby at_215) (fun _ _ => ⟨rfl, rfl, (by decide : 3 + 0 ≤ _), (by decide : 21 + 0 ≤ _)⟩)
            dsimp only [Pt.U, Pt.locs, Pt.cells, Pt.slots] at X38 l38 y38 z38 st38 hQ38
            subst l38 y38 z38
            obtain ⟨rfl, N38q, EQ2⟩ := hQ38
            have N38 := Fr.app N37 N38q
            refine Goes.tr st38 ?_
            show Goes p e below s _ _ _ (T38.setTop (mkF m 218 #[.val (.long q0), .second, .val (.int p1), .val (.int p2), .val (.int p3), .val (.int p4), .val (.int p5), .val (.long t0), .second, .val (.long ee), .second, .val (.long d1), .second, .val (.long d2), .second, .val (.long d3), .second, .val (.int fe), .val (.int me), .val (.ref b27), .val (.long (t0 + ee)), .second, .val (.long ((t0 + ee) + d1)), .second, .val (.long t2), .second, .val (.long t3), .second, .val (.long sp), .second, .val (.int (1 : Int32)), .val (.int (own_bI true)), .unset] [(.int (own_bI true))]))
            refine Goes.st (fun t_ k_ => XS.istore X38.here hx rfl (hb hby at_218) rfl  (l' := #[.val (.long q0), .second, .val (.int p1), .val (.int p2), .val (.int p3), .val (.int p4), .val (.int p5), .val (.long t0), .second, .val (.long ee), .second, .val (.long d1), .second, .val (.long d2), .second, .val (.long d3), .second, .val (.int fe), .val (.int me), .val (.ref b27), .val (.long (t0 + ee)), .second, .val (.long ((t0 + ee) + d1)), .second, .val (.long t2), .second, .val (.long t3), .second, .val (.long sp), .second, .val (.int (1 : Int32)), .val (.int (own_bI true)), .val (.int (own_bI true))]) rfl k_) ?_
            show Goes p e below s _ _ _ (T38.setTop (mkF m 220 #[.val (.long q0), .second, .val (.int p1), .val (.int p2), .val (.int p3), .val (.int p4), .val (.int p5), .val (.long t0), .second, .val (.long ee), .second, .val (.long d1), .second, .val (.long d2), .second, .val (.long d3), .second, .val (.int fe), .val (.int me), .val (.ref b27), .val (.long (t0 + ee)), .second, .val (.long ((t0 + ee) + d1)), .second, .val (.long t2), .second, .val (.long t3), .second, .val (.long sp), .second, .val (.int (1 : Int32)), .val (.int (own_bI true)), .val (.int (own_bI true))] []))
            refine Goes.st (fun t_ k_ => XS.iload X38.here hx rfl (hb hby at_220) rfl  k_) ?_
            show Goes p e below s _ _ _ (T38.setTop (mkF m 222 #[.val (.long q0), .second, .val (.int p1), .val (.int p2), .val (.int p3), .val (.int p4), .val (.int p5), .val (.long t0), .second, .val (.long ee), .second, .val (.long d1), .second, .val (.long d2), .second, .val (.long d3), .second, .val (.int fe), .val (.int me), .val (.ref b27), .val (.long (t0 + ee)), .second, .val (.long ((t0 + ee) + d1)), .second, .val (.long t2), .second, .val (.long t3), .second, .val (.long sp), .second, .val (.int (1 : Int32)), .val (.int (own_bI true)), .val (.int (own_bI true))] [(.int (own_bI true))]))
            refine Goes.st (fun t_ k_ => XS.iload X38.here hx rfl (hb hby at_222) rfl  k_) ?_
            show Goes p e below s _ _ _ (T38.setTop (mkF m 224 #[.val (.long q0), .second, .val (.int p1), .val (.int p2), .val (.int p3), .val (.int p4), .val (.int p5), .val (.long t0), .second, .val (.long ee), .second, .val (.long d1), .second, .val (.long d2), .second, .val (.long d3), .second, .val (.int fe), .val (.int me), .val (.ref b27), .val (.long (t0 + ee)), .second, .val (.long ((t0 + ee) + d1)), .second, .val (.long t2), .second, .val (.long t3), .second, .val (.long sp), .second, .val (.int (1 : Int32)), .val (.int (own_bI true)), .val (.int (own_bI true))] [(.int (1 : Int32)), (.int (own_bI true))]))
            refine Goes.st (fun t_ k_ => XS.icmpNo X38.here hx rfl (hb hby at_224) rfl (teq (rfl : own_bI true = 1)).2 k_) ?_
            show Goes p e below s _ _ _ (T38.setTop (mkF m 227 #[.val (.long q0), .second, .val (.int p1), .val (.int p2), .val (.int p3), .val (.int p4), .val (.int p5), .val (.long t0), .second, .val (.long ee), .second, .val (.long d1), .second, .val (.long d2), .second, .val (.long d3), .second, .val (.int fe), .val (.int me), .val (.ref b27), .val (.long (t0 + ee)), .second, .val (.long ((t0 + ee) + d1)), .second, .val (.long t2), .second, .val (.long t3), .second, .val (.long sp), .second, .val (.int (1 : Int32)), .val (.int (own_bI true)), .val (.int (own_bI true))] []))
            refine Goes.st (fun t_ k_ => XS.iload X38.here hx rfl (hb hby at_227) rfl  k_) ?_
            show Goes p e below s _ _ _ (T38.setTop (mkF m 229 #[.val (.long q0), .second, .val (.int p1), .val (.int p2), .val (.int p3), .val (.int p4), .val (.int p5), .val (.long t0), .second, .val (.long ee), .second, .val (.long d1), .second, .val (.long d2), .second, .val (.long d3), .second, .val (.int fe), .val (.int me), .val (.ref b27), .val (.long (t0 + ee)), .second, .val (.long ((t0 + ee) + d1)), .second, .val (.long t2), .second, .val (.long t3), .second, .val (.long sp), .second, .val (.int (1 : Int32)), .val (.int (own_bI true)), .val (.int (own_bI true))] [(.int (own_bI true))]))
            refine Goes.st (fun t_ k_ => XS.iload X38.here hx rfl (hb hby at_229) rfl  k_) ?_
            show Goes p e below s _ _ _ (T38.setTop (mkF m 231 #[.val (.long q0), .second, .val (.int p1), .val (.int p2), .val (.int p3), .val (.int p4), .val (.int p5), .val (.long t0), .second, .val (.long ee), .second, .val (.long d1), .second, .val (.long d2), .second, .val (.long d3), .second, .val (.int fe), .val (.int me), .val (.ref b27), .val (.long (t0 + ee)), .second, .val (.long ((t0 + ee) + d1)), .second, .val (.long t2), .second, .val (.long t3), .second, .val (.long sp), .second, .val (.int (1 : Int32)), .val (.int (own_bI true)), .val (.int (own_bI true))] [(.int (1 : Int32)), (.int (own_bI true))]))
            refine Goes.st (fun t_ k_ => XS.icmpNo X38.here hx rfl (hb hby at_231) rfl (teq (rfl : own_bI true = 1)).2 k_) ?_
            show Goes p e below s _ _ _ (T38.setTop (mkF m 234 #[.val (.long q0), .second, .val (.int p1), .val (.int p2), .val (.int p3), .val (.int p4), .val (.int p5), .val (.long t0), .second, .val (.long ee), .second, .val (.long d1), .second, .val (.long d2), .second, .val (.long d3), .second, .val (.int fe), .val (.int me), .val (.ref b27), .val (.long (t0 + ee)), .second, .val (.long ((t0 + ee) + d1)), .second, .val (.long t2), .second, .val (.long t3), .second, .val (.long sp), .second, .val (.int (1 : Int32)), .val (.int (own_bI true)), .val (.int (own_bI true))] []))
            refine Goes.st (fun t_ k_ => XS.iconst X38.here hx rfl (hb hby at_234) k_) ?_
            show Goes p e below s _ _ _ (T38.setTop (mkF m 235 #[.val (.long q0), .second, .val (.int p1), .val (.int p2), .val (.int p3), .val (.int p4), .val (.int p5), .val (.long t0), .second, .val (.long ee), .second, .val (.long d1), .second, .val (.long d2), .second, .val (.long d3), .second, .val (.int fe), .val (.int me), .val (.ref b27), .val (.long (t0 + ee)), .second, .val (.long ((t0 + ee) + d1)), .second, .val (.long t2), .second, .val (.long t3), .second, .val (.long sp), .second, .val (.int (1 : Int32)), .val (.int (own_bI true)), .val (.int (own_bI true))] [(.int (1 : Int32))]))
            refine Goes.st (fun t_ k_ => XS.goto X38.here hx rfl (pc0 := 235) (pc' := 239) rfl (hb hby at_235) (by decide) (by decide) k_) ?_
            show Goes p e below s _ _ _ (T38.setTop (mkF m 239 #[.val (.long q0), .second, .val (.int p1), .val (.int p2), .val (.int p3), .val (.int p4), .val (.int p5), .val (.long t0), .second, .val (.long ee), .second, .val (.long d1), .second, .val (.long d2), .second, .val (.long d3), .second, .val (.int fe), .val (.int me), .val (.ref b27), .val (.long (t0 + ee)), .second, .val (.long ((t0 + ee) + d1)), .second, .val (.long t2), .second, .val (.long t3), .second, .val (.long sp), .second, .val (.int (1 : Int32)), .val (.int (own_bI true)), .val (.int (own_bI true))] [(.int (1 : Int32))]))
            exact Goes.retN X38 hx (t := .boolean) hret hlk (by simp) (hb hby at_239) (by decide) (by decide) (⟨rfl, N38⟩)
        by_cases hme : me = (0 : Int32)
        · refine Goes.st (fun t_ k_ => XS.ifYes X31.here hx rfl (pc0 := 118) (pc' := 128) rfl (hb hby at_118) rfl ((if0 _ _).trans (teq hme).1) (by decide) (by decide) k_) ?_
          show Goes p e below s _ _ _ (T31.setTop (mkF m 128 #[.val (.long q0), .second, .val (.int p1), .val (.int p2), .val (.int p3), .val (.int p4), .val (.int p5), .val (.long t0), .second, .val (.long ee), .second, .val (.long d1), .second, .val (.long d2), .second, .val (.long d3), .second, .val (.int fe), .val (.int me), .val (.ref b27), .val (.long (t0 + ee)), .second, .val (.long ((t0 + ee) + d1)), .second, .unset, .unset, .unset, .unset, .unset, .unset, .unset, .unset, .unset] []))
          refine Goes.st (fun t_ k_ => XS.lload X31.here hx rfl (hb hby at_128) rfl  k_) ?_
          show Goes p e below s _ _ _ (T31.setTop (mkF m 130 #[.val (.long q0), .second, .val (.int p1), .val (.int p2), .val (.int p3), .val (.int p4), .val (.int p5), .val (.long t0), .second, .val (.long ee), .second, .val (.long d1), .second, .val (.long d2), .second, .val (.long d3), .second, .val (.int fe), .val (.int me), .val (.ref b27), .val (.long (t0 + ee)), .second, .val (.long ((t0 + ee) + d1)), .second, .unset, .unset, .unset, .unset, .unset, .unset, .unset, .unset, .unset] [(.long ((t0 + ee) + d1))]))
          refine Goes.st (fun t_ k_ => XS.lload X31.here hx rfl (hb hby at_130) rfl  k_) ?_
          show Goes p e below s _ _ _ (T31.setTop (mkF m 132 #[.val (.long q0), .second, .val (.int p1), .val (.int p2), .val (.int p3), .val (.int p4), .val (.int p5), .val (.long t0), .second, .val (.long ee), .second, .val (.long d1), .second, .val (.long d2), .second, .val (.long d3), .second, .val (.int fe), .val (.int me), .val (.ref b27), .val (.long (t0 + ee)), .second, .val (.long ((t0 + ee) + d1)), .second, .unset, .unset, .unset, .unset, .unset, .unset, .unset, .unset, .unset] [(.long d2), (.long ((t0 + ee) + d1))]))
          refine Goes.st (fun t_ k_ => XS.ladd X31.here hx rfl (hb hby at_132) rfl k_) ?_
          show Goes p e below s _ _ _ (T31.setTop (mkF m 133 #[.val (.long q0), .second, .val (.int p1), .val (.int p2), .val (.int p3), .val (.int p4), .val (.int p5), .val (.long t0), .second, .val (.long ee), .second, .val (.long d1), .second, .val (.long d2), .second, .val (.long d3), .second, .val (.int fe), .val (.int me), .val (.ref b27), .val (.long (t0 + ee)), .second, .val (.long ((t0 + ee) + d1)), .second, .unset, .unset, .unset, .unset, .unset, .unset, .unset, .unset, .unset] [(.long (((t0 + ee) + d1) + d2))]))
          refine Goes.st (fun t_ k_ => XS.lstore X31.here hx rfl (hb hby at_133) rfl  (l' := #[.val (.long q0), .second, .val (.int p1), .val (.int p2), .val (.int p3), .val (.int p4), .val (.int p5), .val (.long t0), .second, .val (.long ee), .second, .val (.long d1), .second, .val (.long d2), .second, .val (.long d3), .second, .val (.int fe), .val (.int me), .val (.ref b27), .val (.long (t0 + ee)), .second, .val (.long ((t0 + ee) + d1)), .second, .val (.long (((t0 + ee) + d1) + d2)), .second, .unset, .unset, .unset, .unset, .unset, .unset, .unset]) rfl k_) ?_
          show Goes p e below s _ _ _ (T31.setTop (mkF m 135 #[.val (.long q0), .second, .val (.int p1), .val (.int p2), .val (.int p3), .val (.int p4), .val (.int p5), .val (.long t0), .second, .val (.long ee), .second, .val (.long d1), .second, .val (.long d2), .second, .val (.long d3), .second, .val (.int fe), .val (.int me), .val (.ref b27), .val (.long (t0 + ee)), .second, .val (.long ((t0 + ee) + d1)), .second, .val (.long (((t0 + ee) + d1) + d2)), .second, .unset, .unset, .unset, .unset, .unset, .unset, .unset] []))
          refine Goes.st (fun t_ k_ => XS.aload X31.here hx rfl (hb hby at_135) rfl rfl k_) ?_
          show Goes p e below s _ _ _ (T31.setTop (mkF m 137 #[.val (.long q0), .second, .val (.int p1), .val (.int p2), .val (.int p3), .val (.int p4), .val (.int p5), .val (.long t0), .second, .val (.long ee), .second, .val (.long d1), .second, .val (.long d2), .second, .val (.long d3), .second, .val (.int fe), .val (.int me), .val (.ref b27), .val (.long (t0 + ee)), .second, .val (.long ((t0 + ee) + d1)), .second, .val (.long (((t0 + ee) + d1) + d2)), .second, .unset, .unset, .unset, .unset, .unset, .unset, .unset] [(.ref b27)]))
          refine Goes.st (fun t_ k_ => XS.lload X31.here hx rfl (hb hby at_137) rfl  k_) ?_
          show Goes p e below s _ _ _ (T31.setTop (mkF m 139 #[.val (.long q0), .second, .val (.int p1), .val (.int p2), .val (.int p3), .val (.int p4), .val (.int p5), .val (.long t0), .second, .val (.long ee), .second, .val (.long d1), .second, .val (.long d2), .second, .val (.long d3), .second, .val (.int fe), .val (.int me), .val (.ref b27), .val (.long (t0 + ee)), .second, .val (.long ((t0 + ee) + d1)), .second, .val (.long (((t0 + ee) + d1) + d2)), .second, .unset, .unset, .unset, .unset, .unset, .unset, .unset] [(.long (((t0 + ee) + d1) + d2)), (.ref b27)]))
          obtain ⟨cq39, kq39, q39a, q39b, q39c⟩ := isOf hZ rfl E_b27
          obtain ⟨_, _, ⟨T39, L39, k39, n39⟩, -, X39, ⟨Lc39, hQ39, l39, y39, z39⟩, st39⟩ := X31.virtualBack hx (y := (⟨"com/example/delaunet/delaunet/core/sim/Pace", "start", "(J)Z"⟩ : MethodName)) (z := (⟨"com/example/delaunet/delaunet/core/sim/Pace", "start", "(J)Z"⟩ : MethodName)) hown (mvT hZ (hw _ (List.mem_of_getElem? (i := 19) rfl))) (mvT hZ (hw _ (List.mem_of_getElem? (i := 20) rfl))) (notFace_of_selects (args := #[]) (mvT hZ (hw _ (List.mem_of_getElem? (i := 22) rfl)))) (mvT hZ (hw _ (List.mem_of_getElem? (i := 22) rfl))) (mvT hZ (hw _ (List.mem_of_getElem? (i := 21) rfl))) (by decide) (backOf (W := 0) (own_rmS l Z a0 hw [] b27 (((t0 + ee) + d1) + d2) 2 0 (t0 + ee) (0 + ((((t0 + ee) + d1) + d2) - (t0 + ee))) T31.heap n0 Z30' HP (own_dS (by decide) (by decide)) (by simp [own_sp, own_nn ht1.1]) gn_b27) hZ (hw _ (List.mem_of_getElem? (i := 23) rfl)) (hw _ (List.mem_of_getElem? (i := 4) rfl)) (by decide) (by decide)) q39a q39c (g := (mkF m 139 #[.val (.long q0), .second, .val (.int p1), .val (.int p2), .val (.int p3), .val (.int p4), .val (.int p5), .val (.long t0), .second, .val (.long ee), .second, .val (.long d1), .second, .val (.long d2), .second, .val (.long d3), .second, .val (.int fe), .val (.int me), .val (.ref b27), .val (.long (t0 + ee)), .second, .val (.long ((t0 + ee) + d1)), .second, .val (.long (((t0 + ee) + d1) + d2)), .second, .unset, .unset, .unset, .unset, .unset, .unset, .unset] [(.long (((t0 + ee) + d1) + d2)), (.ref b27)])) rfl (by rw [hml]; rfl) (Steps.refl _) (argsL := [(.long (((t0 + ee) + d1) + d2))]) (rest := []) (lenOf own_pd84 rfl) rfl (by show 2 * 0 + _ ≤ _; exact Nat.le_of_eq rfl) (hb hby at_139) (fun _ _ => ⟨rfl, rfl, (by decide : 3 + 0 ≤ _), (by decide : 21 + 0 ≤ _)⟩)
          dsimp only [Pt.U, Pt.locs, Pt.cells, Pt.slots] at X39 l39 y39 z39 st39 hQ39
          subst l39 y39 z39
          obtain ⟨rfl, N39q, KS, HP⟩ := hQ39
          have N39 := Fr.app N31 N39q
          refine Goes.tr st39 ?_
          have Z30'' := Nat.le_trans Z30' KS.1
          have HP : own_P Z _ b27 3 (0 + ((((t0 + ee) + d1) + d2) - (t0 + ee))) (((t0 + ee) + d1) + d2) := HP
          have HP' := HP
          obtain ⟨E_b27, Fs_b27, Fa_b27, Fd_b27, Fp_b27, Fi_b27⟩ := HP'
          have ht2 := own_t2 (by decide) (own_t2 (by decide) ht1 hb_d1) hb_d2
          show Goes p e below s _ _ _ (T39.setTop (mkF m 142 #[.val (.long q0), .second, .val (.int p1), .val (.int p2), .val (.int p3), .val (.int p4), .val (.int p5), .val (.long t0), .second, .val (.long ee), .second, .val (.long d1), .second, .val (.long d2), .second, .val (.long d3), .second, .val (.int fe), .val (.int me), .val (.ref b27), .val (.long (t0 + ee)), .second, .val (.long ((t0 + ee) + d1)), .second, .val (.long (((t0 + ee) + d1) + d2)), .second, .unset, .unset, .unset, .unset, .unset, .unset, .unset] [(.int (0 : Int32))]))
          refine Goes.st (fun t_ k_ => XS.pop X39.here hx rfl (hb hby at_142) rfl rfl k_) ?_
          show Goes p e below s _ _ _ (T39.setTop (mkF m 143 #[.val (.long q0), .second, .val (.int p1), .val (.int p2), .val (.int p3), .val (.int p4), .val (.int p5), .val (.long t0), .second, .val (.long ee), .second, .val (.long d1), .second, .val (.long d2), .second, .val (.long d3), .second, .val (.int fe), .val (.int me), .val (.ref b27), .val (.long (t0 + ee)), .second, .val (.long ((t0 + ee) + d1)), .second, .val (.long (((t0 + ee) + d1) + d2)), .second, .unset, .unset, .unset, .unset, .unset, .unset, .unset] []))
          refine Goes.st (fun t_ k_ => XS.lload X39.here hx rfl (hb hby at_143) rfl  k_) ?_
          show Goes p e below s _ _ _ (T39.setTop (mkF m 145 #[.val (.long q0), .second, .val (.int p1), .val (.int p2), .val (.int p3), .val (.int p4), .val (.int p5), .val (.long t0), .second, .val (.long ee), .second, .val (.long d1), .second, .val (.long d2), .second, .val (.long d3), .second, .val (.int fe), .val (.int me), .val (.ref b27), .val (.long (t0 + ee)), .second, .val (.long ((t0 + ee) + d1)), .second, .val (.long (((t0 + ee) + d1) + d2)), .second, .unset, .unset, .unset, .unset, .unset, .unset, .unset] [(.long (((t0 + ee) + d1) + d2))]))
          refine Goes.st (fun t_ k_ => XS.lload X39.here hx rfl (hb hby at_145) rfl  k_) ?_
          show Goes p e below s _ _ _ (T39.setTop (mkF m 147 #[.val (.long q0), .second, .val (.int p1), .val (.int p2), .val (.int p3), .val (.int p4), .val (.int p5), .val (.long t0), .second, .val (.long ee), .second, .val (.long d1), .second, .val (.long d2), .second, .val (.long d3), .second, .val (.int fe), .val (.int me), .val (.ref b27), .val (.long (t0 + ee)), .second, .val (.long ((t0 + ee) + d1)), .second, .val (.long (((t0 + ee) + d1) + d2)), .second, .unset, .unset, .unset, .unset, .unset, .unset, .unset] [(.long d3), (.long (((t0 + ee) + d1) + d2))]))
          refine Goes.st (fun t_ k_ => XS.ladd X39.here hx rfl (hb hby at_147) rfl k_) ?_
          show Goes p e below s _ _ _ (T39.setTop (mkF m 148 #[.val (.long q0), .second, .val (.int p1), .val (.int p2), .val (.int p3), .val (.int p4), .val (.int p5), .val (.long t0), .second, .val (.long ee), .second, .val (.long d1), .second, .val (.long d2), .second, .val (.long d3), .second, .val (.int fe), .val (.int me), .val (.ref b27), .val (.long (t0 + ee)), .second, .val (.long ((t0 + ee) + d1)), .second, .val (.long (((t0 + ee) + d1) + d2)), .second, .unset, .unset, .unset, .unset, .unset, .unset, .unset] [(.long ((((t0 + ee) + d1) + d2) + d3))]))
          refine Goes.st (fun t_ k_ => XS.lstore X39.here hx rfl (hb hby at_148) rfl  (l' := #[.val (.long q0), .second, .val (.int p1), .val (.int p2), .val (.int p3), .val (.int p4), .val (.int p5), .val (.long t0), .second, .val (.long ee), .second, .val (.long d1), .second, .val (.long d2), .second, .val (.long d3), .second, .val (.int fe), .val (.int me), .val (.ref b27), .val (.long (t0 + ee)), .second, .val (.long ((t0 + ee) + d1)), .second, .val (.long (((t0 + ee) + d1) + d2)), .second, .val (.long ((((t0 + ee) + d1) + d2) + d3)), .second, .unset, .unset, .unset, .unset, .unset]) rfl k_) ?_
          show Goes p e below s _ _ _ (T39.setTop (mkF m 150 #[.val (.long q0), .second, .val (.int p1), .val (.int p2), .val (.int p3), .val (.int p4), .val (.int p5), .val (.long t0), .second, .val (.long ee), .second, .val (.long d1), .second, .val (.long d2), .second, .val (.long d3), .second, .val (.int fe), .val (.int me), .val (.ref b27), .val (.long (t0 + ee)), .second, .val (.long ((t0 + ee) + d1)), .second, .val (.long (((t0 + ee) + d1) + d2)), .second, .val (.long ((((t0 + ee) + d1) + d2) + d3)), .second, .unset, .unset, .unset, .unset, .unset] []))
          refine Goes.st (fun t_ k_ => XS.aload X39.here hx rfl (hb hby at_150) rfl rfl k_) ?_
          show Goes p e below s _ _ _ (T39.setTop (mkF m 152 #[.val (.long q0), .second, .val (.int p1), .val (.int p2), .val (.int p3), .val (.int p4), .val (.int p5), .val (.long t0), .second, .val (.long ee), .second, .val (.long d1), .second, .val (.long d2), .second, .val (.long d3), .second, .val (.int fe), .val (.int me), .val (.ref b27), .val (.long (t0 + ee)), .second, .val (.long ((t0 + ee) + d1)), .second, .val (.long (((t0 + ee) + d1) + d2)), .second, .val (.long ((((t0 + ee) + d1) + d2) + d3)), .second, .unset, .unset, .unset, .unset, .unset] [(.ref b27)]))
          refine Goes.st (fun t_ k_ => XS.lload X39.here hx rfl (hb hby at_152) rfl  k_) ?_
          show Goes p e below s _ _ _ (T39.setTop (mkF m 154 #[.val (.long q0), .second, .val (.int p1), .val (.int p2), .val (.int p3), .val (.int p4), .val (.int p5), .val (.long t0), .second, .val (.long ee), .second, .val (.long d1), .second, .val (.long d2), .second, .val (.long d3), .second, .val (.int fe), .val (.int me), .val (.ref b27), .val (.long (t0 + ee)), .second, .val (.long ((t0 + ee) + d1)), .second, .val (.long (((t0 + ee) + d1) + d2)), .second, .val (.long ((((t0 + ee) + d1) + d2) + d3)), .second, .unset, .unset, .unset, .unset, .unset] [(.long ((((t0 + ee) + d1) + d2) + d3)), (.ref b27)]))
          obtain ⟨cq40, kq40, q40a, q40b, q40c⟩ := isOf hZ rfl E_b27
          obtain ⟨_, _, ⟨T40, L40, k40, n40⟩, -, X40, ⟨Lc40, hQ40, l40, y40, z40⟩, st40⟩ := X39.virtualBack hx (y := (⟨"com/example/delaunet/delaunet/core/sim/Pace", "end", "(J)V"⟩ : MethodName)) (z := (⟨"com/example/delaunet/delaunet/core/sim/Pace", "end", "(J)V"⟩ : MethodName)) hown (mvT hZ (hw _ (List.mem_of_getElem? (i := 42) rfl))) (mvT hZ (hw _ (List.mem_of_getElem? (i := 34) rfl))) (notFace_of_selects (args := #[]) (mvT hZ (hw _ (List.mem_of_getElem? (i := 36) rfl)))) (mvT hZ (hw _ (List.mem_of_getElem? (i := 36) rfl))) (mvT hZ (hw _ (List.mem_of_getElem? (i := 35) rfl))) (by decide) (backOf (W := 0) (own_rmE l Z a0 hw [] b27 ((((t0 + ee) + d1) + d2) + d3) 3 (0 + ((((t0 + ee) + d1) + d2) - (t0 + ee))) (((t0 + ee) + d1) + d2) ((0 + ((((t0 + ee) + d1) + d2) - (t0 + ee))) + (((((t0 + ee) + d1) + d2) + d3) - (((t0 + ee) + d1) + d2))) T39.heap n0 Z30'' HP (by simp [own_sp, own_nn ht2.1]) gn_b27) hZ (hw _ (List.mem_of_getElem? (i := 37) rfl)) (hw _ (List.mem_of_getElem? (i := 4) rfl)) (by decide) (by decide)) q40a q40c (g := (mkF m 154 #[.val (.long q0), .second, .val (.int p1), .val (.int p2), .val (.int p3), .val (.int p4), .val (.int p5), .val (.long t0), .second, .val (.long ee), .second, .val (.long d1), .second, .val (.long d2), .second, .val (.long d3), .second, .val (.int fe), .val (.int me), .val (.ref b27), .val (.long (t0 + ee)), .second, .val (.long ((t0 + ee) + d1)), .second, .val (.long (((t0 + ee) + d1) + d2)), .second, .val (.long ((((t0 + ee) + d1) + d2) + d3)), .second, .unset, .unset, .unset, .unset, .unset] [(.long ((((t0 + ee) + d1) + d2) + d3)), (.ref b27)])) rfl (by rw [hml]; rfl) (Steps.refl _) (argsL := [(.long ((((t0 + ee) + d1) + d2) + d3))]) (rest := []) (lenOf own_pd65 rfl) rfl (by show 2 * 0 + _ ≤ _; exact Nat.le_of_eq rfl) (hb hby at_154) (fun _ _ => ⟨rfl, rfl, (by decide : 3 + 0 ≤ _), (by decide : 21 + 0 ≤ _)⟩)
          dsimp only [Pt.U, Pt.locs, Pt.cells, Pt.slots] at X40 l40 y40 z40 st40 hQ40
          subst l40 y40 z40
          obtain ⟨rfl, N40q, KE, HP⟩ := hQ40
          have N40 := Fr.app N39 N40q
          refine Goes.tr st40 ?_
          have Z30''' := Nat.le_trans Z30'' KE.1
          have HP' := HP
          obtain ⟨E_b27, Fs_b27, Fa_b27, Fd_b27, Fp_b27, Fi_b27⟩ := HP'
          show Goes p e below s _ _ _ (T40.setTop (mkF m 157 #[.val (.long q0), .second, .val (.int p1), .val (.int p2), .val (.int p3), .val (.int p4), .val (.int p5), .val (.long t0), .second, .val (.long ee), .second, .val (.long d1), .second, .val (.long d2), .second, .val (.long d3), .second, .val (.int fe), .val (.int me), .val (.ref b27), .val (.long (t0 + ee)), .second, .val (.long ((t0 + ee) + d1)), .second, .val (.long (((t0 + ee) + d1) + d2)), .second, .val (.long ((((t0 + ee) + d1) + d2) + d3)), .second, .unset, .unset, .unset, .unset, .unset] []))
          refine Goes.st (fun t_ k_ => XS.iload X40.here hx rfl (hb hby at_157) rfl  k_) ?_
          show Goes p e below s _ _ _ (T40.setTop (mkF m 159 #[.val (.long q0), .second, .val (.int p1), .val (.int p2), .val (.int p3), .val (.int p4), .val (.int p5), .val (.long t0), .second, .val (.long ee), .second, .val (.long d1), .second, .val (.long d2), .second, .val (.long d3), .second, .val (.int fe), .val (.int me), .val (.ref b27), .val (.long (t0 + ee)), .second, .val (.long ((t0 + ee) + d1)), .second, .val (.long (((t0 + ee) + d1) + d2)), .second, .val (.long ((((t0 + ee) + d1) + d2) + d3)), .second, .unset, .unset, .unset, .unset, .unset] [(.int me)]))
          refine Goes.st (fun t_ k_ => XS.ifYes X40.here hx rfl (pc0 := 159) (pc' := 170) rfl (hb hby at_159) rfl ((if0 _ _).trans (teq hme).1) (by decide) (by decide) k_) ?_
          show Goes p e below s _ _ _ (T40.setTop (mkF m 170 #[.val (.long q0), .second, .val (.int p1), .val (.int p2), .val (.int p3), .val (.int p4), .val (.int p5), .val (.long t0), .second, .val (.long ee), .second, .val (.long d1), .second, .val (.long d2), .second, .val (.long d3), .second, .val (.int fe), .val (.int me), .val (.ref b27), .val (.long (t0 + ee)), .second, .val (.long ((t0 + ee) + d1)), .second, .val (.long (((t0 + ee) + d1) + d2)), .second, .val (.long ((((t0 + ee) + d1) + d2) + d3)), .second, .unset, .unset, .unset, .unset, .unset] []))
          refine Goes.st (fun t_ k_ => XS.lload X40.here hx rfl (hb hby at_170) rfl  k_) ?_
          show Goes p e below s _ _ _ (T40.setTop (mkF m 172 #[.val (.long q0), .second, .val (.int p1), .val (.int p2), .val (.int p3), .val (.int p4), .val (.int p5), .val (.long t0), .second, .val (.long ee), .second, .val (.long d1), .second, .val (.long d2), .second, .val (.long d3), .second, .val (.int fe), .val (.int me), .val (.ref b27), .val (.long (t0 + ee)), .second, .val (.long ((t0 + ee) + d1)), .second, .val (.long (((t0 + ee) + d1) + d2)), .second, .val (.long ((((t0 + ee) + d1) + d2) + d3)), .second, .unset, .unset, .unset, .unset, .unset] [(.long d1)]))
          refine Goes.st (fun t_ k_ => XS.lload X40.here hx rfl (hb hby at_172) rfl  k_) ?_
          show Goes p e below s _ _ _ (T40.setTop (mkF m 174 #[.val (.long q0), .second, .val (.int p1), .val (.int p2), .val (.int p3), .val (.int p4), .val (.int p5), .val (.long t0), .second, .val (.long ee), .second, .val (.long d1), .second, .val (.long d2), .second, .val (.long d3), .second, .val (.int fe), .val (.int me), .val (.ref b27), .val (.long (t0 + ee)), .second, .val (.long ((t0 + ee) + d1)), .second, .val (.long (((t0 + ee) + d1) + d2)), .second, .val (.long ((((t0 + ee) + d1) + d2) + d3)), .second, .unset, .unset, .unset, .unset, .unset] [(.long d2), (.long d1)]))
          refine Goes.st (fun t_ k_ => XS.ladd X40.here hx rfl (hb hby at_174) rfl k_) ?_
          show Goes p e below s _ _ _ (T40.setTop (mkF m 175 #[.val (.long q0), .second, .val (.int p1), .val (.int p2), .val (.int p3), .val (.int p4), .val (.int p5), .val (.long t0), .second, .val (.long ee), .second, .val (.long d1), .second, .val (.long d2), .second, .val (.long d3), .second, .val (.int fe), .val (.int me), .val (.ref b27), .val (.long (t0 + ee)), .second, .val (.long ((t0 + ee) + d1)), .second, .val (.long (((t0 + ee) + d1) + d2)), .second, .val (.long ((((t0 + ee) + d1) + d2) + d3)), .second, .unset, .unset, .unset, .unset, .unset] [(.long (d1 + d2))]))
          refine Goes.st (fun t_ k_ => XS.lload X40.here hx rfl (hb hby at_175) rfl  k_) ?_
          show Goes p e below s _ _ _ (T40.setTop (mkF m 177 #[.val (.long q0), .second, .val (.int p1), .val (.int p2), .val (.int p3), .val (.int p4), .val (.int p5), .val (.long t0), .second, .val (.long ee), .second, .val (.long d1), .second, .val (.long d2), .second, .val (.long d3), .second, .val (.int fe), .val (.int me), .val (.ref b27), .val (.long (t0 + ee)), .second, .val (.long ((t0 + ee) + d1)), .second, .val (.long (((t0 + ee) + d1) + d2)), .second, .val (.long ((((t0 + ee) + d1) + d2) + d3)), .second, .unset, .unset, .unset, .unset, .unset] [(.long d3), (.long (d1 + d2))]))
          refine Goes.st (fun t_ k_ => XS.ladd X40.here hx rfl (hb hby at_177) rfl k_) ?_
          show Goes p e below s _ _ _ (T40.setTop (mkF m 178 #[.val (.long q0), .second, .val (.int p1), .val (.int p2), .val (.int p3), .val (.int p4), .val (.int p5), .val (.long t0), .second, .val (.long ee), .second, .val (.long d1), .second, .val (.long d2), .second, .val (.long d3), .second, .val (.int fe), .val (.int me), .val (.ref b27), .val (.long (t0 + ee)), .second, .val (.long ((t0 + ee) + d1)), .second, .val (.long (((t0 + ee) + d1) + d2)), .second, .val (.long ((((t0 + ee) + d1) + d2) + d3)), .second, .unset, .unset, .unset, .unset, .unset] [(.long ((d1 + d2) + d3))]))
          exact hj4 _ _ _ (((t0 + ee) + d1) + d2) ((((t0 + ee) + d1) + d2) + d3) _ _ X40 rfl N40 Z30''' E_b27 Fs_b27 Fa_b27 Fd_b27 Fp_b27 Fi_b27    (own_sumA _ _ _ _)
        · refine Goes.st (fun t_ k_ => XS.ifNo X31.here hx rfl (hb hby at_118) rfl ((if0 _ _).trans (feq hme).1) k_) ?_
          show Goes p e below s _ _ _ (T31.setTop (mkF m 121 #[.val (.long q0), .second, .val (.int p1), .val (.int p2), .val (.int p3), .val (.int p4), .val (.int p5), .val (.long t0), .second, .val (.long ee), .second, .val (.long d1), .second, .val (.long d2), .second, .val (.long d3), .second, .val (.int fe), .val (.int me), .val (.ref b27), .val (.long (t0 + ee)), .second, .val (.long ((t0 + ee) + d1)), .second, .unset, .unset, .unset, .unset, .unset, .unset, .unset, .unset, .unset] []))
          refine Goes.st (fun t_ k_ => XS.aload X31.here hx rfl (hb hby at_121) rfl rfl k_) ?_
          show Goes p e below s _ _ _ (T31.setTop (mkF m 123 #[.val (.long q0), .second, .val (.int p1), .val (.int p2), .val (.int p3), .val (.int p4), .val (.int p5), .val (.long t0), .second, .val (.long ee), .second, .val (.long d1), .second, .val (.long d2), .second, .val (.long d3), .second, .val (.int fe), .val (.int me), .val (.ref b27), .val (.long (t0 + ee)), .second, .val (.long ((t0 + ee) + d1)), .second, .unset, .unset, .unset, .unset, .unset, .unset, .unset, .unset, .unset] [(.ref b27)]))
          refine Goes.st (fun t_ k_ => XS.lload X31.here hx rfl (hb hby at_123) rfl  k_) ?_
          show Goes p e below s _ _ _ (T31.setTop (mkF m 125 #[.val (.long q0), .second, .val (.int p1), .val (.int p2), .val (.int p3), .val (.int p4), .val (.int p5), .val (.long t0), .second, .val (.long ee), .second, .val (.long d1), .second, .val (.long d2), .second, .val (.long d3), .second, .val (.int fe), .val (.int me), .val (.ref b27), .val (.long (t0 + ee)), .second, .val (.long ((t0 + ee) + d1)), .second, .unset, .unset, .unset, .unset, .unset, .unset, .unset, .unset, .unset] [(.long ((t0 + ee) + d1)), (.ref b27)]))
          obtain ⟨cq41, kq41, q41a, q41b, q41c⟩ := isOf hZ rfl E_b27
          obtain ⟨_, _, ⟨T41, L41, k41, n41⟩, -, X41, ⟨Lc41, hQ41, l41, y41, z41⟩, st41⟩ := X31.virtualBack hx (y := (⟨"com/example/delaunet/delaunet/core/sim/Pace", "end", "(J)V"⟩ : MethodName)) (z := (⟨"com/example/delaunet/delaunet/core/sim/Pace", "end", "(J)V"⟩ : MethodName)) hown (mvT hZ (hw _ (List.mem_of_getElem? (i := 42) rfl))) (mvT hZ (hw _ (List.mem_of_getElem? (i := 34) rfl))) (notFace_of_selects (args := #[]) (mvT hZ (hw _ (List.mem_of_getElem? (i := 36) rfl)))) (mvT hZ (hw _ (List.mem_of_getElem? (i := 36) rfl))) (mvT hZ (hw _ (List.mem_of_getElem? (i := 35) rfl))) (by decide) (backOf (W := 0) (own_rmE l Z a0 hw [] b27 ((t0 + ee) + d1) 2 0 (t0 + ee) (0 + (((t0 + ee) + d1) - (t0 + ee))) T31.heap n0 Z30' HP (by simp [own_sp, own_nn ht1.1]) gn_b27) hZ (hw _ (List.mem_of_getElem? (i := 37) rfl)) (hw _ (List.mem_of_getElem? (i := 4) rfl)) (by decide) (by decide)) q41a q41c (g := (mkF m 125 #[.val (.long q0), .second, .val (.int p1), .val (.int p2), .val (.int p3), .val (.int p4), .val (.int p5), .val (.long t0), .second, .val (.long ee), .second, .val (.long d1), .second, .val (.long d2), .second, .val (.long d3), .second, .val (.int fe), .val (.int me), .val (.ref b27), .val (.long (t0 + ee)), .second, .val (.long ((t0 + ee) + d1)), .second, .unset, .unset, .unset, .unset, .unset, .unset, .unset, .unset, .unset] [(.long ((t0 + ee) + d1)), (.ref b27)])) rfl (by rw [hml]; rfl) (Steps.refl _) (argsL := [(.long ((t0 + ee) + d1))]) (rest := []) (lenOf own_pd65 rfl) rfl (by show 2 * 0 + _ ≤ _; exact Nat.le_of_eq rfl) (hb hby at_125) (fun _ _ => ⟨rfl, rfl, (by decide : 3 + 0 ≤ _), (by decide : 21 + 0 ≤ _)⟩)
          dsimp only [Pt.U, Pt.locs, Pt.cells, Pt.slots] at X41 l41 y41 z41 st41 hQ41
          subst l41 y41 z41
          obtain ⟨rfl, N41q, KE, HP⟩ := hQ41
          have N41 := Fr.app N31 N41q
          refine Goes.tr st41 ?_
          have Z30'' := Nat.le_trans Z30' KE.1
          have HP' := HP
          obtain ⟨E_b27, Fs_b27, Fa_b27, Fd_b27, Fp_b27, Fi_b27⟩ := HP'
          show Goes p e below s _ _ _ (T41.setTop (mkF m 128 #[.val (.long q0), .second, .val (.int p1), .val (.int p2), .val (.int p3), .val (.int p4), .val (.int p5), .val (.long t0), .second, .val (.long ee), .second, .val (.long d1), .second, .val (.long d2), .second, .val (.long d3), .second, .val (.int fe), .val (.int me), .val (.ref b27), .val (.long (t0 + ee)), .second, .val (.long ((t0 + ee) + d1)), .second, .unset, .unset, .unset, .unset, .unset, .unset, .unset, .unset, .unset] []))
          refine Goes.st (fun t_ k_ => XS.lload X41.here hx rfl (hb hby at_128) rfl  k_) ?_
          show Goes p e below s _ _ _ (T41.setTop (mkF m 130 #[.val (.long q0), .second, .val (.int p1), .val (.int p2), .val (.int p3), .val (.int p4), .val (.int p5), .val (.long t0), .second, .val (.long ee), .second, .val (.long d1), .second, .val (.long d2), .second, .val (.long d3), .second, .val (.int fe), .val (.int me), .val (.ref b27), .val (.long (t0 + ee)), .second, .val (.long ((t0 + ee) + d1)), .second, .unset, .unset, .unset, .unset, .unset, .unset, .unset, .unset, .unset] [(.long ((t0 + ee) + d1))]))
          refine Goes.st (fun t_ k_ => XS.lload X41.here hx rfl (hb hby at_130) rfl  k_) ?_
          show Goes p e below s _ _ _ (T41.setTop (mkF m 132 #[.val (.long q0), .second, .val (.int p1), .val (.int p2), .val (.int p3), .val (.int p4), .val (.int p5), .val (.long t0), .second, .val (.long ee), .second, .val (.long d1), .second, .val (.long d2), .second, .val (.long d3), .second, .val (.int fe), .val (.int me), .val (.ref b27), .val (.long (t0 + ee)), .second, .val (.long ((t0 + ee) + d1)), .second, .unset, .unset, .unset, .unset, .unset, .unset, .unset, .unset, .unset] [(.long d2), (.long ((t0 + ee) + d1))]))
          refine Goes.st (fun t_ k_ => XS.ladd X41.here hx rfl (hb hby at_132) rfl k_) ?_
          show Goes p e below s _ _ _ (T41.setTop (mkF m 133 #[.val (.long q0), .second, .val (.int p1), .val (.int p2), .val (.int p3), .val (.int p4), .val (.int p5), .val (.long t0), .second, .val (.long ee), .second, .val (.long d1), .second, .val (.long d2), .second, .val (.long d3), .second, .val (.int fe), .val (.int me), .val (.ref b27), .val (.long (t0 + ee)), .second, .val (.long ((t0 + ee) + d1)), .second, .unset, .unset, .unset, .unset, .unset, .unset, .unset, .unset, .unset] [(.long (((t0 + ee) + d1) + d2))]))
          refine Goes.st (fun t_ k_ => XS.lstore X41.here hx rfl (hb hby at_133) rfl  (l' := #[.val (.long q0), .second, .val (.int p1), .val (.int p2), .val (.int p3), .val (.int p4), .val (.int p5), .val (.long t0), .second, .val (.long ee), .second, .val (.long d1), .second, .val (.long d2), .second, .val (.long d3), .second, .val (.int fe), .val (.int me), .val (.ref b27), .val (.long (t0 + ee)), .second, .val (.long ((t0 + ee) + d1)), .second, .val (.long (((t0 + ee) + d1) + d2)), .second, .unset, .unset, .unset, .unset, .unset, .unset, .unset]) rfl k_) ?_
          show Goes p e below s _ _ _ (T41.setTop (mkF m 135 #[.val (.long q0), .second, .val (.int p1), .val (.int p2), .val (.int p3), .val (.int p4), .val (.int p5), .val (.long t0), .second, .val (.long ee), .second, .val (.long d1), .second, .val (.long d2), .second, .val (.long d3), .second, .val (.int fe), .val (.int me), .val (.ref b27), .val (.long (t0 + ee)), .second, .val (.long ((t0 + ee) + d1)), .second, .val (.long (((t0 + ee) + d1) + d2)), .second, .unset, .unset, .unset, .unset, .unset, .unset, .unset] []))
          refine Goes.st (fun t_ k_ => XS.aload X41.here hx rfl (hb hby at_135) rfl rfl k_) ?_
          show Goes p e below s _ _ _ (T41.setTop (mkF m 137 #[.val (.long q0), .second, .val (.int p1), .val (.int p2), .val (.int p3), .val (.int p4), .val (.int p5), .val (.long t0), .second, .val (.long ee), .second, .val (.long d1), .second, .val (.long d2), .second, .val (.long d3), .second, .val (.int fe), .val (.int me), .val (.ref b27), .val (.long (t0 + ee)), .second, .val (.long ((t0 + ee) + d1)), .second, .val (.long (((t0 + ee) + d1) + d2)), .second, .unset, .unset, .unset, .unset, .unset, .unset, .unset] [(.ref b27)]))
          refine Goes.st (fun t_ k_ => XS.lload X41.here hx rfl (hb hby at_137) rfl  k_) ?_
          show Goes p e below s _ _ _ (T41.setTop (mkF m 139 #[.val (.long q0), .second, .val (.int p1), .val (.int p2), .val (.int p3), .val (.int p4), .val (.int p5), .val (.long t0), .second, .val (.long ee), .second, .val (.long d1), .second, .val (.long d2), .second, .val (.long d3), .second, .val (.int fe), .val (.int me), .val (.ref b27), .val (.long (t0 + ee)), .second, .val (.long ((t0 + ee) + d1)), .second, .val (.long (((t0 + ee) + d1) + d2)), .second, .unset, .unset, .unset, .unset, .unset, .unset, .unset] [(.long (((t0 + ee) + d1) + d2)), (.ref b27)]))
          obtain ⟨cq42, kq42, q42a, q42b, q42c⟩ := isOf hZ rfl E_b27
          obtain ⟨_, _, ⟨T42, L42, k42, n42⟩, -, X42, ⟨Lc42, hQ42, l42, y42, z42⟩, st42⟩ := X41.virtualBack hx (y := (⟨"com/example/delaunet/delaunet/core/sim/Pace", "start", "(J)Z"⟩ : MethodName)) (z := (⟨"com/example/delaunet/delaunet/core/sim/Pace", "start", "(J)Z"⟩ : MethodName)) hown (mvT hZ (hw _ (List.mem_of_getElem? (i := 19) rfl))) (mvT hZ (hw _ (List.mem_of_getElem? (i := 20) rfl))) (notFace_of_selects (args := #[]) (mvT hZ (hw _ (List.mem_of_getElem? (i := 22) rfl)))) (mvT hZ (hw _ (List.mem_of_getElem? (i := 22) rfl))) (mvT hZ (hw _ (List.mem_of_getElem? (i := 21) rfl))) (by decide) (backOf (W := 0) (own_rmS l Z a0 hw [] b27 (((t0 + ee) + d1) + d2) 2 (0 + (((t0 + ee) + d1) - (t0 + ee))) (-1) (0 + (((t0 + ee) + d1) - (t0 + ee))) T41.heap n0 Z30'' HP (own_dS (by decide) (by decide)) (by simp [own_sp]) gn_b27) hZ (hw _ (List.mem_of_getElem? (i := 23) rfl)) (hw _ (List.mem_of_getElem? (i := 4) rfl)) (by decide) (by decide)) q42a q42c (g := (mkF m 139 #[.val (.long q0), .second, .val (.int p1), .val (.int p2), .val (.int p3), .val (.int p4), .val (.int p5), .val (.long t0), .second, .val (.long ee), .second, .val (.long d1), .second, .val (.long d2), .second, .val (.long d3), .second, .val (.int fe), .val (.int me), .val (.ref b27), .val (.long (t0 + ee)), .second, .val (.long ((t0 + ee) + d1)), .second, .val (.long (((t0 + ee) + d1) + d2)), .second, .unset, .unset, .unset, .unset, .unset, .unset, .unset] [(.long (((t0 + ee) + d1) + d2)), (.ref b27)])) rfl (by rw [hml]; rfl) (Steps.refl _) (argsL := [(.long (((t0 + ee) + d1) + d2))]) (rest := []) (lenOf own_pd84 rfl) rfl (by show 2 * 0 + _ ≤ _; exact Nat.le_of_eq rfl) (hb hby at_139) (fun _ _ => ⟨rfl, rfl, (by decide : 3 + 0 ≤ _), (by decide : 21 + 0 ≤ _)⟩)
          dsimp only [Pt.U, Pt.locs, Pt.cells, Pt.slots] at X42 l42 y42 z42 st42 hQ42
          subst l42 y42 z42
          obtain ⟨rfl, N42q, KS, HP⟩ := hQ42
          have N42 := Fr.app N41 N42q
          refine Goes.tr st42 ?_
          have Z30''' := Nat.le_trans Z30'' KS.1
          have HP : own_P Z _ b27 3 (0 + (((t0 + ee) + d1) - (t0 + ee))) (((t0 + ee) + d1) + d2) := HP
          have HP' := HP
          obtain ⟨E_b27, Fs_b27, Fa_b27, Fd_b27, Fp_b27, Fi_b27⟩ := HP'
          have ht2 := own_t2 (by decide) (own_t2 (by decide) ht1 hb_d1) hb_d2
          show Goes p e below s _ _ _ (T42.setTop (mkF m 142 #[.val (.long q0), .second, .val (.int p1), .val (.int p2), .val (.int p3), .val (.int p4), .val (.int p5), .val (.long t0), .second, .val (.long ee), .second, .val (.long d1), .second, .val (.long d2), .second, .val (.long d3), .second, .val (.int fe), .val (.int me), .val (.ref b27), .val (.long (t0 + ee)), .second, .val (.long ((t0 + ee) + d1)), .second, .val (.long (((t0 + ee) + d1) + d2)), .second, .unset, .unset, .unset, .unset, .unset, .unset, .unset] [(.int (0 : Int32))]))
          refine Goes.st (fun t_ k_ => XS.pop X42.here hx rfl (hb hby at_142) rfl rfl k_) ?_
          show Goes p e below s _ _ _ (T42.setTop (mkF m 143 #[.val (.long q0), .second, .val (.int p1), .val (.int p2), .val (.int p3), .val (.int p4), .val (.int p5), .val (.long t0), .second, .val (.long ee), .second, .val (.long d1), .second, .val (.long d2), .second, .val (.long d3), .second, .val (.int fe), .val (.int me), .val (.ref b27), .val (.long (t0 + ee)), .second, .val (.long ((t0 + ee) + d1)), .second, .val (.long (((t0 + ee) + d1) + d2)), .second, .unset, .unset, .unset, .unset, .unset, .unset, .unset] []))
          refine Goes.st (fun t_ k_ => XS.lload X42.here hx rfl (hb hby at_143) rfl  k_) ?_
          show Goes p e below s _ _ _ (T42.setTop (mkF m 145 #[.val (.long q0), .second, .val (.int p1), .val (.int p2), .val (.int p3), .val (.int p4), .val (.int p5), .val (.long t0), .second, .val (.long ee), .second, .val (.long d1), .second, .val (.long d2), .second, .val (.long d3), .second, .val (.int fe), .val (.int me), .val (.ref b27), .val (.long (t0 + ee)), .second, .val (.long ((t0 + ee) + d1)), .second, .val (.long (((t0 + ee) + d1) + d2)), .second, .unset, .unset, .unset, .unset, .unset, .unset, .unset] [(.long (((t0 + ee) + d1) + d2))]))
          refine Goes.st (fun t_ k_ => XS.lload X42.here hx rfl (hb hby at_145) rfl  k_) ?_
          show Goes p e below s _ _ _ (T42.setTop (mkF m 147 #[.val (.long q0), .second, .val (.int p1), .val (.int p2), .val (.int p3), .val (.int p4), .val (.int p5), .val (.long t0), .second, .val (.long ee), .second, .val (.long d1), .second, .val (.long d2), .second, .val (.long d3), .second, .val (.int fe), .val (.int me), .val (.ref b27), .val (.long (t0 + ee)), .second, .val (.long ((t0 + ee) + d1)), .second, .val (.long (((t0 + ee) + d1) + d2)), .second, .unset, .unset, .unset, .unset, .unset, .unset, .unset] [(.long d3), (.long (((t0 + ee) + d1) + d2))]))
          refine Goes.st (fun t_ k_ => XS.ladd X42.here hx rfl (hb hby at_147) rfl k_) ?_
          show Goes p e below s _ _ _ (T42.setTop (mkF m 148 #[.val (.long q0), .second, .val (.int p1), .val (.int p2), .val (.int p3), .val (.int p4), .val (.int p5), .val (.long t0), .second, .val (.long ee), .second, .val (.long d1), .second, .val (.long d2), .second, .val (.long d3), .second, .val (.int fe), .val (.int me), .val (.ref b27), .val (.long (t0 + ee)), .second, .val (.long ((t0 + ee) + d1)), .second, .val (.long (((t0 + ee) + d1) + d2)), .second, .unset, .unset, .unset, .unset, .unset, .unset, .unset] [(.long ((((t0 + ee) + d1) + d2) + d3))]))
          refine Goes.st (fun t_ k_ => XS.lstore X42.here hx rfl (hb hby at_148) rfl  (l' := #[.val (.long q0), .second, .val (.int p1), .val (.int p2), .val (.int p3), .val (.int p4), .val (.int p5), .val (.long t0), .second, .val (.long ee), .second, .val (.long d1), .second, .val (.long d2), .second, .val (.long d3), .second, .val (.int fe), .val (.int me), .val (.ref b27), .val (.long (t0 + ee)), .second, .val (.long ((t0 + ee) + d1)), .second, .val (.long (((t0 + ee) + d1) + d2)), .second, .val (.long ((((t0 + ee) + d1) + d2) + d3)), .second, .unset, .unset, .unset, .unset, .unset]) rfl k_) ?_
          show Goes p e below s _ _ _ (T42.setTop (mkF m 150 #[.val (.long q0), .second, .val (.int p1), .val (.int p2), .val (.int p3), .val (.int p4), .val (.int p5), .val (.long t0), .second, .val (.long ee), .second, .val (.long d1), .second, .val (.long d2), .second, .val (.long d3), .second, .val (.int fe), .val (.int me), .val (.ref b27), .val (.long (t0 + ee)), .second, .val (.long ((t0 + ee) + d1)), .second, .val (.long (((t0 + ee) + d1) + d2)), .second, .val (.long ((((t0 + ee) + d1) + d2) + d3)), .second, .unset, .unset, .unset, .unset, .unset] []))
          refine Goes.st (fun t_ k_ => XS.aload X42.here hx rfl (hb hby at_150) rfl rfl k_) ?_
          show Goes p e below s _ _ _ (T42.setTop (mkF m 152 #[.val (.long q0), .second, .val (.int p1), .val (.int p2), .val (.int p3), .val (.int p4), .val (.int p5), .val (.long t0), .second, .val (.long ee), .second, .val (.long d1), .second, .val (.long d2), .second, .val (.long d3), .second, .val (.int fe), .val (.int me), .val (.ref b27), .val (.long (t0 + ee)), .second, .val (.long ((t0 + ee) + d1)), .second, .val (.long (((t0 + ee) + d1) + d2)), .second, .val (.long ((((t0 + ee) + d1) + d2) + d3)), .second, .unset, .unset, .unset, .unset, .unset] [(.ref b27)]))
          refine Goes.st (fun t_ k_ => XS.lload X42.here hx rfl (hb hby at_152) rfl  k_) ?_
          show Goes p e below s _ _ _ (T42.setTop (mkF m 154 #[.val (.long q0), .second, .val (.int p1), .val (.int p2), .val (.int p3), .val (.int p4), .val (.int p5), .val (.long t0), .second, .val (.long ee), .second, .val (.long d1), .second, .val (.long d2), .second, .val (.long d3), .second, .val (.int fe), .val (.int me), .val (.ref b27), .val (.long (t0 + ee)), .second, .val (.long ((t0 + ee) + d1)), .second, .val (.long (((t0 + ee) + d1) + d2)), .second, .val (.long ((((t0 + ee) + d1) + d2) + d3)), .second, .unset, .unset, .unset, .unset, .unset] [(.long ((((t0 + ee) + d1) + d2) + d3)), (.ref b27)]))
          obtain ⟨cq43, kq43, q43a, q43b, q43c⟩ := isOf hZ rfl E_b27
          obtain ⟨_, _, ⟨T43, L43, k43, n43⟩, -, X43, ⟨Lc43, hQ43, l43, y43, z43⟩, st43⟩ := X42.virtualBack hx (y := (⟨"com/example/delaunet/delaunet/core/sim/Pace", "end", "(J)V"⟩ : MethodName)) (z := (⟨"com/example/delaunet/delaunet/core/sim/Pace", "end", "(J)V"⟩ : MethodName)) hown (mvT hZ (hw _ (List.mem_of_getElem? (i := 42) rfl))) (mvT hZ (hw _ (List.mem_of_getElem? (i := 34) rfl))) (notFace_of_selects (args := #[]) (mvT hZ (hw _ (List.mem_of_getElem? (i := 36) rfl)))) (mvT hZ (hw _ (List.mem_of_getElem? (i := 36) rfl))) (mvT hZ (hw _ (List.mem_of_getElem? (i := 35) rfl))) (by decide) (backOf (W := 0) (own_rmE l Z a0 hw [] b27 ((((t0 + ee) + d1) + d2) + d3) 3 (0 + (((t0 + ee) + d1) - (t0 + ee))) (((t0 + ee) + d1) + d2) ((0 + (((t0 + ee) + d1) - (t0 + ee))) + (((((t0 + ee) + d1) + d2) + d3) - (((t0 + ee) + d1) + d2))) T42.heap n0 Z30''' HP (by simp [own_sp, own_nn ht2.1]) gn_b27) hZ (hw _ (List.mem_of_getElem? (i := 37) rfl)) (hw _ (List.mem_of_getElem? (i := 4) rfl)) (by decide) (by decide)) q43a q43c (g := (mkF m 154 #[.val (.long q0), .second, .val (.int p1), .val (.int p2), .val (.int p3), .val (.int p4), .val (.int p5), .val (.long t0), .second, .val (.long ee), .second, .val (.long d1), .second, .val (.long d2), .second, .val (.long d3), .second, .val (.int fe), .val (.int me), .val (.ref b27), .val (.long (t0 + ee)), .second, .val (.long ((t0 + ee) + d1)), .second, .val (.long (((t0 + ee) + d1) + d2)), .second, .val (.long ((((t0 + ee) + d1) + d2) + d3)), .second, .unset, .unset, .unset, .unset, .unset] [(.long ((((t0 + ee) + d1) + d2) + d3)), (.ref b27)])) rfl (by rw [hml]; rfl) (Steps.refl _) (argsL := [(.long ((((t0 + ee) + d1) + d2) + d3))]) (rest := []) (lenOf own_pd65 rfl) rfl (by show 2 * 0 + _ ≤ _; exact Nat.le_of_eq rfl) (hb hby at_154) (fun _ _ => ⟨rfl, rfl, (by decide : 3 + 0 ≤ _), (by decide : 21 + 0 ≤ _)⟩)
          dsimp only [Pt.U, Pt.locs, Pt.cells, Pt.slots] at X43 l43 y43 z43 st43 hQ43
          subst l43 y43 z43
          obtain ⟨rfl, N43q, KE, HP⟩ := hQ43
          have N43 := Fr.app N42 N43q
          refine Goes.tr st43 ?_
          have Z30'''' := Nat.le_trans Z30''' KE.1
          have HP' := HP
          obtain ⟨E_b27, Fs_b27, Fa_b27, Fd_b27, Fp_b27, Fi_b27⟩ := HP'
          show Goes p e below s _ _ _ (T43.setTop (mkF m 157 #[.val (.long q0), .second, .val (.int p1), .val (.int p2), .val (.int p3), .val (.int p4), .val (.int p5), .val (.long t0), .second, .val (.long ee), .second, .val (.long d1), .second, .val (.long d2), .second, .val (.long d3), .second, .val (.int fe), .val (.int me), .val (.ref b27), .val (.long (t0 + ee)), .second, .val (.long ((t0 + ee) + d1)), .second, .val (.long (((t0 + ee) + d1) + d2)), .second, .val (.long ((((t0 + ee) + d1) + d2) + d3)), .second, .unset, .unset, .unset, .unset, .unset] []))
          refine Goes.st (fun t_ k_ => XS.iload X43.here hx rfl (hb hby at_157) rfl  k_) ?_
          show Goes p e below s _ _ _ (T43.setTop (mkF m 159 #[.val (.long q0), .second, .val (.int p1), .val (.int p2), .val (.int p3), .val (.int p4), .val (.int p5), .val (.long t0), .second, .val (.long ee), .second, .val (.long d1), .second, .val (.long d2), .second, .val (.long d3), .second, .val (.int fe), .val (.int me), .val (.ref b27), .val (.long (t0 + ee)), .second, .val (.long ((t0 + ee) + d1)), .second, .val (.long (((t0 + ee) + d1) + d2)), .second, .val (.long ((((t0 + ee) + d1) + d2) + d3)), .second, .unset, .unset, .unset, .unset, .unset] [(.int me)]))
          refine Goes.st (fun t_ k_ => XS.ifNo X43.here hx rfl (hb hby at_159) rfl ((if0 _ _).trans (feq hme).1) k_) ?_
          show Goes p e below s _ _ _ (T43.setTop (mkF m 162 #[.val (.long q0), .second, .val (.int p1), .val (.int p2), .val (.int p3), .val (.int p4), .val (.int p5), .val (.long t0), .second, .val (.long ee), .second, .val (.long d1), .second, .val (.long d2), .second, .val (.long d3), .second, .val (.int fe), .val (.int me), .val (.ref b27), .val (.long (t0 + ee)), .second, .val (.long ((t0 + ee) + d1)), .second, .val (.long (((t0 + ee) + d1) + d2)), .second, .val (.long ((((t0 + ee) + d1) + d2) + d3)), .second, .unset, .unset, .unset, .unset, .unset] []))
          refine Goes.st (fun t_ k_ => XS.lload X43.here hx rfl (hb hby at_162) rfl  k_) ?_
          show Goes p e below s _ _ _ (T43.setTop (mkF m 164 #[.val (.long q0), .second, .val (.int p1), .val (.int p2), .val (.int p3), .val (.int p4), .val (.int p5), .val (.long t0), .second, .val (.long ee), .second, .val (.long d1), .second, .val (.long d2), .second, .val (.long d3), .second, .val (.int fe), .val (.int me), .val (.ref b27), .val (.long (t0 + ee)), .second, .val (.long ((t0 + ee) + d1)), .second, .val (.long (((t0 + ee) + d1) + d2)), .second, .val (.long ((((t0 + ee) + d1) + d2) + d3)), .second, .unset, .unset, .unset, .unset, .unset] [(.long d1)]))
          refine Goes.st (fun t_ k_ => XS.lload X43.here hx rfl (hb hby at_164) rfl  k_) ?_
          show Goes p e below s _ _ _ (T43.setTop (mkF m 166 #[.val (.long q0), .second, .val (.int p1), .val (.int p2), .val (.int p3), .val (.int p4), .val (.int p5), .val (.long t0), .second, .val (.long ee), .second, .val (.long d1), .second, .val (.long d2), .second, .val (.long d3), .second, .val (.int fe), .val (.int me), .val (.ref b27), .val (.long (t0 + ee)), .second, .val (.long ((t0 + ee) + d1)), .second, .val (.long (((t0 + ee) + d1) + d2)), .second, .val (.long ((((t0 + ee) + d1) + d2) + d3)), .second, .unset, .unset, .unset, .unset, .unset] [(.long d3), (.long d1)]))
          refine Goes.st (fun t_ k_ => XS.ladd X43.here hx rfl (hb hby at_166) rfl k_) ?_
          show Goes p e below s _ _ _ (T43.setTop (mkF m 167 #[.val (.long q0), .second, .val (.int p1), .val (.int p2), .val (.int p3), .val (.int p4), .val (.int p5), .val (.long t0), .second, .val (.long ee), .second, .val (.long d1), .second, .val (.long d2), .second, .val (.long d3), .second, .val (.int fe), .val (.int me), .val (.ref b27), .val (.long (t0 + ee)), .second, .val (.long ((t0 + ee) + d1)), .second, .val (.long (((t0 + ee) + d1) + d2)), .second, .val (.long ((((t0 + ee) + d1) + d2) + d3)), .second, .unset, .unset, .unset, .unset, .unset] [(.long (d1 + d3))]))
          refine Goes.st (fun t_ k_ => XS.goto X43.here hx rfl (pc0 := 167) (pc' := 178) rfl (hb hby at_167) (by decide) (by decide) k_) ?_
          show Goes p e below s _ _ _ (T43.setTop (mkF m 178 #[.val (.long q0), .second, .val (.int p1), .val (.int p2), .val (.int p3), .val (.int p4), .val (.int p5), .val (.long t0), .second, .val (.long ee), .second, .val (.long d1), .second, .val (.long d2), .second, .val (.long d3), .second, .val (.int fe), .val (.int me), .val (.ref b27), .val (.long (t0 + ee)), .second, .val (.long ((t0 + ee) + d1)), .second, .val (.long (((t0 + ee) + d1) + d2)), .second, .val (.long ((((t0 + ee) + d1) + d2) + d3)), .second, .unset, .unset, .unset, .unset, .unset] [(.long (d1 + d3))]))
          exact hj4 _ _ _ (((t0 + ee) + d1) + d2) ((((t0 + ee) + d1) + d2) + d3) _ _ X43 rfl N43 Z30'''' E_b27 Fs_b27 Fa_b27 Fd_b27 Fp_b27 Fi_b27    (own_sumB _ _ _ _)
      have HP : own_P Z _ b27 1 0 t0 := ⟨E_b27, Fs_b27, Fa_b27, Fd_b27, Fp_b27, Fi_b27⟩
      by_cases hfe : fe = (0 : Int32)
      · refine Goes.st (fun t_ k_ => XS.ifYes X29.here hx rfl (pc0 := 91) (pc' := 101) rfl (hb hby at_91) rfl ((if0 _ _).trans (teq hfe).1) (by decide) (by decide) k_) ?_
        exact hj3 _ _ _ t0 X29 rfl N29 Z26''' E_b27 Fs_b27 Fa_b27 Fd_b27 Fp_b27 Fi_b27    
      · refine Goes.st (fun t_ k_ => XS.ifNo X29.here hx rfl (hb hby at_91) rfl ((if0 _ _).trans (feq hfe).1) k_) ?_
        show Goes p e below s _ _ _ (T29.setTop (mkF m 94 #[.val (.long q0), .second, .val (.int p1), .val (.int p2), .val (.int p3), .val (.int p4), .val (.int p5), .val (.long t0), .second, .val (.long ee), .second, .val (.long d1), .second, .val (.long d2), .second, .val (.long d3), .second, .val (.int fe), .val (.int me), .val (.ref b27), .val (.long (t0 + ee)), .second, .unset, .unset, .unset, .unset, .unset, .unset, .unset, .unset, .unset, .unset, .unset] []))
        refine Goes.st (fun t_ k_ => XS.aload X29.here hx rfl (hb hby at_94) rfl rfl k_) ?_
        show Goes p e below s _ _ _ (T29.setTop (mkF m 96 #[.val (.long q0), .second, .val (.int p1), .val (.int p2), .val (.int p3), .val (.int p4), .val (.int p5), .val (.long t0), .second, .val (.long ee), .second, .val (.long d1), .second, .val (.long d2), .second, .val (.long d3), .second, .val (.int fe), .val (.int me), .val (.ref b27), .val (.long (t0 + ee)), .second, .unset, .unset, .unset, .unset, .unset, .unset, .unset, .unset, .unset, .unset, .unset] [(.ref b27)]))
        refine Goes.st (fun t_ k_ => XS.lload X29.here hx rfl (hb hby at_96) rfl  k_) ?_
        show Goes p e below s _ _ _ (T29.setTop (mkF m 98 #[.val (.long q0), .second, .val (.int p1), .val (.int p2), .val (.int p3), .val (.int p4), .val (.int p5), .val (.long t0), .second, .val (.long ee), .second, .val (.long d1), .second, .val (.long d2), .second, .val (.long d3), .second, .val (.int fe), .val (.int me), .val (.ref b27), .val (.long (t0 + ee)), .second, .unset, .unset, .unset, .unset, .unset, .unset, .unset, .unset, .unset, .unset, .unset] [(.long (t0 + ee)), (.ref b27)]))
        obtain ⟨cq44, kq44, q44a, q44b, q44c⟩ := isOf hZ rfl E_b27
        obtain ⟨_, _, ⟨T44, L44, k44, n44⟩, -, X44, ⟨Lc44, hQ44, l44, y44, z44⟩, st44⟩ := X29.virtualBack hx (y := (⟨"com/example/delaunet/delaunet/core/sim/Pace", "end", "(J)V"⟩ : MethodName)) (z := (⟨"com/example/delaunet/delaunet/core/sim/Pace", "end", "(J)V"⟩ : MethodName)) hown (mvT hZ (hw _ (List.mem_of_getElem? (i := 42) rfl))) (mvT hZ (hw _ (List.mem_of_getElem? (i := 34) rfl))) (notFace_of_selects (args := #[]) (mvT hZ (hw _ (List.mem_of_getElem? (i := 36) rfl)))) (mvT hZ (hw _ (List.mem_of_getElem? (i := 36) rfl))) (mvT hZ (hw _ (List.mem_of_getElem? (i := 35) rfl))) (by decide) (backOf (W := 0) (own_rmE l Z a0 hw [] b27 (t0 + ee) 1 0 t0 0 T29.heap n0 Z26''' HP (by simp [own_sp]) gn_b27) hZ (hw _ (List.mem_of_getElem? (i := 37) rfl)) (hw _ (List.mem_of_getElem? (i := 4) rfl)) (by decide) (by decide)) q44a q44c (g := (mkF m 98 #[.val (.long q0), .second, .val (.int p1), .val (.int p2), .val (.int p3), .val (.int p4), .val (.int p5), .val (.long t0), .second, .val (.long ee), .second, .val (.long d1), .second, .val (.long d2), .second, .val (.long d3), .second, .val (.int fe), .val (.int me), .val (.ref b27), .val (.long (t0 + ee)), .second, .unset, .unset, .unset, .unset, .unset, .unset, .unset, .unset, .unset, .unset, .unset] [(.long (t0 + ee)), (.ref b27)])) rfl (by rw [hml]; rfl) (Steps.refl _) (argsL := [(.long (t0 + ee))]) (rest := []) (lenOf own_pd65 rfl) rfl (by show 2 * 0 + _ ≤ _; exact Nat.le_of_eq rfl) (hb hby at_98) (fun _ _ => ⟨rfl, rfl, (by decide : 3 + 0 ≤ _), (by decide : 21 + 0 ≤ _)⟩)
        dsimp only [Pt.U, Pt.locs, Pt.cells, Pt.slots] at X44 l44 y44 z44 st44 hQ44
        subst l44 y44 z44
        obtain ⟨rfl, N44q, KE, HP⟩ := hQ44
        have N44 := Fr.app N29 N44q
        refine Goes.tr st44 ?_
        have Z26'''' := Nat.le_trans Z26''' KE.1
        have HP' := HP
        obtain ⟨E_b27, Fs_b27, Fa_b27, Fd_b27, Fp_b27, Fi_b27⟩ := HP'
        exact hj3 _ _ _ (-1) X44 rfl N44 Z26'''' E_b27 Fs_b27 Fa_b27 Fd_b27 Fp_b27 Fi_b27    
    by_cases hm2 : (p5 &&& (2 : Int32)) = (0 : Int32)
    · refine Goes.st (fun t_ k_ => XS.ifYes X25.here hx rfl (pc0 := 55) (pc' := 62) rfl (hb hby at_55) rfl ((if0 _ _).trans (teq hm2).1) (by decide) (by decide) k_) ?_
      show Goes p e below s _ _ _ (T25.setTop (mkF m 62 #[.val (.long q0), .second, .val (.int p1), .val (.int p2), .val (.int p3), .val (.int p4), .val (.int p5), .val (.long t0), .second, .val (.long ee), .second, .val (.long d1), .second, .val (.long d2), .second, .val (.long d3), .second, .val (.int fe), .unset, .unset, .unset, .unset, .unset, .unset, .unset, .unset, .unset, .unset, .unset, .unset, .unset, .unset, .unset] []))
      refine Goes.st (fun t_ k_ => XS.iconst X25.here hx rfl (hb hby at_62) k_) ?_
      show Goes p e below s _ _ _ (T25.setTop (mkF m 63 #[.val (.long q0), .second, .val (.int p1), .val (.int p2), .val (.int p3), .val (.int p4), .val (.int p5), .val (.long t0), .second, .val (.long ee), .second, .val (.long d1), .second, .val (.long d2), .second, .val (.long d3), .second, .val (.int fe), .unset, .unset, .unset, .unset, .unset, .unset, .unset, .unset, .unset, .unset, .unset, .unset, .unset, .unset, .unset] [(.int (0 : Int32))]))
      exact hj2 _ _ _ 0 X25 e25 N25 Z25     
    · refine Goes.st (fun t_ k_ => XS.ifNo X25.here hx rfl (hb hby at_55) rfl ((if0 _ _).trans (feq hm2).1) k_) ?_
      show Goes p e below s _ _ _ (T25.setTop (mkF m 58 #[.val (.long q0), .second, .val (.int p1), .val (.int p2), .val (.int p3), .val (.int p4), .val (.int p5), .val (.long t0), .second, .val (.long ee), .second, .val (.long d1), .second, .val (.long d2), .second, .val (.long d3), .second, .val (.int fe), .unset, .unset, .unset, .unset, .unset, .unset, .unset, .unset, .unset, .unset, .unset, .unset, .unset, .unset, .unset] []))
      refine Goes.st (fun t_ k_ => XS.iconst X25.here hx rfl (hb hby at_58) k_) ?_
      show Goes p e below s _ _ _ (T25.setTop (mkF m 59 #[.val (.long q0), .second, .val (.int p1), .val (.int p2), .val (.int p3), .val (.int p4), .val (.int p5), .val (.long t0), .second, .val (.long ee), .second, .val (.long d1), .second, .val (.long d2), .second, .val (.long d3), .second, .val (.int fe), .unset, .unset, .unset, .unset, .unset, .unset, .unset, .unset, .unset, .unset, .unset, .unset, .unset, .unset, .unset] [(.int (1 : Int32))]))
      refine Goes.st (fun t_ k_ => XS.goto X25.here hx rfl (pc0 := 59) (pc' := 63) rfl (hb hby at_59) (by decide) (by decide) k_) ?_
      show Goes p e below s _ _ _ (T25.setTop (mkF m 63 #[.val (.long q0), .second, .val (.int p1), .val (.int p2), .val (.int p3), .val (.int p4), .val (.int p5), .val (.long t0), .second, .val (.long ee), .second, .val (.long d1), .second, .val (.long d2), .second, .val (.long d3), .second, .val (.int fe), .unset, .unset, .unset, .unset, .unset, .unset, .unset, .unset, .unset, .unset, .unset, .unset, .unset, .unset, .unset] [(.int (1 : Int32))]))
      exact hj2 _ _ _ 1 X25 e25 N25 Z25     
  by_cases hm1 : (p5 &&& (1 : Int32)) = (0 : Int32)
  · refine Goes.st (fun t_ k_ => XS.ifYes X0.here hx rfl (pc0 := 41) (pc' := 48) rfl (hb hby at_41) rfl ((if0 _ _).trans (teq hm1).1) (by decide) (by decide) k_) ?_
    show Goes p e below s _ _ _ (s₁.setTop (mkF m 48 #[.val (.long q0), .second, .val (.int p1), .val (.int p2), .val (.int p3), .val (.int p4), .val (.int p5), .val (.long t0), .second, .val (.long ee), .second, .val (.long d1), .second, .val (.long d2), .second, .val (.long d3), .second, .unset, .unset, .unset, .unset, .unset, .unset, .unset, .unset, .unset, .unset, .unset, .unset, .unset, .unset, .unset, .unset] []))
    refine Goes.st (fun t_ k_ => XS.iconst X0.here hx rfl (hb hby at_48) k_) ?_
    show Goes p e below s _ _ _ (s₁.setTop (mkF m 49 #[.val (.long q0), .second, .val (.int p1), .val (.int p2), .val (.int p3), .val (.int p4), .val (.int p5), .val (.long t0), .second, .val (.long ee), .second, .val (.long d1), .second, .val (.long d2), .second, .val (.long d3), .second, .unset, .unset, .unset, .unset, .unset, .unset, .unset, .unset, .unset, .unset, .unset, .unset, .unset, .unset, .unset, .unset] [(.int (0 : Int32))]))
    exact hj1 _ _ _ 0 X0 e0 N0 Z0     
  · refine Goes.st (fun t_ k_ => XS.ifNo X0.here hx rfl (hb hby at_41) rfl ((if0 _ _).trans (feq hm1).1) k_) ?_
    show Goes p e below s _ _ _ (s₁.setTop (mkF m 44 #[.val (.long q0), .second, .val (.int p1), .val (.int p2), .val (.int p3), .val (.int p4), .val (.int p5), .val (.long t0), .second, .val (.long ee), .second, .val (.long d1), .second, .val (.long d2), .second, .val (.long d3), .second, .unset, .unset, .unset, .unset, .unset, .unset, .unset, .unset, .unset, .unset, .unset, .unset, .unset, .unset, .unset, .unset] []))
    refine Goes.st (fun t_ k_ => XS.iconst X0.here hx rfl (hb hby at_44) k_) ?_
    show Goes p e below s _ _ _ (s₁.setTop (mkF m 45 #[.val (.long q0), .second, .val (.int p1), .val (.int p2), .val (.int p3), .val (.int p4), .val (.int p5), .val (.long t0), .second, .val (.long ee), .second, .val (.long d1), .second, .val (.long d2), .second, .val (.long d3), .second, .unset, .unset, .unset, .unset, .unset, .unset, .unset, .unset, .unset, .unset, .unset, .unset, .unset, .unset, .unset, .unset] [(.int (1 : Int32))]))
    refine Goes.st (fun t_ k_ => XS.goto X0.here hx rfl (pc0 := 45) (pc' := 49) rfl (hb hby at_45) (by decide) (by decide) k_) ?_
    show Goes p e below s _ _ _ (s₁.setTop (mkF m 49 #[.val (.long q0), .second, .val (.int p1), .val (.int p2), .val (.int p3), .val (.int p4), .val (.int p5), .val (.long t0), .second, .val (.long ee), .second, .val (.long d1), .second, .val (.long d2), .second, .val (.long d3), .second, .unset, .unset, .unset, .unset, .unset, .unset, .unset, .unset, .unset, .unset, .unset, .unset, .unset, .unset, .unset, .unset] [(.int (1 : Int32))]))
    exact hj1 _ _ _ 1 X0 e0 N0 Z0     
set_option maxRecDepth 65536 in
set_option maxHeartbeats 40000000 in
theorem comes_1 {Post : Tables → Env → Array Value → State → Outcome → State → Prop} (hpost : ∀ tb e args s v u, (limb_1_1.after args s (.returned v) u = true ∧ limb_1_2.after args s (.returned v) u = true ∧ True) → FrameEnd s (.returned v) u (Jvm.fieldLocs frame_1_writes args s ++ Jvm.arrayLocs frame_1_arrays args s ++ Jvm.staticLocs frame_1_statics s) 16 128 → Post tb e args s (.returned v) u) :
    ArmFor flags0 classFile x code maxLocals ret World_1 tables_1 room_1 Calls_1 rest_1 Pre_1 Post := by
  intro l hfl _ _ p e ha hc hk s m args below hf hA hF happ hP
  obtain ⟨hcalls, hrest, hpre⟩ := hP
  obtain ⟨-, -, -, hnamed, -, -, -, hat⟩ := (Spec.applies_iff hf).mp happ
  obtain ⟨hg, hn⟩ := and_e (Cond.before_iff.mp (show (Jvm.Cond.and given_1 narrow_1).before args s = true from hpre))
  obtain ⟨g0, gr0⟩ := and_e hg
  obtain ⟨ga0, gr1⟩ := and_e gr0
  obtain ⟨ga1, gr2⟩ := and_e gr1
  obtain ⟨ga2, gr3⟩ := and_e gr2
  obtain ⟨ga3, gr4⟩ := and_e gr3
  obtain ⟨ga4, gr5⟩ := and_e gr4
  have ga5 := gr5
  obtain ⟨w0, w1, w2, w3, w4, w5, rfl⟩ : ∃ w0 w1 w2 w3 w4 w5 : Value, args = #[w0, w1, w2, w3, w4, w5] := by
    have hs : args.size = 6 := by simpa [Cond.value, given_1] using g0
    obtain ⟨L⟩ := args
    match L, hs with
    | [w0, w1, w2, w3, w4, w5], _ => exact ⟨w0, w1, w2, w3, w4, w5, rfl⟩
  have hw := fun d (hd : d ∈ tables_1) => atoms_spec (ws := Jvm.Cond.code x code maxLocals ret :: tables_1) hat d (List.mem_cons_of_mem _ hd)
  have hfit : Fit s := fun {y c} hc i hi => by
    obtain ⟨ha, rfl⟩ := Array.getElem?_eq_some_iff.mp hc
    have q := List.all_eq_true.mp ((Array.all_eq_true_iff_forall_mem.mp hF) _ (Array.getElem_mem ha)) i (List.mem_range.mpr hi)
    simpa [Array.getElem?_eq_getElem hi] using q
  obtain ⟨i0, ei0⟩ := isL_v ga0
  obtain rfl : w0 = (.long i0) := Option.some.inj ei0
  obtain ⟨i1, ei1⟩ := is_v ga1
  obtain rfl : w1 = (.int i1) := Option.some.inj ei1
  obtain ⟨i2, ei2⟩ := is_v ga2
  obtain rfl : w2 = (.int i2) := Option.some.inj ei2
  obtain ⟨i3, ei3⟩ := is_v ga3
  obtain rfl : w3 = (.int i3) := Option.some.inj ei3
  obtain ⟨i4, ei4⟩ := is_v ga4
  obtain rfl : w4 = (.int i4) := Option.some.inj ei4
  obtain ⟨i5, ei5⟩ := is_v ga5
  obtain rfl : w5 = (.int i5) := Option.some.inj ei5
  obtain ⟨n, o, h1, h2, h3, _, L, rfl, ⟨rfl, N⟩, hq⟩ := own_rm0 l s _ hw tables_1 i0 i1 i2 i3 i4 i5  s.heap s.heap.size (Nat.le_refl _)  p e ha hc hk s m _ below hf ((Spec.applies_iff_loose hf).mp happ).1 ⟨rfl, State.Warmed39.refl s, rfl⟩ trivial
  refine ⟨n, _, h1, h2, h3, hpost _ _ _ _ _ _ ⟨Cond.after_iff.mpr rfl, Cond.after_iff.mpr (eq_i res_at (Term.int_eval (1)) rfl), trivial⟩ ⟨hq.1, hq.2.1, (hq.2.2.sift fun y hy => Or.inr (N y hy)).mono (by decide) (by decide)⟩⟩
theorem main_1_1 : Claimed_1_1 := comes_1 fun _ _ _ _ _ _ h hF => ⟨h.1, hF⟩
theorem main_1_2 : Claimed_1_2 := comes_1 fun _ _ _ _ _ _ h hF => ⟨h.2.1, hF⟩
end Jvm.Pilot.@@N@@
namespace Jvm.Pilot.@@N@@
open Jvm Jvm.ClassFile Sem Op Lib Jvm.Free Jvm.Stand Jvm.Pilot.@@N@@.Jvm.D
/-! MADE BY PROGRAM (witnessworld.py) out of the Statement's table words and the real class files: 9 classes; the members and pool entries that the words name. The judged class is class 1, her method 1. -/
namespace start1
open Jvm.ClassFile
def u (s : String) : CpInfo := .utf8 (stringToUtf16 s)
/-- a pool by its gaps: so many unusable entries, then the entry; so many at the end -/
def gap : Nat → List CpInfo → List CpInfo
  | 0, r => r
  | n + 1, r => .unusable :: gap n r
def poolList (es : List (Nat × CpInfo)) (last : Nat) : List CpInfo := es.foldr (fun e r => gap e.1 (e.2 :: r)) (gap last [])
def pool (es : List (Nat × CpInfo)) (last : Nat) : Array CpInfo := ⟨poolList es last⟩
def fileOf (pool : Array CpInfo) (this : Nat) (attrs : Array Attribute := #[]) (ms : Array MethodInfo := #[]) (fl : Nat := 33) (sup : Nat := 0) (ifs : Array Nat := #[]) (fds : Array FieldInfo := #[]) : ClassFile where
  minorVersion := 0
  majorVersion := 65
  constantPool := pool
  accessFlags := fl
  thisClass := this
  superClass := sup
  interfaces := ifs
  fields := fds
  methods := ms
  attributes := attrs
def plain (name : String) (sup : Option ClassId) : Class where
  name := name
  kind := .ordinary
  loader := none
  accessFlags := 33
  super := sup
  interfaces := #[]
  cf := none
  fields := #[]
  methods := #[]
  instanceTypes := #[]
  staticTypes := #[]
  resolved := #[]
  callSites := []
  init := .initialized
  statics := none
  mirror := none

def pool0 : Array CpInfo := pool [(5, u "<init>"), (0, u "()V"), (1, .class_ 10), (1, u "java/lang/Object")] 113

def k0c0 : Code := { maxStack := 0, maxLocals := 1, code := object_method_1_code, exceptionTable := #[], attributes := #[] }
def k0m0 : Method := { name := "<init>", desc := "()V", sig := { parameters := [], returnType := none }, accessFlags := 1, code := some k0c0 }
/-- java/lang/Object -/
def k0 : Class := { plain "java/lang/Object" none with
  accessFlags := 33
  interfaces := #[]
  cf := some (fileOf pool0 8 #[] #[{ accessFlags := 1, nameIndex := 5, descriptorIndex := 6, attributes := #[] }] 33 0 #[] #[])
  fields := #[]
  methods := #[k0m0]
  instanceTypes := #[]
  staticTypes := #[]
  resolved := Array.replicate 124 none
  statics := none }

def pool1 : Array CpInfo := pool [(2, .class_ 4), (0, .nameAndType 5 6), (0, u "java/lang/Object"), (0, u "<init>"), (0, u "()V"), (0, .long 1152921504606846975), (1, .integer 4194303), (0, .class_ 11), (0, u "com/example/delaunet/delaunet/core/sim/Pace"), (0, .methodref 10 3), (0, .methodref 10 14), (0, .nameAndType 15 16), (0, u "start"), (0, u "(J)Z"), (0, .methodref 10 18), (0, .nameAndType 19 20), (0, u "end"), (0, u "(J)V"), (0, .long 2000000), (1, .methodref 10 24), (0, .nameAndType 25 26), (0, u "complete"), (0, u "()Z"), (0, .class_ 28), (0, u "com/example/delaunet/delaunet/core/sim/PaceEndPinLaw"), (2, u "law"), (0, u "(JIIIII)Z")] 3

def k1m0 : Method := { name := "<init>", desc := "()V", sig := { parameters := [], returnType := none }, accessFlags := 1, code := none }
def k1c1 : Code := { maxStack := 5, maxLocals := 33, code := code, exceptionTable := #[], attributes := #[] }
def k1m1 : Method := { name := "law", desc := "(JIIIII)Z", sig := { parameters := [.long, .int, .int, .int, .int, .int], returnType := some .boolean }, accessFlags := 9, code := some k1c1 }
/-- com/example/delaunet/delaunet/core/sim/PaceEndPinLaw -/
def k1 : Class := { plain "com/example/delaunet/delaunet/core/sim/PaceEndPinLaw" (some 0) with
  accessFlags := 49
  interfaces := #[]
  cf := some (fileOf pool1 27 #[] #[{ accessFlags := 1, nameIndex := 5, descriptorIndex := 6, attributes := #[] }, { accessFlags := 9, nameIndex := 31, descriptorIndex := 32, attributes := #[] }] 49 2 #[] #[])
  fields := #[]
  methods := #[k1m0, k1m1]
  instanceTypes := #[]
  staticTypes := #[]
  resolved := Array.replicate 36 none
  statics := none }

def pool2 : Array CpInfo := pool [(1, .methodref 2 3), (0, .class_ 4), (0, .nameAndType 5 6), (0, u "java/lang/Object"), (0, u "<init>"), (0, u "()V"), (0, .class_ 8), (0, u "com/example/delaunet/delaunet/core/sim/Pace"), (0, .fieldref 7 10), (0, .nameAndType 11 12), (0, u "here"), (0, u "[D"), (0, .fieldref 7 14), (0, .nameAndType 15 12), (0, u "away"), (0, .long 18446744073709551615), (1, .fieldref 7 19), (0, .nameAndType 20 21), (0, u "since"), (0, u "J"), (0, .fieldref 7 23), (0, .nameAndType 24 25), (0, u "staying"), (0, u "Z"), (0, .fieldref 7 27), (0, .nameAndType 28 29), (0, u "started"), (0, u "I"), (0, .fieldref 7 31), (0, .nameAndType 32 29), (0, u "stay"), (0, .fieldref 7 34), (0, .nameAndType 35 29), (0, u "tried"), (0, .fieldref 7 37), (0, .nameAndType 38 21), (0, u "spent"), (0, .long 2000000), (1, .methodref 7 42), (0, .nameAndType 43 44), (0, u "complete"), (0, u "()Z"), (0, .methodref 7 46), (0, .nameAndType 47 48), (0, u "end"), (0, u "(J)V"), (0, .fieldref 7 50), (0, .nameAndType 51 29), (0, u "trials"), (7, .fieldref 7 60), (0, .nameAndType 61 25), (0, u "awayNow"), (6, u "stayedAway"), (17, u "TRIAL"), (2, u "TRIAL_NANOS"), (0, u "TRIALS"), (1, u "FIRST_STAY"), (0, u "LONGEST_STAY"), (4, u "start"), (0, u "(J)Z")] 2

def k2c0 : Code := { maxStack := 3, maxLocals := 1, code := prog_57_method_1_code, exceptionTable := #[], attributes := #[] }
def k2m0 : Method := { name := "<init>", desc := "()V", sig := { parameters := [], returnType := none }, accessFlags := 0, code := some k2c0 }
def k2c1 : Code := { maxStack := 4, maxLocals := 2, code := prog_57_method_2_code, exceptionTable := #[], attributes := #[] }
def k2m1 : Method := { name := "complete", desc := "()Z", sig := { parameters := [], returnType := some .boolean }, accessFlags := 0, code := some k2c1 }
def k2c2 : Code := { maxStack := 3, maxLocals := 4, code := prog_57_method_3_code, exceptionTable := #[], attributes := #[] }
def k2m2 : Method := { name := "start", desc := "(J)Z", sig := { parameters := [.long], returnType := some .boolean }, accessFlags := 0, code := some k2c2 }
def k2c3 : Code := { maxStack := 7, maxLocals := 3, code := prog_57_method_4_code, exceptionTable := #[], attributes := #[] }
def k2m3 : Method := { name := "end", desc := "(J)V", sig := { parameters := [.long], returnType := none }, accessFlags := 0, code := some k2c3 }
/-- com/example/delaunet/delaunet/core/sim/Pace -/
def k2 : Class := { plain "com/example/delaunet/delaunet/core/sim/Pace" (some 0) with
  accessFlags := 48
  interfaces := #[]
  cf := some (fileOf pool2 7 #[] #[{ accessFlags := 0, nameIndex := 5, descriptorIndex := 6, attributes := #[] }, { accessFlags := 0, nameIndex := 43, descriptorIndex := 44, attributes := #[] }, { accessFlags := 0, nameIndex := 98, descriptorIndex := 99, attributes := #[] }, { accessFlags := 0, nameIndex := 47, descriptorIndex := 48, attributes := #[] }] 48 2 #[] #[{ accessFlags := 24, nameIndex := 86, descriptorIndex := 29, attributes := #[] }, { accessFlags := 24, nameIndex := 89, descriptorIndex := 21, attributes := #[] }, { accessFlags := 24, nameIndex := 90, descriptorIndex := 29, attributes := #[] }, { accessFlags := 24, nameIndex := 92, descriptorIndex := 29, attributes := #[] }, { accessFlags := 24, nameIndex := 93, descriptorIndex := 29, attributes := #[] }, { accessFlags := 18, nameIndex := 11, descriptorIndex := 12, attributes := #[] }, { accessFlags := 18, nameIndex := 15, descriptorIndex := 12, attributes := #[] }, { accessFlags := 2, nameIndex := 51, descriptorIndex := 29, attributes := #[] }, { accessFlags := 2, nameIndex := 35, descriptorIndex := 29, attributes := #[] }, { accessFlags := 2, nameIndex := 24, descriptorIndex := 25, attributes := #[] }, { accessFlags := 2, nameIndex := 61, descriptorIndex := 25, attributes := #[] }, { accessFlags := 2, nameIndex := 32, descriptorIndex := 29, attributes := #[] }, { accessFlags := 2, nameIndex := 68, descriptorIndex := 25, attributes := #[] }, { accessFlags := 2, nameIndex := 28, descriptorIndex := 29, attributes := #[] }, { accessFlags := 2, nameIndex := 38, descriptorIndex := 21, attributes := #[] }, { accessFlags := 2, nameIndex := 20, descriptorIndex := 21, attributes := #[] }])
  fields := #[{ name := "TRIAL", type := .int, accessFlags := 24, slot := 0, constantValue := 0 }, { name := "TRIAL_NANOS", type := .long, accessFlags := 24, slot := 1, constantValue := 0 }, { name := "TRIALS", type := .int, accessFlags := 24, slot := 2, constantValue := 0 }, { name := "FIRST_STAY", type := .int, accessFlags := 24, slot := 3, constantValue := 0 }, { name := "LONGEST_STAY", type := .int, accessFlags := 24, slot := 4, constantValue := 0 }, { name := "here", type := (.array .double), accessFlags := 18, slot := 0, constantValue := 0 }, { name := "away", type := (.array .double), accessFlags := 18, slot := 1, constantValue := 0 }, { name := "trials", type := .int, accessFlags := 2, slot := 2, constantValue := 0 }, { name := "tried", type := .int, accessFlags := 2, slot := 3, constantValue := 0 }, { name := "staying", type := .boolean, accessFlags := 2, slot := 4, constantValue := 0 }, { name := "awayNow", type := .boolean, accessFlags := 2, slot := 5, constantValue := 0 }, { name := "stay", type := .int, accessFlags := 2, slot := 6, constantValue := 0 }, { name := "stayedAway", type := .boolean, accessFlags := 2, slot := 7, constantValue := 0 }, { name := "started", type := .int, accessFlags := 2, slot := 8, constantValue := 0 }, { name := "spent", type := .long, accessFlags := 2, slot := 9, constantValue := 0 }, { name := "since", type := .long, accessFlags := 2, slot := 10, constantValue := 0 }]
  methods := #[k2m0, k2m1, k2m2, k2m3]
  instanceTypes := #[(.array .double), (.array .double), .int, .int, .boolean, .boolean, .int, .boolean, .int, .long, .long]
  staticTypes := #[.int, .long, .int, .int, .int]
  resolved := Array.replicate 102 none
  statics := none }

def pool3 : Array CpInfo := pool [(1, u "java/lang/Cloneable"), (0, .class_ 1), (0, u "java/lang/Object"), (0, .class_ 3)] 3

/-- java/lang/Cloneable -/
def k3 : Class := { plain "java/lang/Cloneable" (some 0) with
  accessFlags := 1537
  interfaces := #[]
  cf := some (fileOf pool3 2 #[] #[] 1537 4 #[] #[])
  fields := #[]
  methods := #[]
  instanceTypes := #[]
  staticTypes := #[]
  resolved := Array.replicate 8 none
  statics := none }

def pool4 : Array CpInfo := pool [(1, u "java/io/Serializable"), (0, .class_ 1), (0, u "java/lang/Object"), (0, .class_ 3)] 3

/-- java/io/Serializable -/
def k4 : Class := { plain "java/io/Serializable" (some 0) with
  accessFlags := 1537
  interfaces := #[]
  cf := some (fileOf pool4 2 #[] #[] 1537 4 #[] #[])
  fields := #[]
  methods := #[]
  instanceTypes := #[]
  staticTypes := #[]
  resolved := Array.replicate 8 none
  statics := none }

/-- the primitive byte -/
def k5 : Class := { plain "byte" none with kind := .primitive 'B', accessFlags := 0x411 }
/-- [B -/
def k6 : Class := { plain "[B" (some 0) with kind := .array 5 .byte, interfaces := #[3, 4], accessFlags := 1041 }

/-- the primitive int -/
def k7 : Class := { plain "int" none with kind := .primitive 'I', accessFlags := 0x411 }
/-- [I -/
def k8 : Class := { plain "[I" (some 0) with kind := .array 7 .int, interfaces := #[3, 4], accessFlags := 1041 }

/-- the primitive double, and its arrays -/
def kdbl : Class := { plain "double" none with kind := .primitive 'D', accessFlags := 0x411 }
def kdbls : Class := { plain "[D" (some 0) with kind := .array 9 .double, interfaces := #[3, 4], accessFlags := 1041 }
def heap : Heap := #[]
def classes : Array Class := #[k0, k1, k2, k3, k4, k5, k6, k7, k8, kdbl, kdbls]
def interned : List (Array UInt16 × Addr) := []
def slotsUsed : Nat := 0
def theMethod : MethodId := ⟨1, 1⟩
def args0 : Array Value := #[.long 1000, .int 5, .int 1500000, .int 3, .int 600000, .int 3]
def aboutOver (below : List Frame) : State where
  vm := { classes := classes, interned := interned.toArray }
  heap := heap
  slotsUsed := slotsUsed
  threads := #[{ frames := .invoking theMethod args0 :: below }]
def below0 : List Frame := [.native { method := ⟨0, 0⟩, args := #[] }]
def about1 : State := aboutOver below0
def p0 : Program := .bare "" "" ""
def e0 : Env := launch0.env 0 0 0
theorem w_frames : about1.frames = Frame.invoking theMethod args0 :: below0 := rfl
set_option maxRecDepth 65536 in
theorem w_args : argsFit about1.vm theMethod args0 = true := by decide +kernel
set_option maxRecDepth 65536 in
theorem w_heap : heapFits about1 = true := by decide +kernel
set_option maxRecDepth 65536 in
theorem w_runnable : about1.curStatus? = some .runnable := by decide +kernel
set_option maxRecDepth 65536 in
theorem w_alone : about1.alone = true := by decide +kernel
set_option maxRecDepth 65536 in
theorem w_named : about1.methodNamed? x = some theMethod := by decide +kernel
set_option maxRecDepth 65536 in
theorem w_hears : about1.hears theMethod below0 = true := by decide +kernel
set_option maxRecDepth 65536 in
theorem w_ripe : about1.ripe theMethod args0 below0 = true := by decide +kernel
theorem w_running : about1.status = .running := rfl
set_option maxRecDepth 65536 in
theorem w_room : about1.hasRoom e0.platform room_1 = true :=
  launch0.hasRoom_least _ room_1 (by decide +kernel) (by decide +kernel) (by decide +kernel) (by decide +kernel) (by decide +kernel) (by decide +kernel)
theorem allAtoms_all (ts : List Jvm.Cond) (a : Array Jvm.Value) (st : Jvm.State) : (allAtoms ts).before a st = ts.all (fun c => c.before a st) := by
  induction ts with
  | nil => rfl
  | cons c t ih =>
    show (Jvm.Cond.and c (allAtoms t)).before a st = _
    rw [Jvm.Cond.before_and, ih, List.all_cons]
def words1 : List Jvm.Cond := Jvm.Cond.code x code maxLocals ret :: tables_1
/-- a 'code' word, met by the world's own term for the bytes: nothing is compared byte by byte -/
theorem code_word {y : MethodName} {bytes : ByteArray} {mx : Nat} {rt : Option FieldType} {a : Array Value} {s : State} {m : MethodId} {meth : Method} {c : Code} (h1 : s.methodNamed? y = some m) (h2 : s.vm.method? m = some meth) (h3 : meth.code = some c) (h4 : c.code = bytes)
    (h5 : (c.maxLocals == mx && c.exceptionTable.isEmpty && decide (c.maxStack ≤ mostOperands) && decide (meth.sig.returnType = rt) && !meth.locks && decide (parseMethodDescriptor y.desc = some meth.sig)) = true) : (Jvm.Cond.code y bytes mx rt).before a s = true := by
  simp only [Bool.and_eq_true, beq_iff_eq, Bool.not_eq_true', decide_eq_true_eq] at h5
  obtain ⟨⟨⟨⟨⟨g1, g2⟩, g3⟩, g4⟩, g5⟩, g6⟩ := h5
  simp [Cond.before, Cond.holds, Cond.value, h1, h2, h3, h4, g1, g2, g3, g4, g5, g6]
def isCode : Jvm.Cond → Bool
  | .code _ _ _ _ => true
  | _ => false
theorem all_split {L : List Jvm.Cond} {P : Jvm.Cond → Bool} (h1 : L.all (fun c => isCode c || P c) = true) (h2 : ∀ c ∈ L.filter isCode, P c = true) : L.all P = true := by
  refine List.all_eq_true.mpr fun c hc => ?_
  have h := List.all_eq_true.mp h1 c hc
  rcases Bool.eq_false_or_eq_true (isCode c) with hi | hi
  · exact h2 c (List.mem_filter.mpr ⟨hc, hi⟩)
  · simpa [hi] using h
set_option maxRecDepth 65536 in
theorem w_c0 : (Jvm.Cond.code x code maxLocals ret).before args0 about1 = true := code_word (m := ⟨1, 1⟩) (meth := k1m1) (c := k1c1) (by decide +kernel) rfl rfl rfl (by decide +kernel)
set_option maxRecDepth 65536 in
theorem w_c1 : (Jvm.Cond.code ({ cls := "com/example/delaunet/delaunet/core/sim/Pace", name := "<init>", desc := "()V" } : Jvm.MethodName) prog_57_method_1_code (1 : Nat) (Option.none : Option Jvm.ClassFile.FieldType)).before args0 about1 = true := code_word (m := ⟨2, 0⟩) (meth := k2m0) (c := k2c0) (by decide +kernel) rfl rfl rfl (by decide +kernel)
set_option maxRecDepth 65536 in
theorem w_c2 : (Jvm.Cond.code ({ cls := "java/lang/Object", name := "<init>", desc := "()V" } : Jvm.MethodName) object_method_1_code (1 : Nat) (Option.none : Option Jvm.ClassFile.FieldType)).before args0 about1 = true := code_word (m := ⟨0, 0⟩) (meth := k0m0) (c := k0c0) (by decide +kernel) rfl rfl rfl (by decide +kernel)
set_option maxRecDepth 65536 in
theorem w_c3 : (Jvm.Cond.code ({ cls := "com/example/delaunet/delaunet/core/sim/Pace", name := "start", desc := "(J)Z" } : Jvm.MethodName) prog_57_method_3_code (4 : Nat) (Option.some Jvm.ClassFile.FieldType.boolean)).before args0 about1 = true := code_word (m := ⟨2, 2⟩) (meth := k2m2) (c := k2c2) (by decide +kernel) rfl rfl rfl (by decide +kernel)
set_option maxRecDepth 65536 in
theorem w_c4 : (Jvm.Cond.code ({ cls := "com/example/delaunet/delaunet/core/sim/Pace", name := "complete", desc := "()Z" } : Jvm.MethodName) prog_57_method_2_code (2 : Nat) (Option.some Jvm.ClassFile.FieldType.boolean)).before args0 about1 = true := code_word (m := ⟨2, 1⟩) (meth := k2m1) (c := k2c1) (by decide +kernel) rfl rfl rfl (by decide +kernel)
set_option maxRecDepth 65536 in
theorem w_c5 : (Jvm.Cond.code ({ cls := "com/example/delaunet/delaunet/core/sim/Pace", name := "end", desc := "(J)V" } : Jvm.MethodName) prog_57_method_4_code (3 : Nat) (Option.none : Option Jvm.ClassFile.FieldType)).before args0 about1 = true := code_word (m := ⟨2, 3⟩) (meth := k2m3) (c := k2c3) (by decide +kernel) rfl rfl rfl (by decide +kernel)
def codes1 : List Jvm.Cond := [Jvm.Cond.code x code maxLocals ret, Jvm.Cond.code ({ cls := "com/example/delaunet/delaunet/core/sim/Pace", name := "<init>", desc := "()V" } : Jvm.MethodName) prog_57_method_1_code (1 : Nat) (Option.none : Option Jvm.ClassFile.FieldType), Jvm.Cond.code ({ cls := "java/lang/Object", name := "<init>", desc := "()V" } : Jvm.MethodName) object_method_1_code (1 : Nat) (Option.none : Option Jvm.ClassFile.FieldType), Jvm.Cond.code ({ cls := "com/example/delaunet/delaunet/core/sim/Pace", name := "start", desc := "(J)Z" } : Jvm.MethodName) prog_57_method_3_code (4 : Nat) (Option.some Jvm.ClassFile.FieldType.boolean), Jvm.Cond.code ({ cls := "com/example/delaunet/delaunet/core/sim/Pace", name := "complete", desc := "()Z" } : Jvm.MethodName) prog_57_method_2_code (2 : Nat) (Option.some Jvm.ClassFile.FieldType.boolean), Jvm.Cond.code ({ cls := "com/example/delaunet/delaunet/core/sim/Pace", name := "end", desc := "(J)V" } : Jvm.MethodName) prog_57_method_4_code (3 : Nat) (Option.none : Option Jvm.ClassFile.FieldType)]
set_option maxRecDepth 65536 in
theorem codes_eq : words1.filter isCode = codes1 := rfl
theorem w_codes : ∀ c ∈ words1.filter isCode, c.before args0 about1 = true := by
  rw [codes_eq]
  intro c hc
  simp only [codes1, List.mem_cons, List.not_mem_nil, or_false] at hc
  rcases hc with rfl | rfl | rfl | rfl | rfl | rfl
  · exact w_c0
  · exact w_c1
  · exact w_c2
  · exact w_c3
  · exact w_c4
  · exact w_c5
set_option maxRecDepth 65536 in
theorem w_t1 : (words1.take 24).all (fun c => isCode c || c.before args0 about1) = true := by decide +kernel
set_option maxRecDepth 65536 in
theorem w_t2 : ((words1.drop 24).take 24).all (fun c => isCode c || c.before args0 about1) = true := by decide +kernel
set_option maxRecDepth 65536 in
theorem w_t3 : ((words1.drop 24).drop 24).all (fun c => isCode c || c.before args0 about1) = true := by decide +kernel
theorem w_tables : (allAtoms (Jvm.Cond.code x code maxLocals ret :: tables_1)).before args0 about1 = true := by
  rw [allAtoms_all]
  show words1.all (fun c => c.before args0 about1) = true
  refine all_split ?_ w_codes
  rw [← List.take_append_drop 24 words1, List.all_append, w_t1, ← List.take_append_drop 24 (words1.drop 24), List.all_append, w_t2, w_t3]
  rfl
set_option maxRecDepth 65536 in
theorem w_case : (Jvm.Cond.and given_1 narrow_1).before args0 about1 = true := by decide +kernel
theorem w_applies : (headSpec (Jvm.Cond.code x code maxLocals ret :: tables_1) room_1).applies x e0.platform about1 = true :=
  (Spec.applies_iff w_frames).mpr ⟨w_running, w_runnable, w_alone, w_named, w_hears, w_ripe, w_room, w_tables⟩
theorem atStart : AtStart classFile x code maxLocals ret World_1 tables_1 room_1 Calls_1 rest_1 Pre_1 launch0 p0 e0 about1 theMethod args0 below0 :=
  ⟨lists_1, trivial, launch0.admits_env _ _ _, launch0.least_env, fairChoices_fair.cas, fairChoices_fair.clock, w_frames, w_args, w_heap, w_applies, trivial, trivial, w_case⟩
end start1
theorem witness_1 : WitnessClaimed_1 := ⟨start1.p0, start1.e0, start1.about1, start1.theMethod, start1.args0, start1.below0, start1.atStart⟩
end Jvm.Pilot.@@N@@
