import JvmDerived
import JvmDerived.Pilot.@@N@@Statement
import JvmDerived.Pilot.@@N@@Code
set_option linter.unusedVariables false
set_option linter.unusedSimpArgs false
namespace Jvm.RoadKit
open Sem ClassFile Op Lib Jvm.Stand Jvm.Free Jvm.LawKit
section OwnGo
variable {p : Program} {l : Launch} {e : Env} {R : Room} {s : State} {m : MethodId} {args : Array Value} {below : List Frame} {meth : Method} {c : Code} {T U V : State} {locs : List Loc} {cells slots : Nat} {Q : Option Value → Heap → List Loc → Prop} {k n : Nat}
/-- from the state U the run ends within the frame, by a return of which Q holds -/
def Goes (p : Program) (e : Env) (below : List Frame) (s : State) (Q : Option Value → Heap → List Loc → Prop) (k n : Nat) (U : State) : Prop :=
  ∃ s₂ o, Steps p.tables e below U s₂ ∧ s₂.status = .running ∧ Ended s₂ below o ∧ ∃ v L, o = .returned v ∧ Q v s₂.heap L ∧ FrameEnd s o s₂ L k n
theorem Goes.st (st : ∀ t, Steps p.tables e below V t → Steps p.tables e below U t) (h : Goes p e below s Q k n V) : Goes p e below s Q k n U := by
  obtain ⟨s₂, o, h1, h2⟩ := h
  exact ⟨s₂, o, st _ h1, h2⟩
theorem Goes.tr (st : Steps p.tables e below U V) (h : Goes p e below s Q k n V) : Goes p e below s Q k n U := Goes.st (fun _ q => st.trans q) h
theorem Goes.cast {g g' : JFrame} (q : g = g') (h : Goes p e below s Q k n (T.setTop g')) : Goes p e below s Q k n (T.setTop g) := q ▸ h
theorem Goes.retN (X : Stand p l e R s m args below meth c T locs cells slots) (hx : p.tables.exec = Jvm.exec) {pc : Nat} {Ls : Array Slot} {z : Int32} {t : FieldType} {rest : List Value} (hret : meth.sig.returnType = some t) (hlk : meth.locks = false) (ht : t = .boolean ∨ t = .byte ∨ t = .char ∨ t = .short)
    (hd : decode c.code pc = .ok (.ireturn, 1)) (hc : cells ≤ k) (hs : slots ≤ n) (hq : Q (some (.int (nar t z))) T.heap locs) : Goes p e below s Q k n (T.setTop (mkF m pc Ls (.int z :: rest))) := by
  obtain ⟨fs, hr, hrun, hended, hW, hsame⟩ := X.leave (v := some (.int (nar t z))) (fun h => by rw [hret] at h; cases h) hlk
  exact ⟨_, _, Jvm.RoadKit.retN X hx hret ht hd hr, hrun, hended, _, _, rfl, hq, ⟨_, rfl⟩, hW, hsame.mono hc hs⟩
theorem Goes.retO (X : Stand p l e R s m args below meth c T locs cells slots) (hx : p.tables.exec = Jvm.exec) {pc : Nat} {Ls : Array Slot} {w : Value} {t : FieldType} {i : Instr} {rest : List Value} (hret : meth.sig.returnType = some t) (hlk : meth.locks = false) (hn : narrow t w = w)
    (hi : (i = .ireturn ∧ (t = .int ∨ t = .boolean ∨ t = .byte ∨ t = .char ∨ t = .short) ∧ ∃ z, w = .int z) ∨ (i = .lreturn ∧ t = .long ∧ ∃ z, w = .long z) ∨ (i = .dreturn ∧ t = .double ∧ ∃ z, w = .double z) ∨ (i = .freturn ∧ t = .float ∧ ∃ z, w = .float z) ∨ (i = .areturn ∧ t.isReference = true ∧ w.isRef = true))
    (hd : decode c.code pc = .ok (i, 1)) (hc : cells ≤ k) (hs : slots ≤ n) (hq : Q (some w) T.heap locs) : Goes p e below s Q k n (T.setTop (mkF m pc Ls (w :: rest))) := by
  obtain ⟨fs, hr, hrun, hended, hW, hsame⟩ := X.leave (v := some w) (fun h => by rw [hret] at h; cases h) hlk
  exact ⟨_, _, Jvm.RoadKit.retOut X hx hret hn hi hd hr, hrun, hended, _, _, rfl, hq, ⟨_, rfl⟩, hW, hsame.mono hc hs⟩
theorem Goes.ret0 (X : Stand p l e R s m args below meth c T locs cells slots) (hx : p.tables.exec = Jvm.exec) {pc : Nat} {Ls : Array Slot} (hret : meth.sig.returnType = none) (hlk : meth.locks = false)
    (hd : decode c.code pc = .ok (.return_, 1)) (hc : cells ≤ k) (hs : slots ≤ n) (hq : Q none T.heap locs) : Goes p e below s Q k n (T.setTop (mkF m pc Ls [])) := by
  obtain ⟨fs, hr, hrun, hended, hW, hsame⟩ := X.leave (v := none) (fun _ => rfl) hlk
  exact ⟨_, _, X.returnOut hx hret hd hr, hrun, hended, _, _, rfl, hq, ⟨_, rfl⟩, hW, hsame.mono hc hs⟩
end OwnGo
end Jvm.RoadKit
namespace Jvm.Pilot.@@N@@
open Jvm Jvm.ClassFile Sem Op Lib Jvm.Free Jvm.Stand Jvm.LawKit Jvm.RoadKit Bundle Jvm.Pilot.@@N@@.Jvm.D
theorem own_selp {Z s : State} {a0 args : Array Value} {y : MethodName} {n : Nat} (hZ : Z.Warmed39 s.vm) (wi : (Jvm.Cond.instantiable y.cls n).before a0 Z = true) (wm : (Jvm.Cond.instanceMethod y).before a0 Z = true) (wp : (Jvm.Cond.privateMethod y).before a0 Z = true) (hy : y.cls ≠ "java/lang/invoke/MethodHandle" ∧ y.cls ≠ "java/lang/invoke/VarHandle") : (Jvm.Cond.selects y.cls y y).before args s = true := by
  obtain ⟨c, k, h1, h2, h3, h4, -⟩ := Cond.instantiable_spec (mvT hZ wi (args := args))
  have h5 : k.isInterface = false := by cases hi : k.isInterface <;> simp [hi] at h4 ⊢
  exact selects_self_of_private h1 h2 h5 (Cond.privateMethod_at (mvP hZ wp (args := args))) (mvT hZ wm) hy
def own_bI (b : Bool) : Int32 := bif b then 1 else 0
theorem own_cat {v : Value} (h : v.isRef = true) : v.category = 1 := by cases v <;> simp [Value.isRef, Value.category] at h ⊢
theorem own_feq {args : Array Value} {s : State} {t u : Term} {C n d : String} {a w : Addr} (h : (Jvm.Cond.eq (.field t C n d) u).value args s none s [] = some true) (ht : t.eval args s none [] s = some (.ref a)) (hu : u.eval args s none [] s = some (.ref w)) : Fld s s.heap a C n d (.ref w) := by
  obtain ⟨x, y, e1, e2, k1, k2⟩ := cmp_v (Or.inl h)
  cases hu.symm.trans e2
  have hx : x.isRef = true := k2.2
  have q := gotT (eq_R e1 hu hx rfl) h
  subst q
  rw [fld_at ht] at e1
  exact Fld.start e1
theorem own_oeq {args : Array Value} {s : State} {t : Term} {C n d : String} {a : Addr} {k : Int32} (h : (Jvm.Cond.eq (.field t C n d) (.int k)).value args s none s [] = some true) (ht : t.eval args s none [] s = some (.ref a)) : Fld s s.heap a C n d (.int k) := by
  obtain ⟨x, y, e1, e2, k1, k2⟩ := cmp_v (Or.inl h)
  cases (Term.int_eval k).symm.trans e2
  obtain ⟨z, rfl⟩ := k2
  have q : z = k := by simpa [Jvm.Cond.value, e1, e2] using h
  subst q
  rw [fld_at ht] at e1
  exact Fld.start e1
def own_P (Z : State) (h : Heap) (a ah : Addr) (sd : Int32) (sp si : Int64) : Prop := Exa Z h a "com/example/delaunet/delaunet/core/sim/Pace" ∧ Fld Z h a "com/example/delaunet/delaunet/core/sim/Pace" "staying" "Z" (.int (0 : Int32)) ∧ Fld Z h a "com/example/delaunet/delaunet/core/sim/Pace" "awayNow" "Z" (.int (0 : Int32)) ∧ Fld Z h a "com/example/delaunet/delaunet/core/sim/Pace" "started" "I" (.int sd) ∧ Fld Z h a "com/example/delaunet/delaunet/core/sim/Pace" "spent" "J" (.long sp) ∧ Fld Z h a "com/example/delaunet/delaunet/core/sim/Pace" "since" "J" (.long si) ∧ Fld Z h a "com/example/delaunet/delaunet/core/sim/Pace" "here" "[D" (.ref ah) ∧ Fld Z h a "com/example/delaunet/delaunet/core/sim/Pace" "trials" "I" (.int (0 : Int32)) ∧ Fld Z h a "com/example/delaunet/delaunet/core/sim/Pace" "tried" "I" (.int (0 : Int32))
def own_QI (Z : State) (a : Addr) (h0 : Heap) (n0 : Nat) (v : Option Value) (h : Heap) (L : List Loc) : Prop := v = none ∧ Fr n0 L ∧ Keep h0 h [a] ∧ ∃ (ah : Addr) (k : ClassId), n0 ≤ ah ∧ h0.size ≤ ah ∧ Arv Z h ah k .double 5 [(.double (0 : UInt64)), (.double (0 : UInt64)), (.double (0 : UInt64)), (.double (0 : UInt64)), (.double (0 : UInt64))] (.double (0 : UInt64)) ∧ own_P Z h a ah 0 0 (-1)
def own_QC (Z : State) (b : Bool) (h0 : Heap) (n0 : Nat) (v : Option Value) (h : Heap) (L : List Loc) : Prop := v = some (.int (own_bI b)) ∧ Fr n0 L ∧ h = h0
def own_QE (Z : State) (a ah : Addr) (sd : Int32) (sp' : Int64) (h0 : Heap) (n0 : Nat) (v : Option Value) (h : Heap) (L : List Loc) : Prop := v = none ∧ Fr n0 L ∧ Keep h0 h [a] ∧ own_P Z h a ah sd sp' (-1)
def own_QS (Z : State) (a ah : Addr) (sd : Int32) (sp' now : Int64) (h0 : Heap) (n0 : Nat) (v : Option Value) (h : Heap) (L : List Loc) : Prop := v = some (.int 0) ∧ Fr n0 L ∧ Keep h0 h [a] ∧ own_P Z h a ah (sd + 1) sp' now
def own_QG (Z : State) (a : Addr) (h0 : Heap) (n0 : Nat) (v : Option Value) (h : Heap) (L : List Loc) : Prop := v = none ∧ Fr n0 L ∧ Keep h0 h [a] ∧ Exa Z h a "com/example/delaunet/delaunet/core/sim/Pace" ∧ Fld Z h a "com/example/delaunet/delaunet/core/sim/Pace" "staying" "Z" (.int (0 : Int32)) ∧ Fld Z h a "com/example/delaunet/delaunet/core/sim/Pace" "awayNow" "Z" (.int (1 : Int32)) ∧ Fld Z h a "com/example/delaunet/delaunet/core/sim/Pace" "started" "I" (.int (0 : Int32)) ∧ Fld Z h a "com/example/delaunet/delaunet/core/sim/Pace" "spent" "J" (.long (0 : Int64)) ∧ ∃ u, Fld Z h a "com/example/delaunet/delaunet/core/sim/Pace" "since" "J" u
def own_QT (Z : State) (a ah : Addr) (h0 : Heap) (n0 : Nat) (v : Option Value) (h : Heap) (L : List Loc) : Prop := v = none ∧ Fr n0 L ∧ Keep h0 h [a, ah] ∧ Exa Z h a "com/example/delaunet/delaunet/core/sim/Pace" ∧ Fld Z h a "com/example/delaunet/delaunet/core/sim/Pace" "staying" "Z" (.int (0 : Int32)) ∧ Fld Z h a "com/example/delaunet/delaunet/core/sim/Pace" "awayNow" "Z" (.int (1 : Int32)) ∧ Fld Z h a "com/example/delaunet/delaunet/core/sim/Pace" "started" "I" (.int (0 : Int32)) ∧ Fld Z h a "com/example/delaunet/delaunet/core/sim/Pace" "spent" "J" (.long (0 : Int64)) ∧ ∃ u, Fld Z h a "com/example/delaunet/delaunet/core/sim/Pace" "since" "J" u
def own_QU (Z : State) (a ah : Addr) (h0 : Heap) (n0 : Nat) (v : Option Value) (h : Heap) (L : List Loc) : Prop := v = some (.int 1) ∧ Fr n0 L ∧ Keep h0 h [a, ah] ∧ Exa Z h a "com/example/delaunet/delaunet/core/sim/Pace" ∧ Fld Z h a "com/example/delaunet/delaunet/core/sim/Pace" "staying" "Z" (.int (0 : Int32)) ∧ Fld Z h a "com/example/delaunet/delaunet/core/sim/Pace" "started" "I" (.int (1 : Int32)) ∧ Fld Z h a "com/example/delaunet/delaunet/core/sim/Pace" "spent" "J" (.long (0 : Int64))
def own_Q0 (Z : State) (h0 : Heap) (n0 : Nat) (v : Option Value) (h : Heap) (L : List Loc) : Prop := v = some (.int 1) ∧ Fr n0 L
abbrev own_done (sd : Int32) (sp : Int64) : Bool := decide (sd = 32 ∨ (2 < sd ∧ ¬ sp < 2000000))
theorem own_dT {sd : Int32} {sp : Int64} (h1 : 2 < sd) (h2 : ¬ sp < 2000000) : own_done sd sp = true := by simp [own_done, h1, h2]
theorem own_dS {sd : Int32} {sp : Int64} (h1 : sd ≠ 32) (h2 : ¬ 2 < sd) : own_done sd sp = false := by simp [own_done, h1, h2]
theorem own_dN {sd : Int32} {sp : Int64} (h1 : sd ≠ 32) (h2 : sp < 2000000) : own_done sd sp = false := by simp [own_done, h1, h2]
abbrev own_sp (sd : Int32) (sp si now : Int64) : Int64 := if ¬ si < 0 ∧ 1 < sd then sp + (now - si) else sp
theorem own_m63 (x : Int64) : ¬ (x &&& 9223372036854775807) < 0 := by
  have h := c_maskL x 9223372036854775807 63 (by decide) (by decide)
  rw [Int64.lt_iff_toInt_lt]
  show ¬ _ < (0 : Int)
  rw [h]; omega
theorem own_nn (sp : Int64) : Jvm.Free.Fl.NoNaN64 (FP.ddiv (FP.l2d sp) (FP.i2d (2 : Int32))) := by
  rw [i2d_w]
  exact ((ddiv_mag (Jvm.Free.Fl.l2d_mag sp) (l2d_big (v := (2 : Int32).toInt64) (by decide)) (by decide) (by decide)).fin (by decide)).noNaN
theorem own_d_prog_57_1_0 : decode prog_57_method_1_code 0 = .ok (.aload_n 0, 1) := by decide +kernel
theorem own_d_prog_57_1_1 : decode prog_57_method_1_code 1 = .ok (.invokespecial 1, 3) := by decide +kernel
theorem own_d_prog_57_1_4 : decode prog_57_method_1_code 4 = .ok (.aload_n 0, 1) := by decide +kernel
theorem own_d_prog_57_1_5 : decode prog_57_method_1_code 5 = .ok (.iconst 5, 1) := by decide +kernel
theorem own_d_prog_57_1_6 : decode prog_57_method_1_code 6 = .ok (.newarray .double, 2) := by decide +kernel
theorem own_d_prog_57_1_8 : decode prog_57_method_1_code 8 = .ok (.putfield 9, 3) := by decide +kernel
theorem own_d_prog_57_1_11 : decode prog_57_method_1_code 11 = .ok (.aload_n 0, 1) := by decide +kernel
theorem own_d_prog_57_1_12 : decode prog_57_method_1_code 12 = .ok (.iconst 5, 1) := by decide +kernel
theorem own_d_prog_57_1_13 : decode prog_57_method_1_code 13 = .ok (.newarray .double, 2) := by decide +kernel
theorem own_d_prog_57_1_15 : decode prog_57_method_1_code 15 = .ok (.putfield 13, 3) := by decide +kernel
theorem own_d_prog_57_1_18 : decode prog_57_method_1_code 18 = .ok (.aload_n 0, 1) := by decide +kernel
theorem own_d_prog_57_1_19 : decode prog_57_method_1_code 19 = .ok (.ldc2_w 16, 3) := by decide +kernel
theorem own_d_prog_57_1_22 : decode prog_57_method_1_code 22 = .ok (.putfield 18, 3) := by decide +kernel
theorem own_d_prog_57_1_25 : decode prog_57_method_1_code 25 = .ok (.return_, 1) := by decide +kernel
theorem own_pn14 : plainName "com/example/delaunet/delaunet/core/sim/Pace" = true := by first | (simp [plainName, overriddenIn]; done) | decide +kernel
theorem own_d_prog_57_2_0 : decode prog_57_method_2_code 0 = .ok (.aload_n 0, 1) := by decide +kernel
theorem own_d_prog_57_2_1 : decode prog_57_method_2_code 1 = .ok (.getfield 22, 3) := by decide +kernel
theorem own_d_prog_57_2_4 : decode prog_57_method_2_code 4 = .ok (.ifCond .eq 28, 3) := by decide +kernel
theorem own_d_prog_57_2_32 : decode prog_57_method_2_code 32 = .ok (.aload_n 0, 1) := by decide +kernel
theorem own_d_prog_57_2_33 : decode prog_57_method_2_code 33 = .ok (.getfield 26, 3) := by decide +kernel
theorem own_d_prog_57_2_36 : decode prog_57_method_2_code 36 = .ok (.bipush 32, 2) := by decide +kernel
theorem own_d_prog_57_2_38 : decode prog_57_method_2_code 38 = .ok (.if_icmp .eq 22, 3) := by decide +kernel
theorem own_d_prog_57_2_60 : decode prog_57_method_2_code 60 = .ok (.iconst 1, 1) := by decide +kernel
theorem own_d_prog_57_2_61 : decode prog_57_method_2_code 61 = .ok (.goto 4, 3) := by decide +kernel
theorem own_d_prog_57_2_65 : decode prog_57_method_2_code 65 = .ok (.istore_n 1, 1) := by decide +kernel
theorem own_d_prog_57_2_66 : decode prog_57_method_2_code 66 = .ok (.iload_n 1, 1) := by decide +kernel
theorem own_d_prog_57_2_67 : decode prog_57_method_2_code 67 = .ok (.ireturn, 1) := by decide +kernel
theorem own_d_prog_57_2_41 : decode prog_57_method_2_code 41 = .ok (.aload_n 0, 1) := by decide +kernel
theorem own_d_prog_57_2_42 : decode prog_57_method_2_code 42 = .ok (.getfield 26, 3) := by decide +kernel
theorem own_d_prog_57_2_45 : decode prog_57_method_2_code 45 = .ok (.iconst 2, 1) := by decide +kernel
theorem own_d_prog_57_2_46 : decode prog_57_method_2_code 46 = .ok (.if_icmp .le 18, 3) := by decide +kernel
theorem own_d_prog_57_2_49 : decode prog_57_method_2_code 49 = .ok (.aload_n 0, 1) := by decide +kernel
theorem own_d_prog_57_2_50 : decode prog_57_method_2_code 50 = .ok (.getfield 36, 3) := by decide +kernel
theorem own_d_prog_57_2_53 : decode prog_57_method_2_code 53 = .ok (.ldc2_w 39, 3) := by decide +kernel
theorem own_d_prog_57_2_56 : decode prog_57_method_2_code 56 = .ok (.lcmp, 1) := by decide +kernel
theorem own_d_prog_57_2_57 : decode prog_57_method_2_code 57 = .ok (.ifCond .lt 7, 3) := by decide +kernel
theorem own_d_prog_57_2_64 : decode prog_57_method_2_code 64 = .ok (.iconst 0, 1) := by decide +kernel
theorem own_d_prog_57_4_0 : decode prog_57_method_4_code 0 = .ok (.aload_n 0, 1) := by decide +kernel
theorem own_d_prog_57_4_1 : decode prog_57_method_4_code 1 = .ok (.getfield 18, 3) := by decide +kernel
theorem own_d_prog_57_4_4 : decode prog_57_method_4_code 4 = .ok (.lconst 0, 1) := by decide +kernel
theorem own_d_prog_57_4_5 : decode prog_57_method_4_code 5 = .ok (.lcmp, 1) := by decide +kernel
theorem own_d_prog_57_4_6 : decode prog_57_method_4_code 6 = .ok (.ifCond .lt 26, 3) := by decide +kernel
theorem own_d_prog_57_4_32 : decode prog_57_method_4_code 32 = .ok (.aload_n 0, 1) := by decide +kernel
theorem own_d_prog_57_4_33 : decode prog_57_method_4_code 33 = .ok (.ldc2_w 16, 3) := by decide +kernel
theorem own_d_prog_57_4_36 : decode prog_57_method_4_code 36 = .ok (.putfield 18, 3) := by decide +kernel
theorem own_d_prog_57_4_39 : decode prog_57_method_4_code 39 = .ok (.return_, 1) := by decide +kernel
theorem own_d_prog_57_4_9 : decode prog_57_method_4_code 9 = .ok (.aload_n 0, 1) := by decide +kernel
theorem own_d_prog_57_4_10 : decode prog_57_method_4_code 10 = .ok (.getfield 26, 3) := by decide +kernel
theorem own_d_prog_57_4_13 : decode prog_57_method_4_code 13 = .ok (.iconst 1, 1) := by decide +kernel
theorem own_d_prog_57_4_14 : decode prog_57_method_4_code 14 = .ok (.if_icmp .le 18, 3) := by decide +kernel
theorem own_d_prog_57_4_17 : decode prog_57_method_4_code 17 = .ok (.aload_n 0, 1) := by decide +kernel
theorem own_d_prog_57_4_18 : decode prog_57_method_4_code 18 = .ok (.dup, 1) := by decide +kernel
theorem own_d_prog_57_4_19 : decode prog_57_method_4_code 19 = .ok (.getfield 36, 3) := by decide +kernel
theorem own_d_prog_57_4_22 : decode prog_57_method_4_code 22 = .ok (.lload_n 1, 1) := by decide +kernel
theorem own_d_prog_57_4_23 : decode prog_57_method_4_code 23 = .ok (.aload_n 0, 1) := by decide +kernel
theorem own_d_prog_57_4_24 : decode prog_57_method_4_code 24 = .ok (.getfield 18, 3) := by decide +kernel
theorem own_d_prog_57_4_27 : decode prog_57_method_4_code 27 = .ok (.lsub, 1) := by decide +kernel
theorem own_d_prog_57_4_28 : decode prog_57_method_4_code 28 = .ok (.ladd, 1) := by decide +kernel
theorem own_d_prog_57_4_29 : decode prog_57_method_4_code 29 = .ok (.putfield 36, 3) := by decide +kernel
theorem own_d_prog_57_3_0 : decode prog_57_method_3_code 0 = .ok (.aload_n 0, 1) := by decide +kernel
theorem own_pd60 : parseMethodDescriptor "()Z" = some ⟨[], some .boolean⟩ := by decide +kernel
theorem own_d_prog_57_3_1 : decode prog_57_method_3_code 1 = .ok (.invokevirtual 41, 3) := by decide +kernel
theorem own_d_prog_57_3_4 : decode prog_57_method_3_code 4 = .ok (.istore_n 3, 1) := by decide +kernel
theorem own_d_prog_57_3_5 : decode prog_57_method_3_code 5 = .ok (.aload_n 0, 1) := by decide +kernel
theorem own_d_prog_57_3_6 : decode prog_57_method_3_code 6 = .ok (.lload_n 1, 1) := by decide +kernel
theorem own_pd65 : parseMethodDescriptor "(J)V" = some ⟨[.long], none⟩ := by decide +kernel
theorem own_d_prog_57_3_7 : decode prog_57_method_3_code 7 = .ok (.invokevirtual 45, 3) := by decide +kernel
theorem own_d_prog_57_3_10 : decode prog_57_method_3_code 10 = .ok (.iload_n 3, 1) := by decide +kernel
theorem own_d_prog_57_3_11 : decode prog_57_method_3_code 11 = .ok (.ifCond .eq 33, 3) := by decide +kernel
theorem own_d_prog_57_3_44 : decode prog_57_method_3_code 44 = .ok (.iload_n 3, 1) := by decide +kernel
theorem own_d_prog_57_3_45 : decode prog_57_method_3_code 45 = .ok (.ifCond .eq 7, 3) := by decide +kernel
theorem own_d_prog_57_3_52 : decode prog_57_method_3_code 52 = .ok (.aload_n 0, 1) := by decide +kernel
theorem own_d_prog_57_3_53 : decode prog_57_method_3_code 53 = .ok (.dup, 1) := by decide +kernel
theorem own_d_prog_57_3_54 : decode prog_57_method_3_code 54 = .ok (.getfield 26, 3) := by decide +kernel
theorem own_d_prog_57_3_57 : decode prog_57_method_3_code 57 = .ok (.iconst 1, 1) := by decide +kernel
theorem own_d_prog_57_3_58 : decode prog_57_method_3_code 58 = .ok (.iadd, 1) := by decide +kernel
theorem own_d_prog_57_3_59 : decode prog_57_method_3_code 59 = .ok (.putfield 26, 3) := by decide +kernel
theorem own_d_prog_57_3_62 : decode prog_57_method_3_code 62 = .ok (.aload_n 0, 1) := by decide +kernel
theorem own_d_prog_57_3_63 : decode prog_57_method_3_code 63 = .ok (.lload_n 1, 1) := by decide +kernel
theorem own_d_prog_57_3_64 : decode prog_57_method_3_code 64 = .ok (.putfield 18, 3) := by decide +kernel
theorem own_d_prog_57_3_67 : decode prog_57_method_3_code 67 = .ok (.aload_n 0, 1) := by decide +kernel
theorem own_d_prog_57_3_68 : decode prog_57_method_3_code 68 = .ok (.getfield 59, 3) := by decide +kernel
theorem own_d_prog_57_3_71 : decode prog_57_method_3_code 71 = .ok (.ireturn, 1) := by decide +kernel
theorem own_d_prog_57_6_0 : decode prog_57_method_6_code 0 = .ok (.aload_n 0, 1) := by decide +kernel
theorem own_d_prog_57_6_1 : decode prog_57_method_6_code 1 = .ok (.iload_n 1, 1) := by decide +kernel
theorem own_d_prog_57_6_2 : decode prog_57_method_6_code 2 = .ok (.putfield 59, 3) := by decide +kernel
theorem own_d_prog_57_6_5 : decode prog_57_method_6_code 5 = .ok (.aload_n 0, 1) := by decide +kernel
theorem own_d_prog_57_6_6 : decode prog_57_method_6_code 6 = .ok (.iconst 0, 1) := by decide +kernel
theorem own_d_prog_57_6_7 : decode prog_57_method_6_code 7 = .ok (.putfield 26, 3) := by decide +kernel
theorem own_d_prog_57_6_10 : decode prog_57_method_6_code 10 = .ok (.aload_n 0, 1) := by decide +kernel
theorem own_d_prog_57_6_11 : decode prog_57_method_6_code 11 = .ok (.lconst 0, 1) := by decide +kernel
theorem own_d_prog_57_6_12 : decode prog_57_method_6_code 12 = .ok (.putfield 36, 3) := by decide +kernel
theorem own_d_prog_57_6_15 : decode prog_57_method_6_code 15 = .ok (.return_, 1) := by decide +kernel
theorem own_d_prog_57_5_0 : decode prog_57_method_5_code 0 = .ok (.aload_n 0, 1) := by decide +kernel
theorem own_d_prog_57_5_1 : decode prog_57_method_5_code 1 = .ok (.getfield 59, 3) := by decide +kernel
theorem own_d_prog_57_5_4 : decode prog_57_method_5_code 4 = .ok (.ifCond .eq 10, 3) := by decide +kernel
theorem own_d_prog_57_5_14 : decode prog_57_method_5_code 14 = .ok (.aload_n 0, 1) := by decide +kernel
theorem own_d_prog_57_5_15 : decode prog_57_method_5_code 15 = .ok (.getfield 9, 3) := by decide +kernel
theorem own_d_prog_57_5_18 : decode prog_57_method_5_code 18 = .ok (.aload_n 0, 1) := by decide +kernel
theorem own_d_prog_57_5_19 : decode prog_57_method_5_code 19 = .ok (.getfield 49, 3) := by decide +kernel
theorem own_d_prog_57_5_22 : decode prog_57_method_5_code 22 = .ok (.iconst 2, 1) := by decide +kernel
theorem own_d_prog_57_5_23 : decode prog_57_method_5_code 23 = .ok (.idiv, 1) := by decide +kernel
theorem own_d_prog_57_5_24 : decode prog_57_method_5_code 24 = .ok (.aload_n 0, 1) := by decide +kernel
theorem own_d_prog_57_5_25 : decode prog_57_method_5_code 25 = .ok (.getfield 36, 3) := by decide +kernel
theorem own_d_prog_57_5_28 : decode prog_57_method_5_code 28 = .ok (.l2d, 1) := by decide +kernel
theorem own_d_prog_57_5_29 : decode prog_57_method_5_code 29 = .ok (.aload_n 0, 1) := by decide +kernel
theorem own_d_prog_57_5_30 : decode prog_57_method_5_code 30 = .ok (.getfield 26, 3) := by decide +kernel
theorem own_d_prog_57_5_33 : decode prog_57_method_5_code 33 = .ok (.iconst 1, 1) := by decide +kernel
theorem own_d_prog_57_5_34 : decode prog_57_method_5_code 34 = .ok (.isub, 1) := by decide +kernel
theorem own_d_prog_57_5_35 : decode prog_57_method_5_code 35 = .ok (.i2d, 1) := by decide +kernel
theorem own_d_prog_57_5_36 : decode prog_57_method_5_code 36 = .ok (.ddiv, 1) := by decide +kernel
theorem own_d_prog_57_5_37 : decode prog_57_method_5_code 37 = .ok (.dastore, 1) := by decide +kernel
theorem own_d_prog_57_5_38 : decode prog_57_method_5_code 38 = .ok (.aload_n 0, 1) := by decide +kernel
theorem own_d_prog_57_5_39 : decode prog_57_method_5_code 39 = .ok (.dup, 1) := by decide +kernel
theorem own_d_prog_57_5_40 : decode prog_57_method_5_code 40 = .ok (.getfield 49, 3) := by decide +kernel
theorem own_d_prog_57_5_43 : decode prog_57_method_5_code 43 = .ok (.iconst 1, 1) := by decide +kernel
theorem own_d_prog_57_5_44 : decode prog_57_method_5_code 44 = .ok (.iadd, 1) := by decide +kernel
theorem own_d_prog_57_5_45 : decode prog_57_method_5_code 45 = .ok (.putfield 49, 3) := by decide +kernel
theorem own_d_prog_57_5_48 : decode prog_57_method_5_code 48 = .ok (.aload_n 0, 1) := by decide +kernel
theorem own_d_prog_57_5_49 : decode prog_57_method_5_code 49 = .ok (.dup, 1) := by decide +kernel
theorem own_d_prog_57_5_50 : decode prog_57_method_5_code 50 = .ok (.getfield 33, 3) := by decide +kernel
theorem own_d_prog_57_5_53 : decode prog_57_method_5_code 53 = .ok (.aload_n 0, 1) := by decide +kernel
theorem own_d_prog_57_5_54 : decode prog_57_method_5_code 54 = .ok (.getfield 26, 3) := by decide +kernel
theorem own_d_prog_57_5_57 : decode prog_57_method_5_code 57 = .ok (.iadd, 1) := by decide +kernel
theorem own_d_prog_57_5_58 : decode prog_57_method_5_code 58 = .ok (.putfield 33, 3) := by decide +kernel
theorem own_d_prog_57_5_61 : decode prog_57_method_5_code 61 = .ok (.aload_n 0, 1) := by decide +kernel
theorem own_d_prog_57_5_62 : decode prog_57_method_5_code 62 = .ok (.getfield 49, 3) := by decide +kernel
theorem own_d_prog_57_5_65 : decode prog_57_method_5_code 65 = .ok (.bipush 10, 2) := by decide +kernel
theorem own_d_prog_57_5_67 : decode prog_57_method_5_code 67 = .ok (.if_icmp .ge 22, 3) := by decide +kernel
theorem own_d_prog_57_5_70 : decode prog_57_method_5_code 70 = .ok (.aload_n 0, 1) := by decide +kernel
theorem own_d_prog_57_5_71 : decode prog_57_method_5_code 71 = .ok (.aload_n 0, 1) := by decide +kernel
theorem own_d_prog_57_5_72 : decode prog_57_method_5_code 72 = .ok (.getfield 59, 3) := by decide +kernel
theorem own_d_prog_57_5_75 : decode prog_57_method_5_code 75 = .ok (.ifCond .ne 7, 3) := by decide +kernel
theorem own_d_prog_57_5_78 : decode prog_57_method_5_code 78 = .ok (.iconst 1, 1) := by decide +kernel
theorem own_d_prog_57_5_79 : decode prog_57_method_5_code 79 = .ok (.goto 4, 3) := by decide +kernel
theorem own_pd135 : parseMethodDescriptor "(Z)V" = some ⟨[.boolean], none⟩ := by decide +kernel
theorem own_d_prog_57_5_83 : decode prog_57_method_5_code 83 = .ok (.invokevirtual 52, 3) := by decide +kernel
theorem own_d_prog_57_5_86 : decode prog_57_method_5_code 86 = .ok (.goto 91, 3) := by decide +kernel
theorem own_d_prog_57_5_177 : decode prog_57_method_5_code 177 = .ok (.return_, 1) := by decide +kernel
theorem own_d_prog_57_3_14 : decode prog_57_method_3_code 14 = .ok (.aload_n 0, 1) := by decide +kernel
theorem own_d_prog_57_3_15 : decode prog_57_method_3_code 15 = .ok (.getfield 22, 3) := by decide +kernel
theorem own_d_prog_57_3_18 : decode prog_57_method_3_code 18 = .ok (.ifCond .eq 26, 3) := by decide +kernel
theorem own_d_prog_57_3_48 : decode prog_57_method_3_code 48 = .ok (.aload_n 0, 1) := by decide +kernel
theorem own_pd143 : parseMethodDescriptor "()V" = some ⟨[], none⟩ := by decide +kernel
theorem own_d_prog_57_3_49 : decode prog_57_method_3_code 49 = .ok (.invokevirtual 56, 3) := by decide +kernel
theorem own_pd145 : parseMethodDescriptor "(J)Z" = some ⟨[.long], some .boolean⟩ := by decide +kernel
theorem own_pn146 : plainName "com/example/delaunet/delaunet/core/sim/PaceCompletePinLaw" = true := by first | (simp [plainName, overriddenIn]; done) | decide +kernel
theorem own_rmI_ef (m : MethodId) (a : Addr) : entryFrame m #[(.ref a)] 1 = mkF m 0 #[.val (.ref a)] [] := by first | (simp [entryFrame, mkF, argsToLocals, Value.category]; done) | rfl
set_option maxRecDepth 65536 in
set_option maxHeartbeats 40000000 in
theorem own_rmI (l : Launch) (Z : State) (a0 : Array Value) (hw : ∀ d ∈ tables_1, d.before a0 Z = true) (ws : List Jvm.Cond) (a : Addr) (h0 : Heap) (n0 : Nat) (Z0 : n0 ≤ h0.size) (E_a : Exa Z h0 a "com/example/delaunet/delaunet/core/sim/Pace") (Fhere : Fld Z h0 a "com/example/delaunet/delaunet/core/sim/Pace" "here" "[D" .null) (Faway : Fld Z h0 a "com/example/delaunet/delaunet/core/sim/Pace" "away" "[D" .null) (Fstaying : Fld Z h0 a "com/example/delaunet/delaunet/core/sim/Pace" "staying" "Z" (.int (0 : Int32))) (FawayNow : Fld Z h0 a "com/example/delaunet/delaunet/core/sim/Pace" "awayNow" "Z" (.int (0 : Int32))) (Fstarted : Fld Z h0 a "com/example/delaunet/delaunet/core/sim/Pace" "started" "I" (.int (0 : Int32))) (Fspent : Fld Z h0 a "com/example/delaunet/delaunet/core/sim/Pace" "spent" "J" (.long (0 : Int64))) (Fsince : Fld Z h0 a "com/example/delaunet/delaunet/core/sim/Pace" "since" "J" (.long (0 : Int64))) (Ftrials : Fld Z h0 a "com/example/delaunet/delaunet/core/sim/Pace" "trials" "I" (.int (0 : Int32))) (Ftried : Fld Z h0 a "com/example/delaunet/delaunet/core/sim/Pace" "tried" "I" (.int (0 : Int32))) (g_a : n0 ≤ a) :
    MetFree l (⟨"com/example/delaunet/delaunet/core/sim/Pace", "<init>", "()V"⟩ : MethodName) (head1 (Jvm.Cond.code (⟨"com/example/delaunet/delaunet/core/sim/Pace", "<init>", "()V"⟩ : MethodName) prog_57_method_1_code 1 none :: ws) ({ frames := 1, cells := 2, slots := 10, locals := 12 } : Room)) (fun aa_ U => aa_ = #[(.ref a)] ∧ Z.Warmed39 U.vm ∧ U.heap = h0) (fun _ _ _ _ _ => True) (fun _ U oo_ U' => ∃ vv_ LL_, oo_ = .returned vv_ ∧ own_QI Z a h0 n0 vv_ U'.heap LL_ ∧ FrameEnd U oo_ U' LL_ ({ frames := 1, cells := 2, slots := 10, locals := 12 } : Room).cells ({ frames := 1, cells := 2, slots := 10, locals := 12 } : Room).slots) := by
  refine MetFree.of_bodySF (plainFor_of_name own_pn14) hisR ?_
  intro p e s m args below meth c s₁ Bd hml0 hP hK
  obtain ⟨rfl, hZ, hh⟩ := hP
  have hx := Bd.exec
  have hby := Bd.bytes
  have hml : c.maxLocals = 1 := hml0
  have hown : s.vm.findClass "com/example/delaunet/delaunet/core/sim/Pace" = some m.cls := findClass_of_methodNamed Bd.named
  have hnm := (name_of_methodNamed Bd.named Bd.method).1
  have hlk := Bd.notSynchronized
  have hret := Bd.returns
  have X0 : Stand p l e ({ frames := 1, cells := 2, slots := 10, locals := 12 } : Room) s m #[(.ref a)] below meth c s₁ [] 0 0 := Stand.of_body Bd
  have e0 : s₁.heap = h0 := by rw [← hh, Bd.state]; rfl
  have N0 := Fr.nil n0
  show Goes p e below s (own_QI Z a h0 n0) ({ frames := 1, cells := 2, slots := 10, locals := 12 } : Room).cells ({ frames := 1, cells := 2, slots := 10, locals := 12 } : Room).slots _
  refine Goes.cast (own_rmI_ef m a) ?_
  have K0 := Keep.refl h0 [a]
  show Goes p e below s _ _ _ (s₁.setTop (mkF m 0 #[.val (.ref a)] []))
  refine Goes.st (fun t_ k_ => XS.aloadN X0.here hx rfl (hb hby own_d_prog_57_1_0) rfl rfl k_) ?_
  show Goes p e below s _ _ _ (s₁.setTop (mkF m 1 #[.val (.ref a)] [(.ref a)]))
  obtain ⟨T1, X1, e1, st1⟩ := initO X0 hx hZ hown (hw _ (List.mem_of_getElem? (i := 8) rfl)) (hw _ (List.mem_of_getElem? (i := 9) rfl)) (hw _ (List.mem_of_getElem? (i := 10) rfl)) e0 (g := (mkF m 1 #[.val (.ref a)] [(.ref a)])) rfl (by rw [hml]; rfl) rfl (hb hby own_d_prog_57_1_1) (by decide) (W := 0) (by show 2 * 0 + _ ≤ _; exact Nat.le_of_eq rfl) (by decide)
  refine Goes.st st1 ?_
  show Goes p e below s _ _ _ (T1.setTop (mkF m 4 #[.val (.ref a)] []))
  refine Goes.st (fun t_ k_ => XS.aloadN X1.here hx rfl (hb hby own_d_prog_57_1_4) rfl rfl k_) ?_
  show Goes p e below s _ _ _ (T1.setTop (mkF m 5 #[.val (.ref a)] [(.ref a)]))
  refine Goes.st (fun t_ k_ => XS.iconst X1.here hx rfl (hb hby own_d_prog_57_1_5) k_) ?_
  show Goes p e below s _ _ _ (T1.setTop (mkF m 6 #[.val (.ref a)] [(.int (5 : Int32)), (.ref a)]))
  obtain ⟨T2, h2, k2, X2, e2, E2, A2, st2⟩ := newP X1 hx hZ (hw _ (List.mem_of_getElem? (i := 11) rfl)) e1 (g := (mkF m 6 #[.val (.ref a)] [(.int (5 : Int32)), (.ref a)])) rfl (hb hby own_d_prog_57_1_6) rfl (by decide) (cap := 5) (by decide) (by decide) (by decide) (by decide)
  obtain ⟨b2, g2⟩ : ∃ z, z = h0.size := ⟨_, rfl⟩
  rw [← g2] at A2 st2
  have ne_a_b2 : a ≠ b2 := Nat.ne_of_lt (Nat.lt_of_lt_of_le E_a.lt (Nat.le_of_eq g2.symm))
  have gn_b2 : n0 ≤ b2 := Nat.le_trans Z0 (Nat.le_of_eq g2.symm)
  have kn_b2 : h0.size ≤ b2 := Nat.le_trans K0.1 (Nat.le_of_eq g2.symm)
  refine Goes.st st2 ?_
  have E_a := E_a.ext E2
  have Fhere := Fhere.ext E2
  have Faway := Faway.ext E2
  have Fstaying := Fstaying.ext E2
  have FawayNow := FawayNow.ext E2
  have Fstarted := Fstarted.ext E2
  have Fspent := Fspent.ext E2
  have Fsince := Fsince.ext E2
  have Ftrials := Ftrials.ext E2
  have Ftried := Ftried.ext E2
  have Z0' := Nat.le_trans Z0 E2.1
  have K0 := K0.ext E2
  have V_b2 : Arv Z h2 b2 k2 .double (5 : Int32) [(.double (0 : UInt64)), (.double (0 : UInt64)), (.double (0 : UInt64)), (.double (0 : UInt64)), (.double (0 : UInt64))] (.double (0 : UInt64)) := (Arv.new A2 (by decide)).pad (pad_rep [] (.double (0 : UInt64)) 5)
  show Goes p e below s _ _ _ (T2.setTop (mkF m 8 #[.val (.ref a)] [(.ref b2), (.ref a)]))
  show Goes p e below s _ _ _ (T2.setTop (mkF m 8 #[.val (.ref a)] [(.ref b2), (.ref a)]))
  obtain ⟨T3, h3, X3, e3, W3, st3⟩ := putF X2 hx hZ hown (host := "") (Or.inl (hw _ (List.mem_of_getElem? (i := 12) rfl))) Via.refl e2 Fhere E_a (Or.inr ⟨(hw _ (List.mem_of_getElem? (i := 13) rfl)), rfl, hnm⟩) (hw _ (List.mem_of_getElem? (i := 3) rfl)) (ty := (.array .double)) (by decide) rfl rfl (g := (mkF m 8 #[.val (.ref a)] [(.ref b2), (.ref a)])) rfl rfl (hb hby own_d_prog_57_1_8)
  refine Goes.st st3 ?_
  have E_a := E_a.wr W3
  have Fhere := Fhere.same W3
  have Faway := Faway.other W3 (Or.inr (slot_ne (Or.inr (hw _ (List.mem_of_getElem? (i := 15) rfl))) (Or.inr (hw _ (List.mem_of_getElem? (i := 13) rfl))) (by decide) (t := (.array .double)) (t' := (.array .double)) (by decide) (by decide)))
  have Fstaying := Fstaying.other W3 (Or.inr (slot_ne (Or.inl (hw _ (List.mem_of_getElem? (i := 25) rfl))) (Or.inr (hw _ (List.mem_of_getElem? (i := 13) rfl))) (by decide) (t := .boolean) (t' := (.array .double)) (by decide) (by decide)))
  have FawayNow := FawayNow.other W3 (Or.inr (slot_ne (Or.inl (hw _ (List.mem_of_getElem? (i := 40) rfl))) (Or.inr (hw _ (List.mem_of_getElem? (i := 13) rfl))) (by decide) (t := .boolean) (t' := (.array .double)) (by decide) (by decide)))
  have Fstarted := Fstarted.other W3 (Or.inr (slot_ne (Or.inl (hw _ (List.mem_of_getElem? (i := 27) rfl))) (Or.inr (hw _ (List.mem_of_getElem? (i := 13) rfl))) (by decide) (t := .int) (t' := (.array .double)) (by decide) (by decide)))
  have Fspent := Fspent.other W3 (Or.inr (slot_ne (Or.inl (hw _ (List.mem_of_getElem? (i := 42) rfl))) (Or.inr (hw _ (List.mem_of_getElem? (i := 13) rfl))) (by decide) (t := .long) (t' := (.array .double)) (by decide) (by decide)))
  have Fsince := Fsince.other W3 (Or.inr (slot_ne (Or.inl (hw _ (List.mem_of_getElem? (i := 18) rfl))) (Or.inr (hw _ (List.mem_of_getElem? (i := 13) rfl))) (by decide) (t := .long) (t' := (.array .double)) (by decide) (by decide)))
  have Ftrials := Ftrials.other W3 (Or.inr (slot_ne (Or.inl (hw _ (List.mem_of_getElem? (i := 49) rfl))) (Or.inr (hw _ (List.mem_of_getElem? (i := 13) rfl))) (by decide) (t := .int) (t' := (.array .double)) (by decide) (by decide)))
  have Ftried := Ftried.other W3 (Or.inr (slot_ne (Or.inl (hw _ (List.mem_of_getElem? (i := 51) rfl))) (Or.inr (hw _ (List.mem_of_getElem? (i := 13) rfl))) (by decide) (t := .int) (t' := (.array .double)) (by decide) (by decide)))
  have V_b2 := V_b2.other W3 (Ne.symm ne_a_b2)
  have N3 := Fr.snoc X3 N0 g_a
  have Z0'' := Nat.le_trans Z0' (Keep.of_wr W3).1
  have K0 := K0.wr W3 (Or.inl (List.mem_of_getElem? (i := 0) rfl))
  show Goes p e below s _ _ _ (T3.setTop (mkF m 11 #[.val (.ref a)] []))
  refine Goes.st (fun t_ k_ => XS.aloadN X3.here hx rfl (hb hby own_d_prog_57_1_11) rfl rfl k_) ?_
  show Goes p e below s _ _ _ (T3.setTop (mkF m 12 #[.val (.ref a)] [(.ref a)]))
  refine Goes.st (fun t_ k_ => XS.iconst X3.here hx rfl (hb hby own_d_prog_57_1_12) k_) ?_
  show Goes p e below s _ _ _ (T3.setTop (mkF m 13 #[.val (.ref a)] [(.int (5 : Int32)), (.ref a)]))
  obtain ⟨T4, h4, k4, X4, e4, E4, A4, st4⟩ := newP X3 hx hZ (hw _ (List.mem_of_getElem? (i := 11) rfl)) e3 (g := (mkF m 13 #[.val (.ref a)] [(.int (5 : Int32)), (.ref a)])) rfl (hb hby own_d_prog_57_1_13) rfl (by decide) (cap := 5) (by decide) (by decide) (by decide) (by decide)
  obtain ⟨b4, g4⟩ : ∃ z, z = h3.size := ⟨_, rfl⟩
  rw [← g4] at A4 st4
  have ne_a_b4 : a ≠ b4 := Nat.ne_of_lt (Nat.lt_of_lt_of_le E_a.lt (Nat.le_of_eq g4.symm))
  have ne_b2_b4 : b2 ≠ b4 := Nat.ne_of_lt (Nat.lt_of_lt_of_le V_b2.lt (Nat.le_of_eq g4.symm))
  have gn_b4 : n0 ≤ b4 := Nat.le_trans Z0'' (Nat.le_of_eq g4.symm)
  have kn_b4 : h0.size ≤ b4 := Nat.le_trans K0.1 (Nat.le_of_eq g4.symm)
  refine Goes.st st4 ?_
  have E_a := E_a.ext E4
  have Fhere := Fhere.ext E4
  have Faway := Faway.ext E4
  have Fstaying := Fstaying.ext E4
  have FawayNow := FawayNow.ext E4
  have Fstarted := Fstarted.ext E4
  have Fspent := Fspent.ext E4
  have Fsince := Fsince.ext E4
  have Ftrials := Ftrials.ext E4
  have Ftried := Ftried.ext E4
  have V_b2 := V_b2.ext E4
  have Z0''' := Nat.le_trans Z0'' E4.1
  have K0 := K0.ext E4
  have V_b4 : Arv Z h4 b4 k4 .double (5 : Int32) [(.double (0 : UInt64)), (.double (0 : UInt64)), (.double (0 : UInt64)), (.double (0 : UInt64)), (.double (0 : UInt64))] (.double (0 : UInt64)) := (Arv.new A4 (by decide)).pad (pad_rep [] (.double (0 : UInt64)) 5)
  show Goes p e below s _ _ _ (T4.setTop (mkF m 15 #[.val (.ref a)] [(.ref b4), (.ref a)]))
  obtain ⟨T5, h5, X5, e5, W5, st5⟩ := putF X4 hx hZ hown (host := "") (Or.inl (hw _ (List.mem_of_getElem? (i := 14) rfl))) Via.refl e4 Faway E_a (Or.inr ⟨(hw _ (List.mem_of_getElem? (i := 15) rfl)), rfl, hnm⟩) (hw _ (List.mem_of_getElem? (i := 3) rfl)) (ty := (.array .double)) (by decide) rfl rfl (g := (mkF m 15 #[.val (.ref a)] [(.ref b4), (.ref a)])) rfl rfl (hb hby own_d_prog_57_1_15)
  refine Goes.st st5 ?_
  have E_a := E_a.wr W5
  have Fhere := Fhere.other W5 (Or.inr (slot_ne (Or.inr (hw _ (List.mem_of_getElem? (i := 13) rfl))) (Or.inr (hw _ (List.mem_of_getElem? (i := 15) rfl))) (by decide) (t := (.array .double)) (t' := (.array .double)) (by decide) (by decide)))
  have Faway := Faway.same W5
  have Fstaying := Fstaying.other W5 (Or.inr (slot_ne (Or.inl (hw _ (List.mem_of_getElem? (i := 25) rfl))) (Or.inr (hw _ (List.mem_of_getElem? (i := 15) rfl))) (by decide) (t := .boolean) (t' := (.array .double)) (by decide) (by decide)))
  have FawayNow := FawayNow.other W5 (Or.inr (slot_ne (Or.inl (hw _ (List.mem_of_getElem? (i := 40) rfl))) (Or.inr (hw _ (List.mem_of_getElem? (i := 15) rfl))) (by decide) (t := .boolean) (t' := (.array .double)) (by decide) (by decide)))
  have Fstarted := Fstarted.other W5 (Or.inr (slot_ne (Or.inl (hw _ (List.mem_of_getElem? (i := 27) rfl))) (Or.inr (hw _ (List.mem_of_getElem? (i := 15) rfl))) (by decide) (t := .int) (t' := (.array .double)) (by decide) (by decide)))
  have Fspent := Fspent.other W5 (Or.inr (slot_ne (Or.inl (hw _ (List.mem_of_getElem? (i := 42) rfl))) (Or.inr (hw _ (List.mem_of_getElem? (i := 15) rfl))) (by decide) (t := .long) (t' := (.array .double)) (by decide) (by decide)))
  have Fsince := Fsince.other W5 (Or.inr (slot_ne (Or.inl (hw _ (List.mem_of_getElem? (i := 18) rfl))) (Or.inr (hw _ (List.mem_of_getElem? (i := 15) rfl))) (by decide) (t := .long) (t' := (.array .double)) (by decide) (by decide)))
  have Ftrials := Ftrials.other W5 (Or.inr (slot_ne (Or.inl (hw _ (List.mem_of_getElem? (i := 49) rfl))) (Or.inr (hw _ (List.mem_of_getElem? (i := 15) rfl))) (by decide) (t := .int) (t' := (.array .double)) (by decide) (by decide)))
  have Ftried := Ftried.other W5 (Or.inr (slot_ne (Or.inl (hw _ (List.mem_of_getElem? (i := 51) rfl))) (Or.inr (hw _ (List.mem_of_getElem? (i := 15) rfl))) (by decide) (t := .int) (t' := (.array .double)) (by decide) (by decide)))
  have V_b2 := V_b2.other W5 (Ne.symm ne_a_b2)
  have V_b4 := V_b4.other W5 (Ne.symm ne_a_b4)
  have N5 := Fr.snoc X5 N3 g_a
  have Z0'''' := Nat.le_trans Z0''' (Keep.of_wr W5).1
  have K0 := K0.wr W5 (Or.inl (List.mem_of_getElem? (i := 0) rfl))
  show Goes p e below s _ _ _ (T5.setTop (mkF m 18 #[.val (.ref a)] []))
  refine Goes.st (fun t_ k_ => XS.aloadN X5.here hx rfl (hb hby own_d_prog_57_1_18) rfl rfl k_) ?_
  show Goes p e below s _ _ _ (T5.setTop (mkF m 19 #[.val (.ref a)] [(.ref a)]))
  refine Goes.st (fun t_ k_ => X5.ldc2Long hx hown (mvT hZ (hw _ (List.mem_of_getElem? (i := 16) rfl))) (g := (mkF m 19 #[.val (.ref a)] [(.ref a)])) rfl (hb hby own_d_prog_57_1_19) _ k_) ?_
  show Goes p e below s _ _ _ (T5.setTop (mkF m 22 #[.val (.ref a)] [(.long (-1 : Int64)), (.ref a)]))
  obtain ⟨T6, h6, X6, e6, W6, st6⟩ := putF X5 hx hZ hown (host := "") (Or.inl (hw _ (List.mem_of_getElem? (i := 17) rfl))) Via.refl e5 Fsince E_a (Or.inl (hw _ (List.mem_of_getElem? (i := 18) rfl))) (hw _ (List.mem_of_getElem? (i := 3) rfl)) (ty := .long) (by decide) rfl rfl (g := (mkF m 22 #[.val (.ref a)] [(.long (-1 : Int64)), (.ref a)])) rfl rfl (hb hby own_d_prog_57_1_22)
  refine Goes.st st6 ?_
  have E_a := E_a.wr W6
  have Fhere := Fhere.other W6 (Or.inr (slot_ne (Or.inr (hw _ (List.mem_of_getElem? (i := 13) rfl))) (Or.inl (hw _ (List.mem_of_getElem? (i := 18) rfl))) (by decide) (t := (.array .double)) (t' := .long) (by decide) (by decide)))
  have Faway := Faway.other W6 (Or.inr (slot_ne (Or.inr (hw _ (List.mem_of_getElem? (i := 15) rfl))) (Or.inl (hw _ (List.mem_of_getElem? (i := 18) rfl))) (by decide) (t := (.array .double)) (t' := .long) (by decide) (by decide)))
  have Fstaying := Fstaying.other W6 (Or.inr (slot_ne (Or.inl (hw _ (List.mem_of_getElem? (i := 25) rfl))) (Or.inl (hw _ (List.mem_of_getElem? (i := 18) rfl))) (by decide) (t := .boolean) (t' := .long) (by decide) (by decide)))
  have FawayNow := FawayNow.other W6 (Or.inr (slot_ne (Or.inl (hw _ (List.mem_of_getElem? (i := 40) rfl))) (Or.inl (hw _ (List.mem_of_getElem? (i := 18) rfl))) (by decide) (t := .boolean) (t' := .long) (by decide) (by decide)))
  have Fstarted := Fstarted.other W6 (Or.inr (slot_ne (Or.inl (hw _ (List.mem_of_getElem? (i := 27) rfl))) (Or.inl (hw _ (List.mem_of_getElem? (i := 18) rfl))) (by decide) (t := .int) (t' := .long) (by decide) (by decide)))
  have Fspent := Fspent.other W6 (Or.inr (slot_ne (Or.inl (hw _ (List.mem_of_getElem? (i := 42) rfl))) (Or.inl (hw _ (List.mem_of_getElem? (i := 18) rfl))) (by decide) (t := .long) (t' := .long) (by decide) (by decide)))
  have Fsince := Fsince.same W6
  have Ftrials := Ftrials.other W6 (Or.inr (slot_ne (Or.inl (hw _ (List.mem_of_getElem? (i := 49) rfl))) (Or.inl (hw _ (List.mem_of_getElem? (i := 18) rfl))) (by decide) (t := .int) (t' := .long) (by decide) (by decide)))
  have Ftried := Ftried.other W6 (Or.inr (slot_ne (Or.inl (hw _ (List.mem_of_getElem? (i := 51) rfl))) (Or.inl (hw _ (List.mem_of_getElem? (i := 18) rfl))) (by decide) (t := .int) (t' := .long) (by decide) (by decide)))
  have V_b2 := V_b2.other W6 (Ne.symm ne_a_b2)
  have V_b4 := V_b4.other W6 (Ne.symm ne_a_b4)
  have N6 := Fr.snoc X6 N5 g_a
  have Z0''''' := Nat.le_trans Z0'''' (Keep.of_wr W6).1
  have K0 := K0.wr W6 (Or.inl (List.mem_of_getElem? (i := 0) rfl))
  show Goes p e below s _ _ _ (T6.setTop (mkF m 25 #[.val (.ref a)] []))
  rw [← e6] at K0 E_a Fstaying FawayNow Fstarted Fspent Fsince Fhere Ftrials Ftried V_b2
  exact Goes.ret0 X6 hx hret hlk (hb hby own_d_prog_57_1_25) (by decide) (by decide) (⟨rfl, N6, K0, b2, k2, gn_b2, kn_b2, V_b2, E_a, Fstaying, FawayNow, Fstarted, Fspent, Fsince, Fhere, Ftrials, Ftried⟩)
theorem own_rmC_ef (m : MethodId) (a : Addr) : entryFrame m #[(.ref a)] 2 = mkF m 0 #[.val (.ref a), .unset] [] := by first | (simp [entryFrame, mkF, argsToLocals, Value.category]; done) | rfl
set_option maxRecDepth 65536 in
set_option maxHeartbeats 40000000 in
theorem own_rmC (l : Launch) (Z : State) (a0 : Array Value) (hw : ∀ d ∈ tables_1, d.before a0 Z = true) (ws : List Jvm.Cond) (a : Addr) (sd : Int32) (sp : Int64) (b : Bool) (h0 : Heap) (n0 : Nat) (Z0 : n0 ≤ h0.size) (Fs : Fld Z h0 a "com/example/delaunet/delaunet/core/sim/Pace" "staying" "Z" (.int (0 : Int32))) (Fd : Fld Z h0 a "com/example/delaunet/delaunet/core/sim/Pace" "started" "I" (.int sd)) (Fp : Fld Z h0 a "com/example/delaunet/delaunet/core/sim/Pace" "spent" "J" (.long sp)) (hb1 : own_done sd sp = b) :
    MetFree l (⟨"com/example/delaunet/delaunet/core/sim/Pace", "complete", "()Z"⟩ : MethodName) (head1 (Jvm.Cond.code (⟨"com/example/delaunet/delaunet/core/sim/Pace", "complete", "()Z"⟩ : MethodName) prog_57_method_2_code 2 (some .boolean) :: ws) ({ frames := 0, cells := 0, slots := 0, locals := 0 } : Room)) (fun aa_ U => aa_ = #[(.ref a)] ∧ Z.Warmed39 U.vm ∧ U.heap = h0) (fun _ _ _ _ _ => True) (fun _ U oo_ U' => ∃ vv_ LL_, oo_ = .returned vv_ ∧ own_QC Z b h0 n0 vv_ U'.heap LL_ ∧ FrameEnd U oo_ U' LL_ ({ frames := 0, cells := 0, slots := 0, locals := 0 } : Room).cells ({ frames := 0, cells := 0, slots := 0, locals := 0 } : Room).slots) := by
  refine MetFree.of_bodySF (plainFor_of_name own_pn14) hisR ?_
  intro p e s m args below meth c s₁ Bd hml0 hP hK
  obtain ⟨rfl, hZ, hh⟩ := hP
  have hx := Bd.exec
  have hby := Bd.bytes
  have hml : c.maxLocals = 2 := hml0
  have hown : s.vm.findClass "com/example/delaunet/delaunet/core/sim/Pace" = some m.cls := findClass_of_methodNamed Bd.named
  have hnm := (name_of_methodNamed Bd.named Bd.method).1
  have hlk := Bd.notSynchronized
  have hret := Bd.returns
  have X0 : Stand p l e ({ frames := 0, cells := 0, slots := 0, locals := 0 } : Room) s m #[(.ref a)] below meth c s₁ [] 0 0 := Stand.of_body Bd
  have e0 : s₁.heap = h0 := by rw [← hh, Bd.state]; rfl
  have N0 := Fr.nil n0
  show Goes p e below s (own_QC Z b h0 n0) ({ frames := 0, cells := 0, slots := 0, locals := 0 } : Room).cells ({ frames := 0, cells := 0, slots := 0, locals := 0 } : Room).slots _
  refine Goes.cast (own_rmC_ef m a) ?_
  show Goes p e below s _ _ _ (s₁.setTop (mkF m 0 #[.val (.ref a), .unset] []))
  refine Goes.st (fun t_ k_ => XS.aloadN X0.here hx rfl (hb hby own_d_prog_57_2_0) rfl rfl k_) ?_
  show Goes p e below s _ _ _ (s₁.setTop (mkF m 1 #[.val (.ref a), .unset] [(.ref a)]))
  obtain ⟨T7, X7, e7, st7⟩ := getF X0 hx hZ hown (host := "") (Or.inl (hw _ (List.mem_of_getElem? (i := 24) rfl))) Via.refl e0 Fs (g := (mkF m 1 #[.val (.ref a), .unset] [(.ref a)])) rfl rfl (hb hby own_d_prog_57_2_1)
  refine Goes.st st7 ?_
  show Goes p e below s _ _ _ (T7.setTop (mkF m 4 #[.val (.ref a), .unset] [(.int (0 : Int32))]))
  refine Goes.st (fun t_ k_ => XS.ifYes X7.here hx rfl (pc0 := 4) (pc' := 32) rfl (hb hby own_d_prog_57_2_4) rfl ((if0 _ _).trans (teq (rfl : (0 : Int32) = 0)).1) (by decide) (by decide) k_) ?_
  show Goes p e below s _ _ _ (T7.setTop (mkF m 32 #[.val (.ref a), .unset] []))
  refine Goes.st (fun t_ k_ => XS.aloadN X7.here hx rfl (hb hby own_d_prog_57_2_32) rfl rfl k_) ?_
  show Goes p e below s _ _ _ (T7.setTop (mkF m 33 #[.val (.ref a), .unset] [(.ref a)]))
  obtain ⟨T8, X8, e8, st8⟩ := getF X7 hx hZ hown (host := "") (Or.inl (hw _ (List.mem_of_getElem? (i := 26) rfl))) Via.refl e7 Fd (g := (mkF m 33 #[.val (.ref a), .unset] [(.ref a)])) rfl rfl (hb hby own_d_prog_57_2_33)
  refine Goes.st st8 ?_
  show Goes p e below s _ _ _ (T8.setTop (mkF m 36 #[.val (.ref a), .unset] [(.int sd)]))
  refine Goes.st (fun t_ k_ => XS.bipush X8.here hx rfl (hb hby own_d_prog_57_2_36) k_) ?_
  show Goes p e below s _ _ _ (T8.setTop (mkF m 38 #[.val (.ref a), .unset] [(.int (32 : Int32)), (.int sd)]))
  by_cases hc1 : sd = (32 : Int32)
  · refine Goes.st (fun t_ k_ => XS.icmpYes X8.here hx rfl (pc0 := 38) (pc' := 60) rfl (hb hby own_d_prog_57_2_38) rfl (teq hc1).1 (by decide) (by decide) k_) ?_
    have hb2 : b = true := by rw [← hb1]; simp [own_done, hc1]
    show Goes p e below s _ _ _ (T8.setTop (mkF m 60 #[.val (.ref a), .unset] []))
    refine Goes.st (fun t_ k_ => XS.iconst X8.here hx rfl (hb hby own_d_prog_57_2_60) k_) ?_
    show Goes p e below s _ _ _ (T8.setTop (mkF m 61 #[.val (.ref a), .unset] [(.int (1 : Int32))]))
    refine Goes.st (fun t_ k_ => XS.goto X8.here hx rfl (pc0 := 61) (pc' := 65) rfl (hb hby own_d_prog_57_2_61) (by decide) (by decide) k_) ?_
    show Goes p e below s _ _ _ (T8.setTop (mkF m 65 #[.val (.ref a), .unset] [(.int (1 : Int32))]))
    refine Goes.st (fun t_ k_ => XS.istoreN X8.here hx rfl (hb hby own_d_prog_57_2_65) rfl  (l' := #[.val (.ref a), .val (.int (1 : Int32))]) rfl k_) ?_
    show Goes p e below s _ _ _ (T8.setTop (mkF m 66 #[.val (.ref a), .val (.int (1 : Int32))] []))
    refine Goes.st (fun t_ k_ => XS.iloadN X8.here hx rfl (hb hby own_d_prog_57_2_66) rfl  k_) ?_
    show Goes p e below s _ _ _ (T8.setTop (mkF m 67 #[.val (.ref a), .val (.int (1 : Int32))] [(.int (1 : Int32))]))
    exact Goes.retN X8 hx (t := .boolean) hret hlk (by simp) (hb hby own_d_prog_57_2_67) (by decide) (by decide) (⟨by rw [hb2]; rfl, N0, e8⟩)
  · refine Goes.st (fun t_ k_ => XS.icmpNo X8.here hx rfl (hb hby own_d_prog_57_2_38) rfl (feq hc1).1 k_) ?_
    show Goes p e below s _ _ _ (T8.setTop (mkF m 41 #[.val (.ref a), .unset] []))
    refine Goes.st (fun t_ k_ => XS.aloadN X8.here hx rfl (hb hby own_d_prog_57_2_41) rfl rfl k_) ?_
    show Goes p e below s _ _ _ (T8.setTop (mkF m 42 #[.val (.ref a), .unset] [(.ref a)]))
    obtain ⟨T9, X9, e9, st9⟩ := getF X8 hx hZ hown (host := "") (Or.inl (hw _ (List.mem_of_getElem? (i := 26) rfl))) Via.refl e8 Fd (g := (mkF m 42 #[.val (.ref a), .unset] [(.ref a)])) rfl rfl (hb hby own_d_prog_57_2_42)
    refine Goes.st st9 ?_
    show Goes p e below s _ _ _ (T9.setTop (mkF m 45 #[.val (.ref a), .unset] [(.int sd)]))
    refine Goes.st (fun t_ k_ => XS.iconst X9.here hx rfl (hb hby own_d_prog_57_2_45) k_) ?_
    show Goes p e below s _ _ _ (T9.setTop (mkF m 46 #[.val (.ref a), .unset] [(.int (2 : Int32)), (.int sd)]))
    by_cases hc2 : (2 : Int32) < sd
    · refine Goes.st (fun t_ k_ => XS.icmpNo X9.here hx rfl (hb hby own_d_prog_57_2_46) rfl (tlt hc2).2.2.2 k_) ?_
      show Goes p e below s _ _ _ (T9.setTop (mkF m 49 #[.val (.ref a), .unset] []))
      refine Goes.st (fun t_ k_ => XS.aloadN X9.here hx rfl (hb hby own_d_prog_57_2_49) rfl rfl k_) ?_
      show Goes p e below s _ _ _ (T9.setTop (mkF m 50 #[.val (.ref a), .unset] [(.ref a)]))
      obtain ⟨T10, X10, e10, st10⟩ := getF X9 hx hZ hown (host := "") (Or.inl (hw _ (List.mem_of_getElem? (i := 41) rfl))) Via.refl e9 Fp (g := (mkF m 50 #[.val (.ref a), .unset] [(.ref a)])) rfl rfl (hb hby own_d_prog_57_2_50)
      refine Goes.st st10 ?_
      show Goes p e below s _ _ _ (T10.setTop (mkF m 53 #[.val (.ref a), .unset] [(.long sp)]))
      refine Goes.st (fun t_ k_ => X10.ldc2Long hx hown (mvT hZ (hw _ (List.mem_of_getElem? (i := 43) rfl))) (g := (mkF m 53 #[.val (.ref a), .unset] [(.long sp)])) rfl (hb hby own_d_prog_57_2_53) _ k_) ?_
      show Goes p e below s _ _ _ (T10.setTop (mkF m 56 #[.val (.ref a), .unset] [(.long (2000000 : Int64)), (.long sp)]))
      refine Goes.st (fun t_ k_ => XS.lcmp X10.here hx rfl (hb hby own_d_prog_57_2_56) rfl k_) ?_
      show Goes p e below s _ _ _ (T10.setTop (mkF m 57 #[.val (.ref a), .unset] [(.int (lcmpW sp (2000000 : Int64)))]))
      by_cases hc3 : sp < (2000000 : Int64)
      · refine Goes.st (fun t_ k_ => XS.ifYes X10.here hx rfl (pc0 := 57) (pc' := 64) rfl (hb hby own_d_prog_57_2_57) rfl ((if0 _ _).trans (tlt ((lw_lt _ _).mpr hc3)).1) (by decide) (by decide) k_) ?_
        have hb2 : b = false := by rw [← hb1]; simp [own_done, hc1, hc2, hc3]
        show Goes p e below s _ _ _ (T10.setTop (mkF m 64 #[.val (.ref a), .unset] []))
        refine Goes.st (fun t_ k_ => XS.iconst X10.here hx rfl (hb hby own_d_prog_57_2_64) k_) ?_
        show Goes p e below s _ _ _ (T10.setTop (mkF m 65 #[.val (.ref a), .unset] [(.int (0 : Int32))]))
        refine Goes.st (fun t_ k_ => XS.istoreN X10.here hx rfl (hb hby own_d_prog_57_2_65) rfl  (l' := #[.val (.ref a), .val (.int (0 : Int32))]) rfl k_) ?_
        show Goes p e below s _ _ _ (T10.setTop (mkF m 66 #[.val (.ref a), .val (.int (0 : Int32))] []))
        refine Goes.st (fun t_ k_ => XS.iloadN X10.here hx rfl (hb hby own_d_prog_57_2_66) rfl  k_) ?_
        show Goes p e below s _ _ _ (T10.setTop (mkF m 67 #[.val (.ref a), .val (.int (0 : Int32))] [(.int (0 : Int32))]))
        exact Goes.retN X10 hx (t := .boolean) hret hlk (by simp) (hb hby own_d_prog_57_2_67) (by decide) (by decide) (⟨by rw [hb2]; rfl, N0, e10⟩)
      · refine Goes.st (fun t_ k_ => XS.ifNo X10.here hx rfl (hb hby own_d_prog_57_2_57) rfl ((if0 _ _).trans (flt (mt (lw_lt _ _).mp hc3)).1) k_) ?_
        have hb2 : b = true := by rw [← hb1]; simp [own_done, hc1, hc2, hc3]
        show Goes p e below s _ _ _ (T10.setTop (mkF m 60 #[.val (.ref a), .unset] []))
        refine Goes.st (fun t_ k_ => XS.iconst X10.here hx rfl (hb hby own_d_prog_57_2_60) k_) ?_
        show Goes p e below s _ _ _ (T10.setTop (mkF m 61 #[.val (.ref a), .unset] [(.int (1 : Int32))]))
        refine Goes.st (fun t_ k_ => XS.goto X10.here hx rfl (pc0 := 61) (pc' := 65) rfl (hb hby own_d_prog_57_2_61) (by decide) (by decide) k_) ?_
        show Goes p e below s _ _ _ (T10.setTop (mkF m 65 #[.val (.ref a), .unset] [(.int (1 : Int32))]))
        refine Goes.st (fun t_ k_ => XS.istoreN X10.here hx rfl (hb hby own_d_prog_57_2_65) rfl  (l' := #[.val (.ref a), .val (.int (1 : Int32))]) rfl k_) ?_
        show Goes p e below s _ _ _ (T10.setTop (mkF m 66 #[.val (.ref a), .val (.int (1 : Int32))] []))
        refine Goes.st (fun t_ k_ => XS.iloadN X10.here hx rfl (hb hby own_d_prog_57_2_66) rfl  k_) ?_
        show Goes p e below s _ _ _ (T10.setTop (mkF m 67 #[.val (.ref a), .val (.int (1 : Int32))] [(.int (1 : Int32))]))
        exact Goes.retN X10 hx (t := .boolean) hret hlk (by simp) (hb hby own_d_prog_57_2_67) (by decide) (by decide) (⟨by rw [hb2]; rfl, N0, e10⟩)
    · refine Goes.st (fun t_ k_ => XS.icmpYes X9.here hx rfl (pc0 := 46) (pc' := 64) rfl (hb hby own_d_prog_57_2_46) rfl (flt hc2).2.2.2 (by decide) (by decide) k_) ?_
      have hb2 : b = false := by rw [← hb1]; simp [own_done, hc1, hc2]
      show Goes p e below s _ _ _ (T9.setTop (mkF m 64 #[.val (.ref a), .unset] []))
      refine Goes.st (fun t_ k_ => XS.iconst X9.here hx rfl (hb hby own_d_prog_57_2_64) k_) ?_
      show Goes p e below s _ _ _ (T9.setTop (mkF m 65 #[.val (.ref a), .unset] [(.int (0 : Int32))]))
      refine Goes.st (fun t_ k_ => XS.istoreN X9.here hx rfl (hb hby own_d_prog_57_2_65) rfl  (l' := #[.val (.ref a), .val (.int (0 : Int32))]) rfl k_) ?_
      show Goes p e below s _ _ _ (T9.setTop (mkF m 66 #[.val (.ref a), .val (.int (0 : Int32))] []))
      refine Goes.st (fun t_ k_ => XS.iloadN X9.here hx rfl (hb hby own_d_prog_57_2_66) rfl  k_) ?_
      show Goes p e below s _ _ _ (T9.setTop (mkF m 67 #[.val (.ref a), .val (.int (0 : Int32))] [(.int (0 : Int32))]))
      exact Goes.retN X9 hx (t := .boolean) hret hlk (by simp) (hb hby own_d_prog_57_2_67) (by decide) (by decide) (⟨by rw [hb2]; rfl, N0, e9⟩)
theorem own_rmE_ef (m : MethodId) (a : Addr) (now : Int64) : entryFrame m #[(.ref a), (.long now)] 3 = mkF m 0 #[.val (.ref a), .val (.long now), .second] [] := by first | (simp [entryFrame, mkF, argsToLocals, Value.category]; done) | rfl
set_option maxRecDepth 65536 in
set_option maxHeartbeats 40000000 in
theorem own_rmE (l : Launch) (Z : State) (a0 : Array Value) (hw : ∀ d ∈ tables_1, d.before a0 Z = true) (ws : List Jvm.Cond) (a : Addr) (now : Int64) (ah : Addr) (sd : Int32) (sp si sp' : Int64) (h0 : Heap) (n0 : Nat) (Z0 : n0 ≤ h0.size) (HP : own_P Z h0 a ah sd sp si) (hs : sp' = own_sp sd sp si now) (g_a : n0 ≤ a) :
    MetFree l (⟨"com/example/delaunet/delaunet/core/sim/Pace", "end", "(J)V"⟩ : MethodName) (head1 (Jvm.Cond.code (⟨"com/example/delaunet/delaunet/core/sim/Pace", "end", "(J)V"⟩ : MethodName) prog_57_method_4_code 3 none :: ws) ({ frames := 0, cells := 0, slots := 0, locals := 0 } : Room)) (fun aa_ U => aa_ = #[(.ref a), (.long now)] ∧ Z.Warmed39 U.vm ∧ U.heap = h0) (fun _ _ _ _ _ => True) (fun _ U oo_ U' => ∃ vv_ LL_, oo_ = .returned vv_ ∧ own_QE Z a ah sd sp' h0 n0 vv_ U'.heap LL_ ∧ FrameEnd U oo_ U' LL_ ({ frames := 0, cells := 0, slots := 0, locals := 0 } : Room).cells ({ frames := 0, cells := 0, slots := 0, locals := 0 } : Room).slots) := by
  refine MetFree.of_bodySF (plainFor_of_name own_pn14) hisR ?_
  intro p e s m args below meth c s₁ Bd hml0 hP hK
  obtain ⟨rfl, hZ, hh⟩ := hP
  have hx := Bd.exec
  have hby := Bd.bytes
  have hml : c.maxLocals = 3 := hml0
  have hown : s.vm.findClass "com/example/delaunet/delaunet/core/sim/Pace" = some m.cls := findClass_of_methodNamed Bd.named
  have hnm := (name_of_methodNamed Bd.named Bd.method).1
  have hlk := Bd.notSynchronized
  have hret := Bd.returns
  have X0 : Stand p l e ({ frames := 0, cells := 0, slots := 0, locals := 0 } : Room) s m #[(.ref a), (.long now)] below meth c s₁ [] 0 0 := Stand.of_body Bd
  have e0 : s₁.heap = h0 := by rw [← hh, Bd.state]; rfl
  have N0 := Fr.nil n0
  show Goes p e below s (own_QE Z a ah sd sp' h0 n0) ({ frames := 0, cells := 0, slots := 0, locals := 0 } : Room).cells ({ frames := 0, cells := 0, slots := 0, locals := 0 } : Room).slots _
  refine Goes.cast (own_rmE_ef m a now) ?_
  obtain ⟨E_a, Fs_a, Fa_a, Fd_a, Fp_a, Fi_a, Fh_a, Ft_a, Fr_a⟩ := HP
  have K0 := Keep.refl h0 [a]
  show Goes p e below s _ _ _ (s₁.setTop (mkF m 0 #[.val (.ref a), .val (.long now), .second] []))
  refine Goes.st (fun t_ k_ => XS.aloadN X0.here hx rfl (hb hby own_d_prog_57_4_0) rfl rfl k_) ?_
  show Goes p e below s _ _ _ (s₁.setTop (mkF m 1 #[.val (.ref a), .val (.long now), .second] [(.ref a)]))
  obtain ⟨T11, X11, e11, st11⟩ := getF X0 hx hZ hown (host := "") (Or.inl (hw _ (List.mem_of_getElem? (i := 17) rfl))) Via.refl e0 Fi_a (g := (mkF m 1 #[.val (.ref a), .val (.long now), .second] [(.ref a)])) rfl rfl (hb hby own_d_prog_57_4_1)
  refine Goes.st st11 ?_
  show Goes p e below s _ _ _ (T11.setTop (mkF m 4 #[.val (.ref a), .val (.long now), .second] [(.long si)]))
  refine Goes.st (fun t_ k_ => XS.lconst X11.here hx rfl (hb hby own_d_prog_57_4_4) k_) ?_
  show Goes p e below s _ _ _ (T11.setTop (mkF m 5 #[.val (.ref a), .val (.long now), .second] [(.long (0 : Int64)), (.long si)]))
  refine Goes.st (fun t_ k_ => XS.lcmp X11.here hx rfl (hb hby own_d_prog_57_4_5) rfl k_) ?_
  show Goes p e below s _ _ _ (T11.setTop (mkF m 6 #[.val (.ref a), .val (.long now), .second] [(.int (lcmpW si (0 : Int64)))]))
  by_cases hc1 : si < (0 : Int64)
  · refine Goes.st (fun t_ k_ => XS.ifYes X11.here hx rfl (pc0 := 6) (pc' := 32) rfl (hb hby own_d_prog_57_4_6) rfl ((if0 _ _).trans (tlt ((lw_lt _ _).mpr hc1)).1) (by decide) (by decide) k_) ?_
    show Goes p e below s _ _ _ (T11.setTop (mkF m 32 #[.val (.ref a), .val (.long now), .second] []))
    refine Goes.st (fun t_ k_ => XS.aloadN X11.here hx rfl (hb hby own_d_prog_57_4_32) rfl rfl k_) ?_
    show Goes p e below s _ _ _ (T11.setTop (mkF m 33 #[.val (.ref a), .val (.long now), .second] [(.ref a)]))
    refine Goes.st (fun t_ k_ => X11.ldc2Long hx hown (mvT hZ (hw _ (List.mem_of_getElem? (i := 16) rfl))) (g := (mkF m 33 #[.val (.ref a), .val (.long now), .second] [(.ref a)])) rfl (hb hby own_d_prog_57_4_33) _ k_) ?_
    show Goes p e below s _ _ _ (T11.setTop (mkF m 36 #[.val (.ref a), .val (.long now), .second] [(.long (-1 : Int64)), (.ref a)]))
    obtain ⟨T12, h12, X12, e12, W12, st12⟩ := putF X11 hx hZ hown (host := "") (Or.inl (hw _ (List.mem_of_getElem? (i := 17) rfl))) Via.refl e11 Fi_a E_a (Or.inl (hw _ (List.mem_of_getElem? (i := 18) rfl))) (hw _ (List.mem_of_getElem? (i := 3) rfl)) (ty := .long) (by decide) rfl rfl (g := (mkF m 36 #[.val (.ref a), .val (.long now), .second] [(.long (-1 : Int64)), (.ref a)])) rfl rfl (hb hby own_d_prog_57_4_36)
    refine Goes.st st12 ?_
    have E_a := E_a.wr W12
    have Fs_a := Fs_a.other W12 (Or.inr (slot_ne (Or.inl (hw _ (List.mem_of_getElem? (i := 25) rfl))) (Or.inl (hw _ (List.mem_of_getElem? (i := 18) rfl))) (by decide) (t := .boolean) (t' := .long) (by decide) (by decide)))
    have Fa_a := Fa_a.other W12 (Or.inr (slot_ne (Or.inl (hw _ (List.mem_of_getElem? (i := 40) rfl))) (Or.inl (hw _ (List.mem_of_getElem? (i := 18) rfl))) (by decide) (t := .boolean) (t' := .long) (by decide) (by decide)))
    have Fd_a := Fd_a.other W12 (Or.inr (slot_ne (Or.inl (hw _ (List.mem_of_getElem? (i := 27) rfl))) (Or.inl (hw _ (List.mem_of_getElem? (i := 18) rfl))) (by decide) (t := .int) (t' := .long) (by decide) (by decide)))
    have Fp_a := Fp_a.other W12 (Or.inr (slot_ne (Or.inl (hw _ (List.mem_of_getElem? (i := 42) rfl))) (Or.inl (hw _ (List.mem_of_getElem? (i := 18) rfl))) (by decide) (t := .long) (t' := .long) (by decide) (by decide)))
    have Fi_a := Fi_a.same W12
    have Fh_a := Fh_a.other W12 (Or.inr (slot_ne (Or.inr (hw _ (List.mem_of_getElem? (i := 13) rfl))) (Or.inl (hw _ (List.mem_of_getElem? (i := 18) rfl))) (by decide) (t := (.array .double)) (t' := .long) (by decide) (by decide)))
    have Ft_a := Ft_a.other W12 (Or.inr (slot_ne (Or.inl (hw _ (List.mem_of_getElem? (i := 49) rfl))) (Or.inl (hw _ (List.mem_of_getElem? (i := 18) rfl))) (by decide) (t := .int) (t' := .long) (by decide) (by decide)))
    have Fr_a := Fr_a.other W12 (Or.inr (slot_ne (Or.inl (hw _ (List.mem_of_getElem? (i := 51) rfl))) (Or.inl (hw _ (List.mem_of_getElem? (i := 18) rfl))) (by decide) (t := .int) (t' := .long) (by decide) (by decide)))
    have N12 := Fr.snoc X12 N0 g_a
    have Z0' := Nat.le_trans Z0 (Keep.of_wr W12).1
    have K0 := K0.wr W12 (Or.inl (List.mem_of_getElem? (i := 0) rfl))
    show Goes p e below s _ _ _ (T12.setTop (mkF m 39 #[.val (.ref a), .val (.long now), .second] []))
    have hs2 : sp' = sp := by rw [hs]; simp [own_sp, hc1]
    rw [← hs2] at Fp_a
    rw [← e12] at K0 E_a Fs_a Fa_a Fd_a Fp_a Fi_a Fh_a Ft_a Fr_a
    exact Goes.ret0 X12 hx hret hlk (hb hby own_d_prog_57_4_39) (by decide) (by decide) (⟨rfl, N12, K0, E_a, Fs_a, Fa_a, Fd_a, Fp_a, Fi_a, Fh_a, Ft_a, Fr_a⟩)
  · refine Goes.st (fun t_ k_ => XS.ifNo X11.here hx rfl (hb hby own_d_prog_57_4_6) rfl ((if0 _ _).trans (flt (mt (lw_lt _ _).mp hc1)).1) k_) ?_
    show Goes p e below s _ _ _ (T11.setTop (mkF m 9 #[.val (.ref a), .val (.long now), .second] []))
    refine Goes.st (fun t_ k_ => XS.aloadN X11.here hx rfl (hb hby own_d_prog_57_4_9) rfl rfl k_) ?_
    show Goes p e below s _ _ _ (T11.setTop (mkF m 10 #[.val (.ref a), .val (.long now), .second] [(.ref a)]))
    obtain ⟨T13, X13, e13, st13⟩ := getF X11 hx hZ hown (host := "") (Or.inl (hw _ (List.mem_of_getElem? (i := 26) rfl))) Via.refl e11 Fd_a (g := (mkF m 10 #[.val (.ref a), .val (.long now), .second] [(.ref a)])) rfl rfl (hb hby own_d_prog_57_4_10)
    refine Goes.st st13 ?_
    show Goes p e below s _ _ _ (T13.setTop (mkF m 13 #[.val (.ref a), .val (.long now), .second] [(.int sd)]))
    refine Goes.st (fun t_ k_ => XS.iconst X13.here hx rfl (hb hby own_d_prog_57_4_13) k_) ?_
    show Goes p e below s _ _ _ (T13.setTop (mkF m 14 #[.val (.ref a), .val (.long now), .second] [(.int (1 : Int32)), (.int sd)]))
    by_cases hc2 : (1 : Int32) < sd
    · refine Goes.st (fun t_ k_ => XS.icmpNo X13.here hx rfl (hb hby own_d_prog_57_4_14) rfl (tlt hc2).2.2.2 k_) ?_
      show Goes p e below s _ _ _ (T13.setTop (mkF m 17 #[.val (.ref a), .val (.long now), .second] []))
      refine Goes.st (fun t_ k_ => XS.aloadN X13.here hx rfl (hb hby own_d_prog_57_4_17) rfl rfl k_) ?_
      show Goes p e below s _ _ _ (T13.setTop (mkF m 18 #[.val (.ref a), .val (.long now), .second] [(.ref a)]))
      refine Goes.st (fun t_ k_ => XS.dup X13.here hx rfl (hb hby own_d_prog_57_4_18) rfl rfl k_) ?_
      show Goes p e below s _ _ _ (T13.setTop (mkF m 19 #[.val (.ref a), .val (.long now), .second] [(.ref a), (.ref a)]))
      obtain ⟨T14, X14, e14, st14⟩ := getF X13 hx hZ hown (host := "") (Or.inl (hw _ (List.mem_of_getElem? (i := 41) rfl))) Via.refl e13 Fp_a (g := (mkF m 19 #[.val (.ref a), .val (.long now), .second] [(.ref a), (.ref a)])) rfl rfl (hb hby own_d_prog_57_4_19)
      refine Goes.st st14 ?_
      show Goes p e below s _ _ _ (T14.setTop (mkF m 22 #[.val (.ref a), .val (.long now), .second] [(.long sp), (.ref a)]))
      refine Goes.st (fun t_ k_ => XS.lloadN X14.here hx rfl (hb hby own_d_prog_57_4_22) rfl  k_) ?_
      show Goes p e below s _ _ _ (T14.setTop (mkF m 23 #[.val (.ref a), .val (.long now), .second] [(.long now), (.long sp), (.ref a)]))
      refine Goes.st (fun t_ k_ => XS.aloadN X14.here hx rfl (hb hby own_d_prog_57_4_23) rfl rfl k_) ?_
      show Goes p e below s _ _ _ (T14.setTop (mkF m 24 #[.val (.ref a), .val (.long now), .second] [(.ref a), (.long now), (.long sp), (.ref a)]))
      obtain ⟨T15, X15, e15, st15⟩ := getF X14 hx hZ hown (host := "") (Or.inl (hw _ (List.mem_of_getElem? (i := 17) rfl))) Via.refl e14 Fi_a (g := (mkF m 24 #[.val (.ref a), .val (.long now), .second] [(.ref a), (.long now), (.long sp), (.ref a)])) rfl rfl (hb hby own_d_prog_57_4_24)
      refine Goes.st st15 ?_
      show Goes p e below s _ _ _ (T15.setTop (mkF m 27 #[.val (.ref a), .val (.long now), .second] [(.long si), (.long now), (.long sp), (.ref a)]))
      refine Goes.st (fun t_ k_ => XS.lsub X15.here hx rfl (hb hby own_d_prog_57_4_27) rfl k_) ?_
      show Goes p e below s _ _ _ (T15.setTop (mkF m 28 #[.val (.ref a), .val (.long now), .second] [(.long (now - si)), (.long sp), (.ref a)]))
      refine Goes.st (fun t_ k_ => XS.ladd X15.here hx rfl (hb hby own_d_prog_57_4_28) rfl k_) ?_
      show Goes p e below s _ _ _ (T15.setTop (mkF m 29 #[.val (.ref a), .val (.long now), .second] [(.long (sp + (now - si))), (.ref a)]))
      obtain ⟨T16, h16, X16, e16, W16, st16⟩ := putF X15 hx hZ hown (host := "") (Or.inl (hw _ (List.mem_of_getElem? (i := 41) rfl))) Via.refl e15 Fp_a E_a (Or.inl (hw _ (List.mem_of_getElem? (i := 42) rfl))) (hw _ (List.mem_of_getElem? (i := 3) rfl)) (ty := .long) (by decide) rfl rfl (g := (mkF m 29 #[.val (.ref a), .val (.long now), .second] [(.long (sp + (now - si))), (.ref a)])) rfl rfl (hb hby own_d_prog_57_4_29)
      refine Goes.st st16 ?_
      have E_a := E_a.wr W16
      have Fs_a := Fs_a.other W16 (Or.inr (slot_ne (Or.inl (hw _ (List.mem_of_getElem? (i := 25) rfl))) (Or.inl (hw _ (List.mem_of_getElem? (i := 42) rfl))) (by decide) (t := .boolean) (t' := .long) (by decide) (by decide)))
      have Fa_a := Fa_a.other W16 (Or.inr (slot_ne (Or.inl (hw _ (List.mem_of_getElem? (i := 40) rfl))) (Or.inl (hw _ (List.mem_of_getElem? (i := 42) rfl))) (by decide) (t := .boolean) (t' := .long) (by decide) (by decide)))
      have Fd_a := Fd_a.other W16 (Or.inr (slot_ne (Or.inl (hw _ (List.mem_of_getElem? (i := 27) rfl))) (Or.inl (hw _ (List.mem_of_getElem? (i := 42) rfl))) (by decide) (t := .int) (t' := .long) (by decide) (by decide)))
      have Fp_a := Fp_a.same W16
      have Fi_a := Fi_a.other W16 (Or.inr (slot_ne (Or.inl (hw _ (List.mem_of_getElem? (i := 18) rfl))) (Or.inl (hw _ (List.mem_of_getElem? (i := 42) rfl))) (by decide) (t := .long) (t' := .long) (by decide) (by decide)))
      have Fh_a := Fh_a.other W16 (Or.inr (slot_ne (Or.inr (hw _ (List.mem_of_getElem? (i := 13) rfl))) (Or.inl (hw _ (List.mem_of_getElem? (i := 42) rfl))) (by decide) (t := (.array .double)) (t' := .long) (by decide) (by decide)))
      have Ft_a := Ft_a.other W16 (Or.inr (slot_ne (Or.inl (hw _ (List.mem_of_getElem? (i := 49) rfl))) (Or.inl (hw _ (List.mem_of_getElem? (i := 42) rfl))) (by decide) (t := .int) (t' := .long) (by decide) (by decide)))
      have Fr_a := Fr_a.other W16 (Or.inr (slot_ne (Or.inl (hw _ (List.mem_of_getElem? (i := 51) rfl))) (Or.inl (hw _ (List.mem_of_getElem? (i := 42) rfl))) (by decide) (t := .int) (t' := .long) (by decide) (by decide)))
      have N16 := Fr.snoc X16 N0 g_a
      have Z0' := Nat.le_trans Z0 (Keep.of_wr W16).1
      have K0 := K0.wr W16 (Or.inl (List.mem_of_getElem? (i := 0) rfl))
      show Goes p e below s _ _ _ (T16.setTop (mkF m 32 #[.val (.ref a), .val (.long now), .second] []))
      refine Goes.st (fun t_ k_ => XS.aloadN X16.here hx rfl (hb hby own_d_prog_57_4_32) rfl rfl k_) ?_
      show Goes p e below s _ _ _ (T16.setTop (mkF m 33 #[.val (.ref a), .val (.long now), .second] [(.ref a)]))
      refine Goes.st (fun t_ k_ => X16.ldc2Long hx hown (mvT hZ (hw _ (List.mem_of_getElem? (i := 16) rfl))) (g := (mkF m 33 #[.val (.ref a), .val (.long now), .second] [(.ref a)])) rfl (hb hby own_d_prog_57_4_33) _ k_) ?_
      show Goes p e below s _ _ _ (T16.setTop (mkF m 36 #[.val (.ref a), .val (.long now), .second] [(.long (-1 : Int64)), (.ref a)]))
      obtain ⟨T17, h17, X17, e17, W17, st17⟩ := putF X16 hx hZ hown (host := "") (Or.inl (hw _ (List.mem_of_getElem? (i := 17) rfl))) Via.refl e16 Fi_a E_a (Or.inl (hw _ (List.mem_of_getElem? (i := 18) rfl))) (hw _ (List.mem_of_getElem? (i := 3) rfl)) (ty := .long) (by decide) rfl rfl (g := (mkF m 36 #[.val (.ref a), .val (.long now), .second] [(.long (-1 : Int64)), (.ref a)])) rfl rfl (hb hby own_d_prog_57_4_36)
      refine Goes.st st17 ?_
      have E_a := E_a.wr W17
      have Fs_a := Fs_a.other W17 (Or.inr (slot_ne (Or.inl (hw _ (List.mem_of_getElem? (i := 25) rfl))) (Or.inl (hw _ (List.mem_of_getElem? (i := 18) rfl))) (by decide) (t := .boolean) (t' := .long) (by decide) (by decide)))
      have Fa_a := Fa_a.other W17 (Or.inr (slot_ne (Or.inl (hw _ (List.mem_of_getElem? (i := 40) rfl))) (Or.inl (hw _ (List.mem_of_getElem? (i := 18) rfl))) (by decide) (t := .boolean) (t' := .long) (by decide) (by decide)))
      have Fd_a := Fd_a.other W17 (Or.inr (slot_ne (Or.inl (hw _ (List.mem_of_getElem? (i := 27) rfl))) (Or.inl (hw _ (List.mem_of_getElem? (i := 18) rfl))) (by decide) (t := .int) (t' := .long) (by decide) (by decide)))
      have Fp_a := Fp_a.other W17 (Or.inr (slot_ne (Or.inl (hw _ (List.mem_of_getElem? (i := 42) rfl))) (Or.inl (hw _ (List.mem_of_getElem? (i := 18) rfl))) (by decide) (t := .long) (t' := .long) (by decide) (by decide)))
      have Fi_a := Fi_a.same W17
      have Fh_a := Fh_a.other W17 (Or.inr (slot_ne (Or.inr (hw _ (List.mem_of_getElem? (i := 13) rfl))) (Or.inl (hw _ (List.mem_of_getElem? (i := 18) rfl))) (by decide) (t := (.array .double)) (t' := .long) (by decide) (by decide)))
      have Ft_a := Ft_a.other W17 (Or.inr (slot_ne (Or.inl (hw _ (List.mem_of_getElem? (i := 49) rfl))) (Or.inl (hw _ (List.mem_of_getElem? (i := 18) rfl))) (by decide) (t := .int) (t' := .long) (by decide) (by decide)))
      have Fr_a := Fr_a.other W17 (Or.inr (slot_ne (Or.inl (hw _ (List.mem_of_getElem? (i := 51) rfl))) (Or.inl (hw _ (List.mem_of_getElem? (i := 18) rfl))) (by decide) (t := .int) (t' := .long) (by decide) (by decide)))
      have N17 := Fr.snoc X17 N16 g_a
      have Z0'' := Nat.le_trans Z0' (Keep.of_wr W17).1
      have K0 := K0.wr W17 (Or.inl (List.mem_of_getElem? (i := 0) rfl))
      show Goes p e below s _ _ _ (T17.setTop (mkF m 39 #[.val (.ref a), .val (.long now), .second] []))
      have hs2 : sp' = (sp + (now - si)) := by rw [hs]; simp [own_sp, hc1, hc2]
      rw [← hs2] at Fp_a
      rw [← e17] at K0 E_a Fs_a Fa_a Fd_a Fp_a Fi_a Fh_a Ft_a Fr_a
      exact Goes.ret0 X17 hx hret hlk (hb hby own_d_prog_57_4_39) (by decide) (by decide) (⟨rfl, N17, K0, E_a, Fs_a, Fa_a, Fd_a, Fp_a, Fi_a, Fh_a, Ft_a, Fr_a⟩)
    · refine Goes.st (fun t_ k_ => XS.icmpYes X13.here hx rfl (pc0 := 14) (pc' := 32) rfl (hb hby own_d_prog_57_4_14) rfl (flt hc2).2.2.2 (by decide) (by decide) k_) ?_
      show Goes p e below s _ _ _ (T13.setTop (mkF m 32 #[.val (.ref a), .val (.long now), .second] []))
      refine Goes.st (fun t_ k_ => XS.aloadN X13.here hx rfl (hb hby own_d_prog_57_4_32) rfl rfl k_) ?_
      show Goes p e below s _ _ _ (T13.setTop (mkF m 33 #[.val (.ref a), .val (.long now), .second] [(.ref a)]))
      refine Goes.st (fun t_ k_ => X13.ldc2Long hx hown (mvT hZ (hw _ (List.mem_of_getElem? (i := 16) rfl))) (g := (mkF m 33 #[.val (.ref a), .val (.long now), .second] [(.ref a)])) rfl (hb hby own_d_prog_57_4_33) _ k_) ?_
      show Goes p e below s _ _ _ (T13.setTop (mkF m 36 #[.val (.ref a), .val (.long now), .second] [(.long (-1 : Int64)), (.ref a)]))
      obtain ⟨T18, h18, X18, e18, W18, st18⟩ := putF X13 hx hZ hown (host := "") (Or.inl (hw _ (List.mem_of_getElem? (i := 17) rfl))) Via.refl e13 Fi_a E_a (Or.inl (hw _ (List.mem_of_getElem? (i := 18) rfl))) (hw _ (List.mem_of_getElem? (i := 3) rfl)) (ty := .long) (by decide) rfl rfl (g := (mkF m 36 #[.val (.ref a), .val (.long now), .second] [(.long (-1 : Int64)), (.ref a)])) rfl rfl (hb hby own_d_prog_57_4_36)
      refine Goes.st st18 ?_
      have E_a := E_a.wr W18
      have Fs_a := Fs_a.other W18 (Or.inr (slot_ne (Or.inl (hw _ (List.mem_of_getElem? (i := 25) rfl))) (Or.inl (hw _ (List.mem_of_getElem? (i := 18) rfl))) (by decide) (t := .boolean) (t' := .long) (by decide) (by decide)))
      have Fa_a := Fa_a.other W18 (Or.inr (slot_ne (Or.inl (hw _ (List.mem_of_getElem? (i := 40) rfl))) (Or.inl (hw _ (List.mem_of_getElem? (i := 18) rfl))) (by decide) (t := .boolean) (t' := .long) (by decide) (by decide)))
      have Fd_a := Fd_a.other W18 (Or.inr (slot_ne (Or.inl (hw _ (List.mem_of_getElem? (i := 27) rfl))) (Or.inl (hw _ (List.mem_of_getElem? (i := 18) rfl))) (by decide) (t := .int) (t' := .long) (by decide) (by decide)))
      have Fp_a := Fp_a.other W18 (Or.inr (slot_ne (Or.inl (hw _ (List.mem_of_getElem? (i := 42) rfl))) (Or.inl (hw _ (List.mem_of_getElem? (i := 18) rfl))) (by decide) (t := .long) (t' := .long) (by decide) (by decide)))
      have Fi_a := Fi_a.same W18
      have Fh_a := Fh_a.other W18 (Or.inr (slot_ne (Or.inr (hw _ (List.mem_of_getElem? (i := 13) rfl))) (Or.inl (hw _ (List.mem_of_getElem? (i := 18) rfl))) (by decide) (t := (.array .double)) (t' := .long) (by decide) (by decide)))
      have Ft_a := Ft_a.other W18 (Or.inr (slot_ne (Or.inl (hw _ (List.mem_of_getElem? (i := 49) rfl))) (Or.inl (hw _ (List.mem_of_getElem? (i := 18) rfl))) (by decide) (t := .int) (t' := .long) (by decide) (by decide)))
      have Fr_a := Fr_a.other W18 (Or.inr (slot_ne (Or.inl (hw _ (List.mem_of_getElem? (i := 51) rfl))) (Or.inl (hw _ (List.mem_of_getElem? (i := 18) rfl))) (by decide) (t := .int) (t' := .long) (by decide) (by decide)))
      have N18 := Fr.snoc X18 N0 g_a
      have Z0' := Nat.le_trans Z0 (Keep.of_wr W18).1
      have K0 := K0.wr W18 (Or.inl (List.mem_of_getElem? (i := 0) rfl))
      show Goes p e below s _ _ _ (T18.setTop (mkF m 39 #[.val (.ref a), .val (.long now), .second] []))
      have hs2 : sp' = sp := by rw [hs]; simp [own_sp, hc1, hc2]
      rw [← hs2] at Fp_a
      rw [← e18] at K0 E_a Fs_a Fa_a Fd_a Fp_a Fi_a Fh_a Ft_a Fr_a
      exact Goes.ret0 X18 hx hret hlk (hb hby own_d_prog_57_4_39) (by decide) (by decide) (⟨rfl, N18, K0, E_a, Fs_a, Fa_a, Fd_a, Fp_a, Fi_a, Fh_a, Ft_a, Fr_a⟩)
theorem own_rmS_ef (m : MethodId) (a : Addr) (now : Int64) : entryFrame m #[(.ref a), (.long now)] 4 = mkF m 0 #[.val (.ref a), .val (.long now), .second, .unset] [] := by first | (simp [entryFrame, mkF, argsToLocals, Value.category]; done) | rfl
set_option maxRecDepth 65536 in
set_option maxHeartbeats 40000000 in
theorem own_rmS (l : Launch) (Z : State) (a0 : Array Value) (hw : ∀ d ∈ tables_1, d.before a0 Z = true) (ws : List Jvm.Cond) (a : Addr) (now : Int64) (ah : Addr) (sd : Int32) (sp si sp' : Int64) (h0 : Heap) (n0 : Nat) (Z0 : n0 ≤ h0.size) (HP : own_P Z h0 a ah sd sp si) (hd : own_done sd sp = false) (hs : sp' = own_sp sd sp si now) (g_a : n0 ≤ a) :
    MetFree l (⟨"com/example/delaunet/delaunet/core/sim/Pace", "start", "(J)Z"⟩ : MethodName) (head1 (Jvm.Cond.code (⟨"com/example/delaunet/delaunet/core/sim/Pace", "start", "(J)Z"⟩ : MethodName) prog_57_method_3_code 4 (some .boolean) :: ws) ({ frames := 1, cells := 0, slots := 0, locals := 14 } : Room)) (fun aa_ U => aa_ = #[(.ref a), (.long now)] ∧ Z.Warmed39 U.vm ∧ U.heap = h0) (fun _ _ _ _ _ => True) (fun _ U oo_ U' => ∃ vv_ LL_, oo_ = .returned vv_ ∧ own_QS Z a ah sd sp' now h0 n0 vv_ U'.heap LL_ ∧ FrameEnd U oo_ U' LL_ ({ frames := 1, cells := 0, slots := 0, locals := 14 } : Room).cells ({ frames := 1, cells := 0, slots := 0, locals := 14 } : Room).slots) := by
  refine MetFree.of_bodySF (plainFor_of_name own_pn14) hisR ?_
  intro p e s m args below meth c s₁ Bd hml0 hP hK
  obtain ⟨rfl, hZ, hh⟩ := hP
  have hx := Bd.exec
  have hby := Bd.bytes
  have hml : c.maxLocals = 4 := hml0
  have hown : s.vm.findClass "com/example/delaunet/delaunet/core/sim/Pace" = some m.cls := findClass_of_methodNamed Bd.named
  have hnm := (name_of_methodNamed Bd.named Bd.method).1
  have hlk := Bd.notSynchronized
  have hret := Bd.returns
  have X0 : Stand p l e ({ frames := 1, cells := 0, slots := 0, locals := 14 } : Room) s m #[(.ref a), (.long now)] below meth c s₁ [] 0 0 := Stand.of_body Bd
  have e0 : s₁.heap = h0 := by rw [← hh, Bd.state]; rfl
  have N0 := Fr.nil n0
  show Goes p e below s (own_QS Z a ah sd sp' now h0 n0) ({ frames := 1, cells := 0, slots := 0, locals := 14 } : Room).cells ({ frames := 1, cells := 0, slots := 0, locals := 14 } : Room).slots _
  refine Goes.cast (own_rmS_ef m a now) ?_
  have HP' := HP
  obtain ⟨E_a, Fs_a, Fa_a, Fd_a, Fp_a, Fi_a, Fh_a, Ft_a, Fr_a⟩ := HP'
  have K0 := Keep.refl h0 [a]
  show Goes p e below s _ _ _ (s₁.setTop (mkF m 0 #[.val (.ref a), .val (.long now), .second, .unset] []))
  refine Goes.st (fun t_ k_ => XS.aloadN X0.here hx rfl (hb hby own_d_prog_57_3_0) rfl rfl k_) ?_
  show Goes p e below s _ _ _ (s₁.setTop (mkF m 1 #[.val (.ref a), .val (.long now), .second, .unset] [(.ref a)]))
  obtain ⟨cq19, kq19, q19a, q19b, q19c⟩ := isOf hZ e0 E_a
  obtain ⟨_, _, ⟨T19, L19, k19, n19⟩, -, X19, ⟨Lc19, hQ19, l19, y19, z19⟩, st19⟩ := X0.virtualBack hx (y := (⟨"com/example/delaunet/delaunet/core/sim/Pace", "complete", "()Z"⟩ : MethodName)) (z := (⟨"com/example/delaunet/delaunet/core/sim/Pace", "complete", "()Z"⟩ : MethodName)) hown (mvT hZ (hw _ (List.mem_of_getElem? (i := 33) rfl))) (mvT hZ (hw _ (List.mem_of_getElem? (i := 20) rfl))) (notFace_of_selects (args := #[]) (mvT hZ (hw _ (List.mem_of_getElem? (i := 22) rfl)))) (mvT hZ (hw _ (List.mem_of_getElem? (i := 22) rfl))) (mvT hZ (hw _ (List.mem_of_getElem? (i := 21) rfl))) (by decide) (backOf (W := 0) (own_rmC l Z a0 hw [] a sd sp false h0 n0 Z0 Fs_a Fd_a Fp_a hd) hZ (hw _ (List.mem_of_getElem? (i := 23) rfl)) (hw _ (List.mem_of_getElem? (i := 4) rfl)) (by decide) (by decide)) q19a q19c (g := (mkF m 1 #[.val (.ref a), .val (.long now), .second, .unset] [(.ref a)])) rfl (by rw [hml]; rfl) (Steps.refl _) (argsL := []) (rest := []) (lenOf own_pd60 rfl) rfl (by show 2 * 0 + _ ≤ _; exact Nat.le_of_eq rfl) (hb hby own_d_prog_57_3_1) (fun _ _ => ⟨rfl, e0, (by decide : 0 + 0 ≤ _), (by decide : 0 + 0 ≤ _)⟩)
  dsimp only [Pt.U, Pt.locs, Pt.cells, Pt.slots] at X19 l19 y19 z19 st19 hQ19
  subst l19 y19 z19
  obtain ⟨rfl, N19q, EQ1⟩ := hQ19
  have N19 := Fr.app N0 N19q
  refine Goes.tr st19 ?_
  show Goes p e below s _ _ _ (T19.setTop (mkF m 4 #[.val (.ref a), .val (.long now), .second, .unset] [(.int (own_bI false))]))
  refine Goes.st (fun t_ k_ => XS.istoreN X19.here hx rfl (hb hby own_d_prog_57_3_4) rfl  (l' := #[.val (.ref a), .val (.long now), .second, .val (.int (own_bI false))]) rfl k_) ?_
  show Goes p e below s _ _ _ (T19.setTop (mkF m 5 #[.val (.ref a), .val (.long now), .second, .val (.int (own_bI false))] []))
  refine Goes.st (fun t_ k_ => XS.aloadN X19.here hx rfl (hb hby own_d_prog_57_3_5) rfl rfl k_) ?_
  show Goes p e below s _ _ _ (T19.setTop (mkF m 6 #[.val (.ref a), .val (.long now), .second, .val (.int (own_bI false))] [(.ref a)]))
  refine Goes.st (fun t_ k_ => XS.lloadN X19.here hx rfl (hb hby own_d_prog_57_3_6) rfl  k_) ?_
  show Goes p e below s _ _ _ (T19.setTop (mkF m 7 #[.val (.ref a), .val (.long now), .second, .val (.int (own_bI false))] [(.long now), (.ref a)]))
  obtain ⟨cq20, kq20, q20a, q20b, q20c⟩ := isOf hZ EQ1 E_a
  obtain ⟨_, _, ⟨T20, L20, k20, n20⟩, -, X20, ⟨Lc20, hQ20, l20, y20, z20⟩, st20⟩ := X19.virtualBack hx (y := (⟨"com/example/delaunet/delaunet/core/sim/Pace", "end", "(J)V"⟩ : MethodName)) (z := (⟨"com/example/delaunet/delaunet/core/sim/Pace", "end", "(J)V"⟩ : MethodName)) hown (mvT hZ (hw _ (List.mem_of_getElem? (i := 34) rfl))) (mvT hZ (hw _ (List.mem_of_getElem? (i := 35) rfl))) (notFace_of_selects (args := #[]) (mvT hZ (hw _ (List.mem_of_getElem? (i := 37) rfl)))) (mvT hZ (hw _ (List.mem_of_getElem? (i := 37) rfl))) (mvT hZ (hw _ (List.mem_of_getElem? (i := 36) rfl))) (by decide) (backOf (W := 0) (own_rmE l Z a0 hw [] a now ah sd sp si sp' h0 n0 Z0 HP hs g_a) hZ (hw _ (List.mem_of_getElem? (i := 38) rfl)) (hw _ (List.mem_of_getElem? (i := 4) rfl)) (by decide) (by decide)) q20a q20c (g := (mkF m 7 #[.val (.ref a), .val (.long now), .second, .val (.int (own_bI false))] [(.long now), (.ref a)])) rfl (by rw [hml]; rfl) (Steps.refl _) (argsL := [(.long now)]) (rest := []) (lenOf own_pd65 rfl) rfl (by show 2 * 0 + _ ≤ _; exact Nat.le_of_eq rfl) (hb hby own_d_prog_57_3_7) (fun _ _ => ⟨rfl, EQ1, (by decide : 0 + 0 ≤ _), (by decide : 0 + 0 ≤ _)⟩)
  dsimp only [Pt.U, Pt.locs, Pt.cells, Pt.slots] at X20 l20 y20 z20 st20 hQ20
  subst l20 y20 z20
  obtain ⟨rfl, N20q, K1, HP1⟩ := hQ20
  have N20 := Fr.app N19 N20q
  refine Goes.tr st20 ?_
  have Z0' := Nat.le_trans Z0 K1.1
  have K0 : Keep h0 _ _ := K0.trans K1 (allS (Or.inl (List.mem_of_getElem? (i := 0) rfl)) all0)
  obtain ⟨E_a, Fs_a, Fa_a, Fd_a, Fp_a, Fi_a, Fh_a, Ft_a, Fr_a⟩ := HP1
  show Goes p e below s _ _ _ (T20.setTop (mkF m 10 #[.val (.ref a), .val (.long now), .second, .val (.int (own_bI false))] []))
  refine Goes.st (fun t_ k_ => XS.iloadN X20.here hx rfl (hb hby own_d_prog_57_3_10) rfl  k_) ?_
  show Goes p e below s _ _ _ (T20.setTop (mkF m 11 #[.val (.ref a), .val (.long now), .second, .val (.int (own_bI false))] [(.int (own_bI false))]))
  refine Goes.st (fun t_ k_ => XS.ifYes X20.here hx rfl (pc0 := 11) (pc' := 44) rfl (hb hby own_d_prog_57_3_11) rfl ((if0 _ _).trans (teq (rfl : own_bI false = 0)).1) (by decide) (by decide) k_) ?_
  show Goes p e below s _ _ _ (T20.setTop (mkF m 44 #[.val (.ref a), .val (.long now), .second, .val (.int (own_bI false))] []))
  refine Goes.st (fun t_ k_ => XS.iloadN X20.here hx rfl (hb hby own_d_prog_57_3_44) rfl  k_) ?_
  show Goes p e below s _ _ _ (T20.setTop (mkF m 45 #[.val (.ref a), .val (.long now), .second, .val (.int (own_bI false))] [(.int (own_bI false))]))
  refine Goes.st (fun t_ k_ => XS.ifYes X20.here hx rfl (pc0 := 45) (pc' := 52) rfl (hb hby own_d_prog_57_3_45) rfl ((if0 _ _).trans (teq (rfl : own_bI false = 0)).1) (by decide) (by decide) k_) ?_
  show Goes p e below s _ _ _ (T20.setTop (mkF m 52 #[.val (.ref a), .val (.long now), .second, .val (.int (own_bI false))] []))
  refine Goes.st (fun t_ k_ => XS.aloadN X20.here hx rfl (hb hby own_d_prog_57_3_52) rfl rfl k_) ?_
  show Goes p e below s _ _ _ (T20.setTop (mkF m 53 #[.val (.ref a), .val (.long now), .second, .val (.int (own_bI false))] [(.ref a)]))
  refine Goes.st (fun t_ k_ => XS.dup X20.here hx rfl (hb hby own_d_prog_57_3_53) rfl rfl k_) ?_
  show Goes p e below s _ _ _ (T20.setTop (mkF m 54 #[.val (.ref a), .val (.long now), .second, .val (.int (own_bI false))] [(.ref a), (.ref a)]))
  obtain ⟨T21, X21, e21, st21⟩ := getF X20 hx hZ hown (host := "") (Or.inl (hw _ (List.mem_of_getElem? (i := 26) rfl))) Via.refl rfl Fd_a (g := (mkF m 54 #[.val (.ref a), .val (.long now), .second, .val (.int (own_bI false))] [(.ref a), (.ref a)])) rfl rfl (hb hby own_d_prog_57_3_54)
  refine Goes.st st21 ?_
  show Goes p e below s _ _ _ (T21.setTop (mkF m 57 #[.val (.ref a), .val (.long now), .second, .val (.int (own_bI false))] [(.int sd), (.ref a)]))
  refine Goes.st (fun t_ k_ => XS.iconst X21.here hx rfl (hb hby own_d_prog_57_3_57) k_) ?_
  show Goes p e below s _ _ _ (T21.setTop (mkF m 58 #[.val (.ref a), .val (.long now), .second, .val (.int (own_bI false))] [(.int (1 : Int32)), (.int sd), (.ref a)]))
  refine Goes.st (fun t_ k_ => XS.iadd X21.here hx rfl (hb hby own_d_prog_57_3_58) rfl k_) ?_
  show Goes p e below s _ _ _ (T21.setTop (mkF m 59 #[.val (.ref a), .val (.long now), .second, .val (.int (own_bI false))] [(.int (sd + (1 : Int32))), (.ref a)]))
  obtain ⟨T22, h22, X22, e22, W22, st22⟩ := putF X21 hx hZ hown (host := "") (Or.inl (hw _ (List.mem_of_getElem? (i := 26) rfl))) Via.refl e21 Fd_a E_a (Or.inl (hw _ (List.mem_of_getElem? (i := 27) rfl))) (hw _ (List.mem_of_getElem? (i := 3) rfl)) (ty := .int) (by decide) rfl rfl (g := (mkF m 59 #[.val (.ref a), .val (.long now), .second, .val (.int (own_bI false))] [(.int (sd + (1 : Int32))), (.ref a)])) rfl rfl (hb hby own_d_prog_57_3_59)
  refine Goes.st st22 ?_
  have E_a := E_a.wr W22
  have Fs_a := Fs_a.other W22 (Or.inr (slot_ne (Or.inl (hw _ (List.mem_of_getElem? (i := 25) rfl))) (Or.inl (hw _ (List.mem_of_getElem? (i := 27) rfl))) (by decide) (t := .boolean) (t' := .int) (by decide) (by decide)))
  have Fa_a := Fa_a.other W22 (Or.inr (slot_ne (Or.inl (hw _ (List.mem_of_getElem? (i := 40) rfl))) (Or.inl (hw _ (List.mem_of_getElem? (i := 27) rfl))) (by decide) (t := .boolean) (t' := .int) (by decide) (by decide)))
  have Fd_a := Fd_a.same W22
  have Fp_a := Fp_a.other W22 (Or.inr (slot_ne (Or.inl (hw _ (List.mem_of_getElem? (i := 42) rfl))) (Or.inl (hw _ (List.mem_of_getElem? (i := 27) rfl))) (by decide) (t := .long) (t' := .int) (by decide) (by decide)))
  have Fi_a := Fi_a.other W22 (Or.inr (slot_ne (Or.inl (hw _ (List.mem_of_getElem? (i := 18) rfl))) (Or.inl (hw _ (List.mem_of_getElem? (i := 27) rfl))) (by decide) (t := .long) (t' := .int) (by decide) (by decide)))
  have Fh_a := Fh_a.other W22 (Or.inr (slot_ne (Or.inr (hw _ (List.mem_of_getElem? (i := 13) rfl))) (Or.inl (hw _ (List.mem_of_getElem? (i := 27) rfl))) (by decide) (t := (.array .double)) (t' := .int) (by decide) (by decide)))
  have Ft_a := Ft_a.other W22 (Or.inr (slot_ne (Or.inl (hw _ (List.mem_of_getElem? (i := 49) rfl))) (Or.inl (hw _ (List.mem_of_getElem? (i := 27) rfl))) (by decide) (t := .int) (t' := .int) (by decide) (by decide)))
  have Fr_a := Fr_a.other W22 (Or.inr (slot_ne (Or.inl (hw _ (List.mem_of_getElem? (i := 51) rfl))) (Or.inl (hw _ (List.mem_of_getElem? (i := 27) rfl))) (by decide) (t := .int) (t' := .int) (by decide) (by decide)))
  have N22 := Fr.snoc X22 N20 g_a
  have Z0'' := Nat.le_trans Z0' (Keep.of_wr W22).1
  have K0 := K0.wr W22 (Or.inl (List.mem_of_getElem? (i := 0) rfl))
  show Goes p e below s _ _ _ (T22.setTop (mkF m 62 #[.val (.ref a), .val (.long now), .second, .val (.int (own_bI false))] []))
  refine Goes.st (fun t_ k_ => XS.aloadN X22.here hx rfl (hb hby own_d_prog_57_3_62) rfl rfl k_) ?_
  show Goes p e below s _ _ _ (T22.setTop (mkF m 63 #[.val (.ref a), .val (.long now), .second, .val (.int (own_bI false))] [(.ref a)]))
  refine Goes.st (fun t_ k_ => XS.lloadN X22.here hx rfl (hb hby own_d_prog_57_3_63) rfl  k_) ?_
  show Goes p e below s _ _ _ (T22.setTop (mkF m 64 #[.val (.ref a), .val (.long now), .second, .val (.int (own_bI false))] [(.long now), (.ref a)]))
  obtain ⟨T23, h23, X23, e23, W23, st23⟩ := putF X22 hx hZ hown (host := "") (Or.inl (hw _ (List.mem_of_getElem? (i := 17) rfl))) Via.refl e22 Fi_a E_a (Or.inl (hw _ (List.mem_of_getElem? (i := 18) rfl))) (hw _ (List.mem_of_getElem? (i := 3) rfl)) (ty := .long) (by decide) rfl rfl (g := (mkF m 64 #[.val (.ref a), .val (.long now), .second, .val (.int (own_bI false))] [(.long now), (.ref a)])) rfl rfl (hb hby own_d_prog_57_3_64)
  refine Goes.st st23 ?_
  have E_a := E_a.wr W23
  have Fs_a := Fs_a.other W23 (Or.inr (slot_ne (Or.inl (hw _ (List.mem_of_getElem? (i := 25) rfl))) (Or.inl (hw _ (List.mem_of_getElem? (i := 18) rfl))) (by decide) (t := .boolean) (t' := .long) (by decide) (by decide)))
  have Fa_a := Fa_a.other W23 (Or.inr (slot_ne (Or.inl (hw _ (List.mem_of_getElem? (i := 40) rfl))) (Or.inl (hw _ (List.mem_of_getElem? (i := 18) rfl))) (by decide) (t := .boolean) (t' := .long) (by decide) (by decide)))
  have Fd_a := Fd_a.other W23 (Or.inr (slot_ne (Or.inl (hw _ (List.mem_of_getElem? (i := 27) rfl))) (Or.inl (hw _ (List.mem_of_getElem? (i := 18) rfl))) (by decide) (t := .int) (t' := .long) (by decide) (by decide)))
  have Fp_a := Fp_a.other W23 (Or.inr (slot_ne (Or.inl (hw _ (List.mem_of_getElem? (i := 42) rfl))) (Or.inl (hw _ (List.mem_of_getElem? (i := 18) rfl))) (by decide) (t := .long) (t' := .long) (by decide) (by decide)))
  have Fi_a := Fi_a.same W23
  have Fh_a := Fh_a.other W23 (Or.inr (slot_ne (Or.inr (hw _ (List.mem_of_getElem? (i := 13) rfl))) (Or.inl (hw _ (List.mem_of_getElem? (i := 18) rfl))) (by decide) (t := (.array .double)) (t' := .long) (by decide) (by decide)))
  have Ft_a := Ft_a.other W23 (Or.inr (slot_ne (Or.inl (hw _ (List.mem_of_getElem? (i := 49) rfl))) (Or.inl (hw _ (List.mem_of_getElem? (i := 18) rfl))) (by decide) (t := .int) (t' := .long) (by decide) (by decide)))
  have Fr_a := Fr_a.other W23 (Or.inr (slot_ne (Or.inl (hw _ (List.mem_of_getElem? (i := 51) rfl))) (Or.inl (hw _ (List.mem_of_getElem? (i := 18) rfl))) (by decide) (t := .int) (t' := .long) (by decide) (by decide)))
  have N23 := Fr.snoc X23 N22 g_a
  have Z0''' := Nat.le_trans Z0'' (Keep.of_wr W23).1
  have K0 := K0.wr W23 (Or.inl (List.mem_of_getElem? (i := 0) rfl))
  show Goes p e below s _ _ _ (T23.setTop (mkF m 67 #[.val (.ref a), .val (.long now), .second, .val (.int (own_bI false))] []))
  refine Goes.st (fun t_ k_ => XS.aloadN X23.here hx rfl (hb hby own_d_prog_57_3_67) rfl rfl k_) ?_
  show Goes p e below s _ _ _ (T23.setTop (mkF m 68 #[.val (.ref a), .val (.long now), .second, .val (.int (own_bI false))] [(.ref a)]))
  obtain ⟨T24, X24, e24, st24⟩ := getF X23 hx hZ hown (host := "") (Or.inl (hw _ (List.mem_of_getElem? (i := 39) rfl))) Via.refl e23 Fa_a (g := (mkF m 68 #[.val (.ref a), .val (.long now), .second, .val (.int (own_bI false))] [(.ref a)])) rfl rfl (hb hby own_d_prog_57_3_68)
  refine Goes.st st24 ?_
  show Goes p e below s _ _ _ (T24.setTop (mkF m 71 #[.val (.ref a), .val (.long now), .second, .val (.int (own_bI false))] [(.int (0 : Int32))]))
  rw [← e24] at K0 E_a Fs_a Fa_a Fd_a Fp_a Fi_a Fh_a Ft_a Fr_a
  exact Goes.retN X24 hx (t := .boolean) hret hlk (by simp) (hb hby own_d_prog_57_3_71) (by decide) (by decide) (⟨rfl, N23, K0, E_a, Fs_a, Fa_a, Fd_a, Fp_a, Fi_a, Fh_a, Ft_a, Fr_a⟩)
theorem own_rmG_ef (m : MethodId) (a : Addr) (z : Int32) : entryFrame m #[(.ref a), (.int z)] 2 = mkF m 0 #[.val (.ref a), .val (.int z)] [] := by first | (simp [entryFrame, mkF, argsToLocals, Value.category]; done) | rfl
set_option maxRecDepth 65536 in
set_option maxHeartbeats 40000000 in
theorem own_rmG (l : Launch) (Z : State) (a0 : Array Value) (hw : ∀ d ∈ tables_1, d.before a0 Z = true) (ws : List Jvm.Cond) (a : Addr) (z : Int32) (u1 u2 u3 u4 : Value) (h0 : Heap) (n0 : Nat) (Z0 : n0 ≤ h0.size) (hz : z = 1) (E_a : Exa Z h0 a "com/example/delaunet/delaunet/core/sim/Pace") (Fs_a : Fld Z h0 a "com/example/delaunet/delaunet/core/sim/Pace" "staying" "Z" (.int (0 : Int32))) (Fa_a : Fld Z h0 a "com/example/delaunet/delaunet/core/sim/Pace" "awayNow" "Z" u1) (Fd_a : Fld Z h0 a "com/example/delaunet/delaunet/core/sim/Pace" "started" "I" u2) (Fp_a : Fld Z h0 a "com/example/delaunet/delaunet/core/sim/Pace" "spent" "J" u3) (Fi_a : Fld Z h0 a "com/example/delaunet/delaunet/core/sim/Pace" "since" "J" u4) (g_a : n0 ≤ a) :
    MetFree l (⟨"com/example/delaunet/delaunet/core/sim/Pace", "begin", "(Z)V"⟩ : MethodName) (head1 (Jvm.Cond.code (⟨"com/example/delaunet/delaunet/core/sim/Pace", "begin", "(Z)V"⟩ : MethodName) prog_57_method_6_code 2 none :: ws) ({ frames := 0, cells := 0, slots := 0, locals := 0 } : Room)) (fun aa_ U => aa_ = #[(.ref a), (.int z)] ∧ Z.Warmed39 U.vm ∧ U.heap = h0) (fun _ _ _ _ _ => True) (fun _ U oo_ U' => ∃ vv_ LL_, oo_ = .returned vv_ ∧ own_QG Z a h0 n0 vv_ U'.heap LL_ ∧ FrameEnd U oo_ U' LL_ ({ frames := 0, cells := 0, slots := 0, locals := 0 } : Room).cells ({ frames := 0, cells := 0, slots := 0, locals := 0 } : Room).slots) := by
  refine MetFree.of_bodySF (plainFor_of_name own_pn14) hisR ?_
  intro p e s m args below meth c s₁ Bd hml0 hP hK
  obtain ⟨rfl, hZ, hh⟩ := hP
  have hx := Bd.exec
  have hby := Bd.bytes
  have hml : c.maxLocals = 2 := hml0
  have hown : s.vm.findClass "com/example/delaunet/delaunet/core/sim/Pace" = some m.cls := findClass_of_methodNamed Bd.named
  have hnm := (name_of_methodNamed Bd.named Bd.method).1
  have hlk := Bd.notSynchronized
  have hret := Bd.returns
  have X0 : Stand p l e ({ frames := 0, cells := 0, slots := 0, locals := 0 } : Room) s m #[(.ref a), (.int z)] below meth c s₁ [] 0 0 := Stand.of_body Bd
  have e0 : s₁.heap = h0 := by rw [← hh, Bd.state]; rfl
  have N0 := Fr.nil n0
  show Goes p e below s (own_QG Z a h0 n0) ({ frames := 0, cells := 0, slots := 0, locals := 0 } : Room).cells ({ frames := 0, cells := 0, slots := 0, locals := 0 } : Room).slots _
  refine Goes.cast (own_rmG_ef m a z) ?_
  subst hz
  have K0 := Keep.refl h0 [a]
  show Goes p e below s _ _ _ (s₁.setTop (mkF m 0 #[.val (.ref a), .val (.int (1 : Int32))] []))
  refine Goes.st (fun t_ k_ => XS.aloadN X0.here hx rfl (hb hby own_d_prog_57_6_0) rfl rfl k_) ?_
  show Goes p e below s _ _ _ (s₁.setTop (mkF m 1 #[.val (.ref a), .val (.int (1 : Int32))] [(.ref a)]))
  refine Goes.st (fun t_ k_ => XS.iloadN X0.here hx rfl (hb hby own_d_prog_57_6_1) rfl  k_) ?_
  show Goes p e below s _ _ _ (s₁.setTop (mkF m 2 #[.val (.ref a), .val (.int (1 : Int32))] [(.int (1 : Int32)), (.ref a)]))
  obtain ⟨T25, h25, X25, e25, W25, st25⟩ := putFN X0 hx hZ hown (hw _ (List.mem_of_getElem? (i := 39) rfl)) Via.refl e0 Fa_a E_a (Or.inl (hw _ (List.mem_of_getElem? (i := 40) rfl))) (hw _ (List.mem_of_getElem? (i := 3) rfl)) (ty := .boolean) (v' := (.int (nar .boolean (1 : Int32)))) (by decide) rfl (fits_nar_bool _) (g := (mkF m 2 #[.val (.ref a), .val (.int (1 : Int32))] [(.int (1 : Int32)), (.ref a)])) rfl rfl (hb hby own_d_prog_57_6_2)
  refine Goes.st st25 ?_
  have E_a := E_a.wr W25
  have Fs_a := Fs_a.other W25 (Or.inr (slot_ne (Or.inl (hw _ (List.mem_of_getElem? (i := 25) rfl))) (Or.inl (hw _ (List.mem_of_getElem? (i := 40) rfl))) (by decide) (t := .boolean) (t' := .boolean) (by decide) (by decide)))
  have Fa_a := Fa_a.same W25
  have Fd_a := Fd_a.other W25 (Or.inr (slot_ne (Or.inl (hw _ (List.mem_of_getElem? (i := 27) rfl))) (Or.inl (hw _ (List.mem_of_getElem? (i := 40) rfl))) (by decide) (t := .int) (t' := .boolean) (by decide) (by decide)))
  have Fp_a := Fp_a.other W25 (Or.inr (slot_ne (Or.inl (hw _ (List.mem_of_getElem? (i := 42) rfl))) (Or.inl (hw _ (List.mem_of_getElem? (i := 40) rfl))) (by decide) (t := .long) (t' := .boolean) (by decide) (by decide)))
  have Fi_a := Fi_a.other W25 (Or.inr (slot_ne (Or.inl (hw _ (List.mem_of_getElem? (i := 18) rfl))) (Or.inl (hw _ (List.mem_of_getElem? (i := 40) rfl))) (by decide) (t := .long) (t' := .boolean) (by decide) (by decide)))
  have N25 := Fr.snoc X25 N0 g_a
  have Z0' := Nat.le_trans Z0 (Keep.of_wr W25).1
  have K0 := K0.wr W25 (Or.inl (List.mem_of_getElem? (i := 0) rfl))
  show Goes p e below s _ _ _ (T25.setTop (mkF m 5 #[.val (.ref a), .val (.int (1 : Int32))] []))
  refine Goes.st (fun t_ k_ => XS.aloadN X25.here hx rfl (hb hby own_d_prog_57_6_5) rfl rfl k_) ?_
  show Goes p e below s _ _ _ (T25.setTop (mkF m 6 #[.val (.ref a), .val (.int (1 : Int32))] [(.ref a)]))
  refine Goes.st (fun t_ k_ => XS.iconst X25.here hx rfl (hb hby own_d_prog_57_6_6) k_) ?_
  show Goes p e below s _ _ _ (T25.setTop (mkF m 7 #[.val (.ref a), .val (.int (1 : Int32))] [(.int (0 : Int32)), (.ref a)]))
  obtain ⟨T26, h26, X26, e26, W26, st26⟩ := putF X25 hx hZ hown (host := "") (Or.inl (hw _ (List.mem_of_getElem? (i := 26) rfl))) Via.refl e25 Fd_a E_a (Or.inl (hw _ (List.mem_of_getElem? (i := 27) rfl))) (hw _ (List.mem_of_getElem? (i := 3) rfl)) (ty := .int) (by decide) rfl rfl (g := (mkF m 7 #[.val (.ref a), .val (.int (1 : Int32))] [(.int (0 : Int32)), (.ref a)])) rfl rfl (hb hby own_d_prog_57_6_7)
  refine Goes.st st26 ?_
  have E_a := E_a.wr W26
  have Fs_a := Fs_a.other W26 (Or.inr (slot_ne (Or.inl (hw _ (List.mem_of_getElem? (i := 25) rfl))) (Or.inl (hw _ (List.mem_of_getElem? (i := 27) rfl))) (by decide) (t := .boolean) (t' := .int) (by decide) (by decide)))
  have Fa_a := Fa_a.other W26 (Or.inr (slot_ne (Or.inl (hw _ (List.mem_of_getElem? (i := 40) rfl))) (Or.inl (hw _ (List.mem_of_getElem? (i := 27) rfl))) (by decide) (t := .boolean) (t' := .int) (by decide) (by decide)))
  have Fd_a := Fd_a.same W26
  have Fp_a := Fp_a.other W26 (Or.inr (slot_ne (Or.inl (hw _ (List.mem_of_getElem? (i := 42) rfl))) (Or.inl (hw _ (List.mem_of_getElem? (i := 27) rfl))) (by decide) (t := .long) (t' := .int) (by decide) (by decide)))
  have Fi_a := Fi_a.other W26 (Or.inr (slot_ne (Or.inl (hw _ (List.mem_of_getElem? (i := 18) rfl))) (Or.inl (hw _ (List.mem_of_getElem? (i := 27) rfl))) (by decide) (t := .long) (t' := .int) (by decide) (by decide)))
  have N26 := Fr.snoc X26 N25 g_a
  have Z0'' := Nat.le_trans Z0' (Keep.of_wr W26).1
  have K0 := K0.wr W26 (Or.inl (List.mem_of_getElem? (i := 0) rfl))
  show Goes p e below s _ _ _ (T26.setTop (mkF m 10 #[.val (.ref a), .val (.int (1 : Int32))] []))
  refine Goes.st (fun t_ k_ => XS.aloadN X26.here hx rfl (hb hby own_d_prog_57_6_10) rfl rfl k_) ?_
  show Goes p e below s _ _ _ (T26.setTop (mkF m 11 #[.val (.ref a), .val (.int (1 : Int32))] [(.ref a)]))
  refine Goes.st (fun t_ k_ => XS.lconst X26.here hx rfl (hb hby own_d_prog_57_6_11) k_) ?_
  show Goes p e below s _ _ _ (T26.setTop (mkF m 12 #[.val (.ref a), .val (.int (1 : Int32))] [(.long (0 : Int64)), (.ref a)]))
  obtain ⟨T27, h27, X27, e27, W27, st27⟩ := putF X26 hx hZ hown (host := "") (Or.inl (hw _ (List.mem_of_getElem? (i := 41) rfl))) Via.refl e26 Fp_a E_a (Or.inl (hw _ (List.mem_of_getElem? (i := 42) rfl))) (hw _ (List.mem_of_getElem? (i := 3) rfl)) (ty := .long) (by decide) rfl rfl (g := (mkF m 12 #[.val (.ref a), .val (.int (1 : Int32))] [(.long (0 : Int64)), (.ref a)])) rfl rfl (hb hby own_d_prog_57_6_12)
  refine Goes.st st27 ?_
  have E_a := E_a.wr W27
  have Fs_a := Fs_a.other W27 (Or.inr (slot_ne (Or.inl (hw _ (List.mem_of_getElem? (i := 25) rfl))) (Or.inl (hw _ (List.mem_of_getElem? (i := 42) rfl))) (by decide) (t := .boolean) (t' := .long) (by decide) (by decide)))
  have Fa_a := Fa_a.other W27 (Or.inr (slot_ne (Or.inl (hw _ (List.mem_of_getElem? (i := 40) rfl))) (Or.inl (hw _ (List.mem_of_getElem? (i := 42) rfl))) (by decide) (t := .boolean) (t' := .long) (by decide) (by decide)))
  have Fd_a := Fd_a.other W27 (Or.inr (slot_ne (Or.inl (hw _ (List.mem_of_getElem? (i := 27) rfl))) (Or.inl (hw _ (List.mem_of_getElem? (i := 42) rfl))) (by decide) (t := .int) (t' := .long) (by decide) (by decide)))
  have Fp_a := Fp_a.same W27
  have Fi_a := Fi_a.other W27 (Or.inr (slot_ne (Or.inl (hw _ (List.mem_of_getElem? (i := 18) rfl))) (Or.inl (hw _ (List.mem_of_getElem? (i := 42) rfl))) (by decide) (t := .long) (t' := .long) (by decide) (by decide)))
  have N27 := Fr.snoc X27 N26 g_a
  have Z0''' := Nat.le_trans Z0'' (Keep.of_wr W27).1
  have K0 := K0.wr W27 (Or.inl (List.mem_of_getElem? (i := 0) rfl))
  show Goes p e below s _ _ _ (T27.setTop (mkF m 15 #[.val (.ref a), .val (.int (1 : Int32))] []))
  rw [← e27] at K0 E_a Fs_a Fa_a Fd_a Fp_a Fi_a
  exact Goes.ret0 X27 hx hret hlk (hb hby own_d_prog_57_6_15) (by decide) (by decide) (⟨rfl, N27, K0, E_a, Fs_a, Fa_a, Fd_a, Fp_a, _, Fi_a⟩)
theorem own_rmT_ef (m : MethodId) (a : Addr) : entryFrame m #[(.ref a)] 3 = mkF m 0 #[.val (.ref a), .unset, .unset] [] := by first | (simp [entryFrame, mkF, argsToLocals, Value.category]; done) | rfl
set_option maxRecDepth 65536 in
set_option maxHeartbeats 40000000 in
theorem own_rmT (l : Launch) (Z : State) (a0 : Array Value) (hw : ∀ d ∈ tables_1, d.before a0 Z = true) (ws : List Jvm.Cond) (a ah : Addr) (sp si : Int64) (k : ClassId) (h0 : Heap) (n0 : Nat) (Z0 : n0 ≤ h0.size) (HP : own_P Z h0 a ah 3 sp si) (V_ah : Arv Z h0 ah k .double (5 : Int32) [(.double (0 : UInt64)), (.double (0 : UInt64)), (.double (0 : UInt64)), (.double (0 : UInt64)), (.double (0 : UInt64))] (.double (0 : UInt64))) (nah : a ≠ ah) (g_a : n0 ≤ a) (g_ah : n0 ≤ ah) :
    MetFree l (⟨"com/example/delaunet/delaunet/core/sim/Pace", "endTrial", "()V"⟩ : MethodName) (head1 (Jvm.Cond.code (⟨"com/example/delaunet/delaunet/core/sim/Pace", "endTrial", "()V"⟩ : MethodName) prog_57_method_5_code 3 none :: ws) ({ frames := 1, cells := 0, slots := 0, locals := 13 } : Room)) (fun aa_ U => aa_ = #[(.ref a)] ∧ Z.Warmed39 U.vm ∧ U.heap = h0) (fun _ _ _ _ _ => True) (fun _ U oo_ U' => ∃ vv_ LL_, oo_ = .returned vv_ ∧ own_QT Z a ah h0 n0 vv_ U'.heap LL_ ∧ FrameEnd U oo_ U' LL_ ({ frames := 1, cells := 0, slots := 0, locals := 13 } : Room).cells ({ frames := 1, cells := 0, slots := 0, locals := 13 } : Room).slots) := by
  refine MetFree.of_bodySF (plainFor_of_name own_pn14) hisR ?_
  intro p e s m args below meth c s₁ Bd hml0 hP hK
  obtain ⟨rfl, hZ, hh⟩ := hP
  have hx := Bd.exec
  have hby := Bd.bytes
  have hml : c.maxLocals = 3 := hml0
  have hown : s.vm.findClass "com/example/delaunet/delaunet/core/sim/Pace" = some m.cls := findClass_of_methodNamed Bd.named
  have hnm := (name_of_methodNamed Bd.named Bd.method).1
  have hlk := Bd.notSynchronized
  have hret := Bd.returns
  have X0 : Stand p l e ({ frames := 1, cells := 0, slots := 0, locals := 13 } : Room) s m #[(.ref a)] below meth c s₁ [] 0 0 := Stand.of_body Bd
  have e0 : s₁.heap = h0 := by rw [← hh, Bd.state]; rfl
  have N0 := Fr.nil n0
  show Goes p e below s (own_QT Z a ah h0 n0) ({ frames := 1, cells := 0, slots := 0, locals := 13 } : Room).cells ({ frames := 1, cells := 0, slots := 0, locals := 13 } : Room).slots _
  refine Goes.cast (own_rmT_ef m a) ?_
  obtain ⟨E_a, Fs_a, Fa_a, Fd_a, Fp_a, Fi_a, Fh_a, Ft_a, Fr_a⟩ := HP
  have K0 := Keep.refl h0 [a, ah]
  show Goes p e below s _ _ _ (s₁.setTop (mkF m 0 #[.val (.ref a), .unset, .unset] []))
  refine Goes.st (fun t_ k_ => XS.aloadN X0.here hx rfl (hb hby own_d_prog_57_5_0) rfl rfl k_) ?_
  show Goes p e below s _ _ _ (s₁.setTop (mkF m 1 #[.val (.ref a), .unset, .unset] [(.ref a)]))
  obtain ⟨T28, X28, e28, st28⟩ := getF X0 hx hZ hown (host := "") (Or.inl (hw _ (List.mem_of_getElem? (i := 39) rfl))) Via.refl e0 Fa_a (g := (mkF m 1 #[.val (.ref a), .unset, .unset] [(.ref a)])) rfl rfl (hb hby own_d_prog_57_5_1)
  refine Goes.st st28 ?_
  show Goes p e below s _ _ _ (T28.setTop (mkF m 4 #[.val (.ref a), .unset, .unset] [(.int (0 : Int32))]))
  refine Goes.st (fun t_ k_ => XS.ifYes X28.here hx rfl (pc0 := 4) (pc' := 14) rfl (hb hby own_d_prog_57_5_4) rfl ((if0 _ _).trans (teq (rfl : (0 : Int32) = 0)).1) (by decide) (by decide) k_) ?_
  show Goes p e below s _ _ _ (T28.setTop (mkF m 14 #[.val (.ref a), .unset, .unset] []))
  refine Goes.st (fun t_ k_ => XS.aloadN X28.here hx rfl (hb hby own_d_prog_57_5_14) rfl rfl k_) ?_
  show Goes p e below s _ _ _ (T28.setTop (mkF m 15 #[.val (.ref a), .unset, .unset] [(.ref a)]))
  obtain ⟨T29, X29, e29, st29⟩ := getF X28 hx hZ hown (host := "") (Or.inl (hw _ (List.mem_of_getElem? (i := 12) rfl))) Via.refl e28 Fh_a (g := (mkF m 15 #[.val (.ref a), .unset, .unset] [(.ref a)])) rfl rfl (hb hby own_d_prog_57_5_15)
  refine Goes.st st29 ?_
  show Goes p e below s _ _ _ (T29.setTop (mkF m 18 #[.val (.ref a), .unset, .unset] [(.ref ah)]))
  refine Goes.st (fun t_ k_ => XS.aloadN X29.here hx rfl (hb hby own_d_prog_57_5_18) rfl rfl k_) ?_
  show Goes p e below s _ _ _ (T29.setTop (mkF m 19 #[.val (.ref a), .unset, .unset] [(.ref a), (.ref ah)]))
  obtain ⟨T30, X30, e30, st30⟩ := getF X29 hx hZ hown (host := "") (Or.inl (hw _ (List.mem_of_getElem? (i := 48) rfl))) Via.refl e29 Ft_a (g := (mkF m 19 #[.val (.ref a), .unset, .unset] [(.ref a), (.ref ah)])) rfl rfl (hb hby own_d_prog_57_5_19)
  refine Goes.st st30 ?_
  show Goes p e below s _ _ _ (T30.setTop (mkF m 22 #[.val (.ref a), .unset, .unset] [(.int (0 : Int32)), (.ref ah)]))
  refine Goes.st (fun t_ k_ => XS.iconst X30.here hx rfl (hb hby own_d_prog_57_5_22) k_) ?_
  show Goes p e below s _ _ _ (T30.setTop (mkF m 23 #[.val (.ref a), .unset, .unset] [(.int (2 : Int32)), (.int (0 : Int32)), (.ref ah)]))
  refine Goes.st (fun t_ k_ => XS.idiv X30.here hx rfl (hb hby own_d_prog_57_5_23) rfl (by decide) k_) ?_
  show Goes p e below s _ _ _ (T30.setTop (mkF m 24 #[.val (.ref a), .unset, .unset] [(.int ((0 : Int32) / (2 : Int32))), (.ref ah)]))
  have lit31 : ((0 : Int32) / (2 : Int32)) = (0 : Int32) := by decide
  rw [lit31]
  show Goes p e below s _ _ _ (T30.setTop (mkF m 24 #[.val (.ref a), .unset, .unset] [(.int (0 : Int32)), (.ref ah)]))
  show Goes p e below s _ _ _ (T30.setTop (mkF m 24 #[.val (.ref a), .unset, .unset] [(.int (0 : Int32)), (.ref ah)]))
  refine Goes.st (fun t_ k_ => XS.aloadN X30.here hx rfl (hb hby own_d_prog_57_5_24) rfl rfl k_) ?_
  show Goes p e below s _ _ _ (T30.setTop (mkF m 25 #[.val (.ref a), .unset, .unset] [(.ref a), (.int (0 : Int32)), (.ref ah)]))
  obtain ⟨T32, X32, e32, st32⟩ := getF X30 hx hZ hown (host := "") (Or.inl (hw _ (List.mem_of_getElem? (i := 41) rfl))) Via.refl e30 Fp_a (g := (mkF m 25 #[.val (.ref a), .unset, .unset] [(.ref a), (.int (0 : Int32)), (.ref ah)])) rfl rfl (hb hby own_d_prog_57_5_25)
  refine Goes.st st32 ?_
  show Goes p e below s _ _ _ (T32.setTop (mkF m 28 #[.val (.ref a), .unset, .unset] [(.long sp), (.int (0 : Int32)), (.ref ah)]))
  refine Goes.st (fun t_ k_ => XS.l2dS X32.here hx rfl (hb hby own_d_prog_57_5_28) rfl rfl k_) ?_
  show Goes p e below s _ _ _ (T32.setTop (mkF m 29 #[.val (.ref a), .unset, .unset] [(.double (FP.l2d sp)), (.int (0 : Int32)), (.ref ah)]))
  refine Goes.st (fun t_ k_ => XS.aloadN X32.here hx rfl (hb hby own_d_prog_57_5_29) rfl rfl k_) ?_
  show Goes p e below s _ _ _ (T32.setTop (mkF m 30 #[.val (.ref a), .unset, .unset] [(.ref a), (.double (FP.l2d sp)), (.int (0 : Int32)), (.ref ah)]))
  obtain ⟨T33, X33, e33, st33⟩ := getF X32 hx hZ hown (host := "") (Or.inl (hw _ (List.mem_of_getElem? (i := 26) rfl))) Via.refl e32 Fd_a (g := (mkF m 30 #[.val (.ref a), .unset, .unset] [(.ref a), (.double (FP.l2d sp)), (.int (0 : Int32)), (.ref ah)])) rfl rfl (hb hby own_d_prog_57_5_30)
  refine Goes.st st33 ?_
  show Goes p e below s _ _ _ (T33.setTop (mkF m 33 #[.val (.ref a), .unset, .unset] [(.int (3 : Int32)), (.double (FP.l2d sp)), (.int (0 : Int32)), (.ref ah)]))
  refine Goes.st (fun t_ k_ => XS.iconst X33.here hx rfl (hb hby own_d_prog_57_5_33) k_) ?_
  show Goes p e below s _ _ _ (T33.setTop (mkF m 34 #[.val (.ref a), .unset, .unset] [(.int (1 : Int32)), (.int (3 : Int32)), (.double (FP.l2d sp)), (.int (0 : Int32)), (.ref ah)]))
  refine Goes.st (fun t_ k_ => XS.isub X33.here hx rfl (hb hby own_d_prog_57_5_34) rfl k_) ?_
  show Goes p e below s _ _ _ (T33.setTop (mkF m 35 #[.val (.ref a), .unset, .unset] [(.int ((3 : Int32) - (1 : Int32))), (.double (FP.l2d sp)), (.int (0 : Int32)), (.ref ah)]))
  have lit34 : ((3 : Int32) - (1 : Int32)) = (2 : Int32) := by decide
  rw [lit34]
  show Goes p e below s _ _ _ (T33.setTop (mkF m 35 #[.val (.ref a), .unset, .unset] [(.int (2 : Int32)), (.double (FP.l2d sp)), (.int (0 : Int32)), (.ref ah)]))
  show Goes p e below s _ _ _ (T33.setTop (mkF m 35 #[.val (.ref a), .unset, .unset] [(.int (2 : Int32)), (.double (FP.l2d sp)), (.int (0 : Int32)), (.ref ah)]))
  refine Goes.st (fun t_ k_ => XS.i2dS X33.here hx rfl (hb hby own_d_prog_57_5_35) rfl rfl k_) ?_
  show Goes p e below s _ _ _ (T33.setTop (mkF m 36 #[.val (.ref a), .unset, .unset] [(.double (FP.i2d (2 : Int32))), (.double (FP.l2d sp)), (.int (0 : Int32)), (.ref ah)]))
  refine Goes.st (fun t_ k_ => XS.ddivS X33.here hx rfl (hb hby own_d_prog_57_5_36) rfl (own_nn sp) rfl k_) ?_
  show Goes p e below s _ _ _ (T33.setTop (mkF m 37 #[.val (.ref a), .unset, .unset] [(.double (FP.ddiv (FP.l2d sp) (FP.i2d (2 : Int32)))), (.int (0 : Int32)), (.ref ah)]))
  obtain ⟨cl35, Ar35, q35, S35, M35, H35, G35⟩ := V_ah
  obtain ⟨T35, h35, X35, e35, W35, st35⟩ := stD X33 hx hZ e33 Ar35 (j := (0 : Int32)) (inb_of S35 ⟨by decide, by decide⟩) (g := (mkF m 37 #[.val (.ref a), .unset, .unset] [(.double (FP.ddiv (FP.l2d sp) (FP.i2d (2 : Int32)))), (.int (0 : Int32)), (.ref ah)])) rfl rfl (hb hby own_d_prog_57_5_37)
  have V_ah := Arv.set Ar35 q35 S35 M35 H35 G35 rfl W35 0 rfl (Nat.le_of_ble_eq_true rfl)
  refine Goes.st st35 ?_
  have V_ah : Arv Z h35 ah k .double (5 : Int32) [(.double (FP.ddiv (FP.l2d sp) (FP.i2d (2 : Int32)))), (.double (0 : UInt64)), (.double (0 : UInt64)), (.double (0 : UInt64)), (.double (0 : UInt64))] (.double (0 : UInt64)) := V_ah
  have E_a := E_a.wr W35
  have Fs_a := Fs_a.other W35 (Or.inl nah)
  have Fa_a := Fa_a.other W35 (Or.inl nah)
  have Fd_a := Fd_a.other W35 (Or.inl nah)
  have Fp_a := Fp_a.other W35 (Or.inl nah)
  have Fi_a := Fi_a.other W35 (Or.inl nah)
  have Fh_a := Fh_a.other W35 (Or.inl nah)
  have Ft_a := Ft_a.other W35 (Or.inl nah)
  have Fr_a := Fr_a.other W35 (Or.inl nah)
  have N35 := Fr.snoc X35 N0 g_ah
  have Z0' := Nat.le_trans Z0 (Keep.of_wr W35).1
  have K0 := K0.wr W35 (Or.inl (List.mem_of_getElem? (i := 1) rfl))
  show Goes p e below s _ _ _ (T35.setTop (mkF m 38 #[.val (.ref a), .unset, .unset] []))
  refine Goes.st (fun t_ k_ => XS.aloadN X35.here hx rfl (hb hby own_d_prog_57_5_38) rfl rfl k_) ?_
  show Goes p e below s _ _ _ (T35.setTop (mkF m 39 #[.val (.ref a), .unset, .unset] [(.ref a)]))
  refine Goes.st (fun t_ k_ => XS.dup X35.here hx rfl (hb hby own_d_prog_57_5_39) rfl rfl k_) ?_
  show Goes p e below s _ _ _ (T35.setTop (mkF m 40 #[.val (.ref a), .unset, .unset] [(.ref a), (.ref a)]))
  obtain ⟨T36, X36, e36, st36⟩ := getF X35 hx hZ hown (host := "") (Or.inl (hw _ (List.mem_of_getElem? (i := 48) rfl))) Via.refl e35 Ft_a (g := (mkF m 40 #[.val (.ref a), .unset, .unset] [(.ref a), (.ref a)])) rfl rfl (hb hby own_d_prog_57_5_40)
  refine Goes.st st36 ?_
  show Goes p e below s _ _ _ (T36.setTop (mkF m 43 #[.val (.ref a), .unset, .unset] [(.int (0 : Int32)), (.ref a)]))
  refine Goes.st (fun t_ k_ => XS.iconst X36.here hx rfl (hb hby own_d_prog_57_5_43) k_) ?_
  show Goes p e below s _ _ _ (T36.setTop (mkF m 44 #[.val (.ref a), .unset, .unset] [(.int (1 : Int32)), (.int (0 : Int32)), (.ref a)]))
  refine Goes.st (fun t_ k_ => XS.iadd X36.here hx rfl (hb hby own_d_prog_57_5_44) rfl k_) ?_
  show Goes p e below s _ _ _ (T36.setTop (mkF m 45 #[.val (.ref a), .unset, .unset] [(.int ((0 : Int32) + (1 : Int32))), (.ref a)]))
  obtain ⟨T37, h37, X37, e37, W37, st37⟩ := putF X36 hx hZ hown (host := "") (Or.inl (hw _ (List.mem_of_getElem? (i := 48) rfl))) Via.refl e36 Ft_a E_a (Or.inl (hw _ (List.mem_of_getElem? (i := 49) rfl))) (hw _ (List.mem_of_getElem? (i := 3) rfl)) (ty := .int) (by decide) rfl rfl (g := (mkF m 45 #[.val (.ref a), .unset, .unset] [(.int ((0 : Int32) + (1 : Int32))), (.ref a)])) rfl rfl (hb hby own_d_prog_57_5_45)
  refine Goes.st st37 ?_
  have E_a := E_a.wr W37
  have Fs_a := Fs_a.other W37 (Or.inr (slot_ne (Or.inl (hw _ (List.mem_of_getElem? (i := 25) rfl))) (Or.inl (hw _ (List.mem_of_getElem? (i := 49) rfl))) (by decide) (t := .boolean) (t' := .int) (by decide) (by decide)))
  have Fa_a := Fa_a.other W37 (Or.inr (slot_ne (Or.inl (hw _ (List.mem_of_getElem? (i := 40) rfl))) (Or.inl (hw _ (List.mem_of_getElem? (i := 49) rfl))) (by decide) (t := .boolean) (t' := .int) (by decide) (by decide)))
  have Fd_a := Fd_a.other W37 (Or.inr (slot_ne (Or.inl (hw _ (List.mem_of_getElem? (i := 27) rfl))) (Or.inl (hw _ (List.mem_of_getElem? (i := 49) rfl))) (by decide) (t := .int) (t' := .int) (by decide) (by decide)))
  have Fp_a := Fp_a.other W37 (Or.inr (slot_ne (Or.inl (hw _ (List.mem_of_getElem? (i := 42) rfl))) (Or.inl (hw _ (List.mem_of_getElem? (i := 49) rfl))) (by decide) (t := .long) (t' := .int) (by decide) (by decide)))
  have Fi_a := Fi_a.other W37 (Or.inr (slot_ne (Or.inl (hw _ (List.mem_of_getElem? (i := 18) rfl))) (Or.inl (hw _ (List.mem_of_getElem? (i := 49) rfl))) (by decide) (t := .long) (t' := .int) (by decide) (by decide)))
  have Fh_a := Fh_a.other W37 (Or.inr (slot_ne (Or.inr (hw _ (List.mem_of_getElem? (i := 13) rfl))) (Or.inl (hw _ (List.mem_of_getElem? (i := 49) rfl))) (by decide) (t := (.array .double)) (t' := .int) (by decide) (by decide)))
  have Ft_a := Ft_a.same W37
  have Fr_a := Fr_a.other W37 (Or.inr (slot_ne (Or.inl (hw _ (List.mem_of_getElem? (i := 51) rfl))) (Or.inl (hw _ (List.mem_of_getElem? (i := 49) rfl))) (by decide) (t := .int) (t' := .int) (by decide) (by decide)))
  have V_ah := V_ah.other W37 (Ne.symm nah)
  have N37 := Fr.snoc X37 N35 g_a
  have Z0'' := Nat.le_trans Z0' (Keep.of_wr W37).1
  have K0 := K0.wr W37 (Or.inl (List.mem_of_getElem? (i := 0) rfl))
  show Goes p e below s _ _ _ (T37.setTop (mkF m 48 #[.val (.ref a), .unset, .unset] []))
  have lit38 : ((0 : Int32) + (1 : Int32)) = (1 : Int32) := by decide
  rw [lit38] at Ft_a
  show Goes p e below s _ _ _ (T37.setTop (mkF m 48 #[.val (.ref a), .unset, .unset] []))
  show Goes p e below s _ _ _ (T37.setTop (mkF m 48 #[.val (.ref a), .unset, .unset] []))
  refine Goes.st (fun t_ k_ => XS.aloadN X37.here hx rfl (hb hby own_d_prog_57_5_48) rfl rfl k_) ?_
  show Goes p e below s _ _ _ (T37.setTop (mkF m 49 #[.val (.ref a), .unset, .unset] [(.ref a)]))
  refine Goes.st (fun t_ k_ => XS.dup X37.here hx rfl (hb hby own_d_prog_57_5_49) rfl rfl k_) ?_
  show Goes p e below s _ _ _ (T37.setTop (mkF m 50 #[.val (.ref a), .unset, .unset] [(.ref a), (.ref a)]))
  obtain ⟨T39, X39, e39, st39⟩ := getF X37 hx hZ hown (host := "") (Or.inl (hw _ (List.mem_of_getElem? (i := 50) rfl))) Via.refl e37 Fr_a (g := (mkF m 50 #[.val (.ref a), .unset, .unset] [(.ref a), (.ref a)])) rfl rfl (hb hby own_d_prog_57_5_50)
  refine Goes.st st39 ?_
  show Goes p e below s _ _ _ (T39.setTop (mkF m 53 #[.val (.ref a), .unset, .unset] [(.int (0 : Int32)), (.ref a)]))
  refine Goes.st (fun t_ k_ => XS.aloadN X39.here hx rfl (hb hby own_d_prog_57_5_53) rfl rfl k_) ?_
  show Goes p e below s _ _ _ (T39.setTop (mkF m 54 #[.val (.ref a), .unset, .unset] [(.ref a), (.int (0 : Int32)), (.ref a)]))
  obtain ⟨T40, X40, e40, st40⟩ := getF X39 hx hZ hown (host := "") (Or.inl (hw _ (List.mem_of_getElem? (i := 26) rfl))) Via.refl e39 Fd_a (g := (mkF m 54 #[.val (.ref a), .unset, .unset] [(.ref a), (.int (0 : Int32)), (.ref a)])) rfl rfl (hb hby own_d_prog_57_5_54)
  refine Goes.st st40 ?_
  show Goes p e below s _ _ _ (T40.setTop (mkF m 57 #[.val (.ref a), .unset, .unset] [(.int (3 : Int32)), (.int (0 : Int32)), (.ref a)]))
  refine Goes.st (fun t_ k_ => XS.iadd X40.here hx rfl (hb hby own_d_prog_57_5_57) rfl k_) ?_
  show Goes p e below s _ _ _ (T40.setTop (mkF m 58 #[.val (.ref a), .unset, .unset] [(.int ((0 : Int32) + (3 : Int32))), (.ref a)]))
  obtain ⟨T41, h41, X41, e41, W41, st41⟩ := putF X40 hx hZ hown (host := "") (Or.inl (hw _ (List.mem_of_getElem? (i := 50) rfl))) Via.refl e40 Fr_a E_a (Or.inl (hw _ (List.mem_of_getElem? (i := 51) rfl))) (hw _ (List.mem_of_getElem? (i := 3) rfl)) (ty := .int) (by decide) rfl rfl (g := (mkF m 58 #[.val (.ref a), .unset, .unset] [(.int ((0 : Int32) + (3 : Int32))), (.ref a)])) rfl rfl (hb hby own_d_prog_57_5_58)
  refine Goes.st st41 ?_
  have E_a := E_a.wr W41
  have Fs_a := Fs_a.other W41 (Or.inr (slot_ne (Or.inl (hw _ (List.mem_of_getElem? (i := 25) rfl))) (Or.inl (hw _ (List.mem_of_getElem? (i := 51) rfl))) (by decide) (t := .boolean) (t' := .int) (by decide) (by decide)))
  have Fa_a := Fa_a.other W41 (Or.inr (slot_ne (Or.inl (hw _ (List.mem_of_getElem? (i := 40) rfl))) (Or.inl (hw _ (List.mem_of_getElem? (i := 51) rfl))) (by decide) (t := .boolean) (t' := .int) (by decide) (by decide)))
  have Fd_a := Fd_a.other W41 (Or.inr (slot_ne (Or.inl (hw _ (List.mem_of_getElem? (i := 27) rfl))) (Or.inl (hw _ (List.mem_of_getElem? (i := 51) rfl))) (by decide) (t := .int) (t' := .int) (by decide) (by decide)))
  have Fp_a := Fp_a.other W41 (Or.inr (slot_ne (Or.inl (hw _ (List.mem_of_getElem? (i := 42) rfl))) (Or.inl (hw _ (List.mem_of_getElem? (i := 51) rfl))) (by decide) (t := .long) (t' := .int) (by decide) (by decide)))
  have Fi_a := Fi_a.other W41 (Or.inr (slot_ne (Or.inl (hw _ (List.mem_of_getElem? (i := 18) rfl))) (Or.inl (hw _ (List.mem_of_getElem? (i := 51) rfl))) (by decide) (t := .long) (t' := .int) (by decide) (by decide)))
  have Fh_a := Fh_a.other W41 (Or.inr (slot_ne (Or.inr (hw _ (List.mem_of_getElem? (i := 13) rfl))) (Or.inl (hw _ (List.mem_of_getElem? (i := 51) rfl))) (by decide) (t := (.array .double)) (t' := .int) (by decide) (by decide)))
  have Ft_a := Ft_a.other W41 (Or.inr (slot_ne (Or.inl (hw _ (List.mem_of_getElem? (i := 49) rfl))) (Or.inl (hw _ (List.mem_of_getElem? (i := 51) rfl))) (by decide) (t := .int) (t' := .int) (by decide) (by decide)))
  have Fr_a := Fr_a.same W41
  have V_ah := V_ah.other W41 (Ne.symm nah)
  have N41 := Fr.snoc X41 N37 g_a
  have Z0''' := Nat.le_trans Z0'' (Keep.of_wr W41).1
  have K0 := K0.wr W41 (Or.inl (List.mem_of_getElem? (i := 0) rfl))
  show Goes p e below s _ _ _ (T41.setTop (mkF m 61 #[.val (.ref a), .unset, .unset] []))
  refine Goes.st (fun t_ k_ => XS.aloadN X41.here hx rfl (hb hby own_d_prog_57_5_61) rfl rfl k_) ?_
  show Goes p e below s _ _ _ (T41.setTop (mkF m 62 #[.val (.ref a), .unset, .unset] [(.ref a)]))
  obtain ⟨T42, X42, e42, st42⟩ := getF X41 hx hZ hown (host := "") (Or.inl (hw _ (List.mem_of_getElem? (i := 48) rfl))) Via.refl e41 Ft_a (g := (mkF m 62 #[.val (.ref a), .unset, .unset] [(.ref a)])) rfl rfl (hb hby own_d_prog_57_5_62)
  refine Goes.st st42 ?_
  show Goes p e below s _ _ _ (T42.setTop (mkF m 65 #[.val (.ref a), .unset, .unset] [(.int (1 : Int32))]))
  refine Goes.st (fun t_ k_ => XS.bipush X42.here hx rfl (hb hby own_d_prog_57_5_65) k_) ?_
  show Goes p e below s _ _ _ (T42.setTop (mkF m 67 #[.val (.ref a), .unset, .unset] [(.int (10 : Int32)), (.int (1 : Int32))]))
  refine Goes.st (fun t_ k_ => XS.icmpNo X42.here hx rfl (hb hby own_d_prog_57_5_67) rfl (tlt (by decide)).2.1 k_) ?_
  show Goes p e below s _ _ _ (T42.setTop (mkF m 70 #[.val (.ref a), .unset, .unset] []))
  refine Goes.st (fun t_ k_ => XS.aloadN X42.here hx rfl (hb hby own_d_prog_57_5_70) rfl rfl k_) ?_
  show Goes p e below s _ _ _ (T42.setTop (mkF m 71 #[.val (.ref a), .unset, .unset] [(.ref a)]))
  refine Goes.st (fun t_ k_ => XS.aloadN X42.here hx rfl (hb hby own_d_prog_57_5_71) rfl rfl k_) ?_
  show Goes p e below s _ _ _ (T42.setTop (mkF m 72 #[.val (.ref a), .unset, .unset] [(.ref a), (.ref a)]))
  obtain ⟨T43, X43, e43, st43⟩ := getF X42 hx hZ hown (host := "") (Or.inl (hw _ (List.mem_of_getElem? (i := 39) rfl))) Via.refl e42 Fa_a (g := (mkF m 72 #[.val (.ref a), .unset, .unset] [(.ref a), (.ref a)])) rfl rfl (hb hby own_d_prog_57_5_72)
  refine Goes.st st43 ?_
  show Goes p e below s _ _ _ (T43.setTop (mkF m 75 #[.val (.ref a), .unset, .unset] [(.int (0 : Int32)), (.ref a)]))
  refine Goes.st (fun t_ k_ => XS.ifNo X43.here hx rfl (hb hby own_d_prog_57_5_75) rfl ((if0 _ _).trans (teq (rfl : (0 : Int32) = 0)).2) k_) ?_
  show Goes p e below s _ _ _ (T43.setTop (mkF m 78 #[.val (.ref a), .unset, .unset] [(.ref a)]))
  refine Goes.st (fun t_ k_ => XS.iconst X43.here hx rfl (hb hby own_d_prog_57_5_78) k_) ?_
  show Goes p e below s _ _ _ (T43.setTop (mkF m 79 #[.val (.ref a), .unset, .unset] [(.int (1 : Int32)), (.ref a)]))
  refine Goes.st (fun t_ k_ => XS.goto X43.here hx rfl (pc0 := 79) (pc' := 83) rfl (hb hby own_d_prog_57_5_79) (by decide) (by decide) k_) ?_
  show Goes p e below s _ _ _ (T43.setTop (mkF m 83 #[.val (.ref a), .unset, .unset] [(.int (1 : Int32)), (.ref a)]))
  obtain ⟨cq44, q44, q44'⟩ := E_a.cell
  obtain ⟨_, _, ⟨T44, L44, k44, n44⟩, -, X44, ⟨Lc44, hQ44, l44, y44, z44⟩, st44⟩ := X43.privateBack hx (y := (⟨"com/example/delaunet/delaunet/core/sim/Pace", "begin", "(Z)V"⟩ : MethodName)) hown (mvT hZ (hw _ (List.mem_of_getElem? (i := 52) rfl))) (mvT hZ (hw _ (List.mem_of_getElem? (i := 53) rfl))) (own_selp hZ (hw _ (List.mem_of_getElem? (i := 3) rfl)) (hw _ (List.mem_of_getElem? (i := 53) rfl)) (hw _ (List.mem_of_getElem? (i := 54) rfl)) (by decide)) (Cond.privateMethod_at (mvP hZ (hw _ (List.mem_of_getElem? (i := 54) rfl)) (args := #[]))) (mvT hZ (hw _ (List.mem_of_getElem? (i := 55) rfl))) (by decide) (backOf (W := 0) (own_rmG l Z a0 hw [] a 1 _ _ _ _ h41 n0 Z0''' rfl E_a Fs_a Fa_a Fd_a Fp_a Fi_a g_a) hZ (hw _ (List.mem_of_getElem? (i := 55) rfl)) (hw _ (List.mem_of_getElem? (i := 4) rfl)) (by decide) (by decide)) (g := (mkF m 83 #[.val (.ref a), .unset, .unset] [(.int (1 : Int32)), (.ref a)])) rfl (by rw [hml]; rfl) (Steps.refl _) (a := a) (by rw [e43]; exact q44) q44' (argsL := [(.int (1 : Int32))]) (rest := []) (lenOf own_pd135 rfl) rfl (by show 2 * 0 + _ ≤ _; exact Nat.le_of_eq rfl) (hb hby own_d_prog_57_5_83) (fun _ _ => ⟨rfl, e43, (by decide : 0 + 0 ≤ _), (by decide : 0 + 0 ≤ _)⟩)
  dsimp only [Pt.U, Pt.locs, Pt.cells, Pt.slots] at X44 l44 y44 z44 st44 hQ44
  subst l44 y44 z44
  obtain ⟨rfl, N44q, KG, E_a, Fs_a, Fa_a, Fd_a, Fp_a, u5, Fi_a⟩ := hQ44
  have N44 := Fr.app N41 N44q
  refine Goes.tr st44 ?_
  have V_ah := V_ah.keep KG (ninS (Ne.symm nah) nin0)
  have Z0'''' := Nat.le_trans Z0''' KG.1
  have K0 : Keep h0 _ _ := K0.trans KG (allS (Or.inl (List.mem_of_getElem? (i := 0) rfl)) all0)
  show Goes p e below s _ _ _ (T44.setTop (mkF m 86 #[.val (.ref a), .unset, .unset] []))
  refine Goes.st (fun t_ k_ => XS.goto X44.here hx rfl (pc0 := 86) (pc' := 177) rfl (hb hby own_d_prog_57_5_86) (by decide) (by decide) k_) ?_
  show Goes p e below s _ _ _ (T44.setTop (mkF m 177 #[.val (.ref a), .unset, .unset] []))
  exact Goes.ret0 X44 hx hret hlk (hb hby own_d_prog_57_5_177) (by decide) (by decide) (⟨rfl, N44, K0, E_a, Fs_a, Fa_a, Fd_a, Fp_a, _, Fi_a⟩)
theorem own_rmU_ef (m : MethodId) (a : Addr) (now : Int64) : entryFrame m #[(.ref a), (.long now)] 4 = mkF m 0 #[.val (.ref a), .val (.long now), .second, .unset] [] := by first | (simp [entryFrame, mkF, argsToLocals, Value.category]; done) | rfl
set_option maxRecDepth 65536 in
set_option maxHeartbeats 40000000 in
theorem own_rmU (l : Launch) (Z : State) (a0 : Array Value) (hw : ∀ d ∈ tables_1, d.before a0 Z = true) (ws : List Jvm.Cond) (a : Addr) (now : Int64) (ah : Addr) (sp si sp' : Int64) (k : ClassId) (h0 : Heap) (n0 : Nat) (Z0 : n0 ≤ h0.size) (HP : own_P Z h0 a ah 3 sp si) (hd : own_done 3 sp = true) (hs : sp' = own_sp 3 sp si now) (V_ah : Arv Z h0 ah k .double (5 : Int32) [(.double (0 : UInt64)), (.double (0 : UInt64)), (.double (0 : UInt64)), (.double (0 : UInt64)), (.double (0 : UInt64))] (.double (0 : UInt64))) (nah : a ≠ ah) (g_a : n0 ≤ a) (g_ah : n0 ≤ ah) :
    MetFree l (⟨"com/example/delaunet/delaunet/core/sim/Pace", "start", "(J)Z"⟩ : MethodName) (head1 (Jvm.Cond.code (⟨"com/example/delaunet/delaunet/core/sim/Pace", "start", "(J)Z"⟩ : MethodName) prog_57_method_3_code 4 (some .boolean) :: ws) ({ frames := 2, cells := 0, slots := 0, locals := 27 } : Room)) (fun aa_ U => aa_ = #[(.ref a), (.long now)] ∧ Z.Warmed39 U.vm ∧ U.heap = h0) (fun _ _ _ _ _ => True) (fun _ U oo_ U' => ∃ vv_ LL_, oo_ = .returned vv_ ∧ own_QU Z a ah h0 n0 vv_ U'.heap LL_ ∧ FrameEnd U oo_ U' LL_ ({ frames := 2, cells := 0, slots := 0, locals := 27 } : Room).cells ({ frames := 2, cells := 0, slots := 0, locals := 27 } : Room).slots) := by
  refine MetFree.of_bodySF (plainFor_of_name own_pn14) hisR ?_
  intro p e s m args below meth c s₁ Bd hml0 hP hK
  obtain ⟨rfl, hZ, hh⟩ := hP
  have hx := Bd.exec
  have hby := Bd.bytes
  have hml : c.maxLocals = 4 := hml0
  have hown : s.vm.findClass "com/example/delaunet/delaunet/core/sim/Pace" = some m.cls := findClass_of_methodNamed Bd.named
  have hnm := (name_of_methodNamed Bd.named Bd.method).1
  have hlk := Bd.notSynchronized
  have hret := Bd.returns
  have X0 : Stand p l e ({ frames := 2, cells := 0, slots := 0, locals := 27 } : Room) s m #[(.ref a), (.long now)] below meth c s₁ [] 0 0 := Stand.of_body Bd
  have e0 : s₁.heap = h0 := by rw [← hh, Bd.state]; rfl
  have N0 := Fr.nil n0
  show Goes p e below s (own_QU Z a ah h0 n0) ({ frames := 2, cells := 0, slots := 0, locals := 27 } : Room).cells ({ frames := 2, cells := 0, slots := 0, locals := 27 } : Room).slots _
  refine Goes.cast (own_rmU_ef m a now) ?_
  have HP' := HP
  obtain ⟨E_a, Fs_a, Fa_a, Fd_a, Fp_a, Fi_a, Fh_a, Ft_a, Fr_a⟩ := HP'
  have K0 := Keep.refl h0 [a, ah]
  show Goes p e below s _ _ _ (s₁.setTop (mkF m 0 #[.val (.ref a), .val (.long now), .second, .unset] []))
  refine Goes.st (fun t_ k_ => XS.aloadN X0.here hx rfl (hb hby own_d_prog_57_3_0) rfl rfl k_) ?_
  show Goes p e below s _ _ _ (s₁.setTop (mkF m 1 #[.val (.ref a), .val (.long now), .second, .unset] [(.ref a)]))
  obtain ⟨cq45, kq45, q45a, q45b, q45c⟩ := isOf hZ e0 E_a
  obtain ⟨_, _, ⟨T45, L45, k45, n45⟩, -, X45, ⟨Lc45, hQ45, l45, y45, z45⟩, st45⟩ := X0.virtualBack hx (y := (⟨"com/example/delaunet/delaunet/core/sim/Pace", "complete", "()Z"⟩ : MethodName)) (z := (⟨"com/example/delaunet/delaunet/core/sim/Pace", "complete", "()Z"⟩ : MethodName)) hown (mvT hZ (hw _ (List.mem_of_getElem? (i := 33) rfl))) (mvT hZ (hw _ (List.mem_of_getElem? (i := 20) rfl))) (notFace_of_selects (args := #[]) (mvT hZ (hw _ (List.mem_of_getElem? (i := 22) rfl)))) (mvT hZ (hw _ (List.mem_of_getElem? (i := 22) rfl))) (mvT hZ (hw _ (List.mem_of_getElem? (i := 21) rfl))) (by decide) (backOf (W := 0) (own_rmC l Z a0 hw [] a 3 sp true h0 n0 Z0 Fs_a Fd_a Fp_a hd) hZ (hw _ (List.mem_of_getElem? (i := 23) rfl)) (hw _ (List.mem_of_getElem? (i := 4) rfl)) (by decide) (by decide)) q45a q45c (g := (mkF m 1 #[.val (.ref a), .val (.long now), .second, .unset] [(.ref a)])) rfl (by rw [hml]; rfl) (Steps.refl _) (argsL := []) (rest := []) (lenOf own_pd60 rfl) rfl (by show 2 * 0 + _ ≤ _; exact Nat.le_of_eq rfl) (hb hby own_d_prog_57_3_1) (fun _ _ => ⟨rfl, e0, (by decide : 0 + 0 ≤ _), (by decide : 0 + 0 ≤ _)⟩)
  dsimp only [Pt.U, Pt.locs, Pt.cells, Pt.slots] at X45 l45 y45 z45 st45 hQ45
  subst l45 y45 z45
  obtain ⟨rfl, N45q, EQ1⟩ := hQ45
  have N45 := Fr.app N0 N45q
  refine Goes.tr st45 ?_
  show Goes p e below s _ _ _ (T45.setTop (mkF m 4 #[.val (.ref a), .val (.long now), .second, .unset] [(.int (own_bI true))]))
  refine Goes.st (fun t_ k_ => XS.istoreN X45.here hx rfl (hb hby own_d_prog_57_3_4) rfl  (l' := #[.val (.ref a), .val (.long now), .second, .val (.int (own_bI true))]) rfl k_) ?_
  show Goes p e below s _ _ _ (T45.setTop (mkF m 5 #[.val (.ref a), .val (.long now), .second, .val (.int (own_bI true))] []))
  refine Goes.st (fun t_ k_ => XS.aloadN X45.here hx rfl (hb hby own_d_prog_57_3_5) rfl rfl k_) ?_
  show Goes p e below s _ _ _ (T45.setTop (mkF m 6 #[.val (.ref a), .val (.long now), .second, .val (.int (own_bI true))] [(.ref a)]))
  refine Goes.st (fun t_ k_ => XS.lloadN X45.here hx rfl (hb hby own_d_prog_57_3_6) rfl  k_) ?_
  show Goes p e below s _ _ _ (T45.setTop (mkF m 7 #[.val (.ref a), .val (.long now), .second, .val (.int (own_bI true))] [(.long now), (.ref a)]))
  obtain ⟨cq46, kq46, q46a, q46b, q46c⟩ := isOf hZ EQ1 E_a
  obtain ⟨_, _, ⟨T46, L46, k46, n46⟩, -, X46, ⟨Lc46, hQ46, l46, y46, z46⟩, st46⟩ := X45.virtualBack hx (y := (⟨"com/example/delaunet/delaunet/core/sim/Pace", "end", "(J)V"⟩ : MethodName)) (z := (⟨"com/example/delaunet/delaunet/core/sim/Pace", "end", "(J)V"⟩ : MethodName)) hown (mvT hZ (hw _ (List.mem_of_getElem? (i := 34) rfl))) (mvT hZ (hw _ (List.mem_of_getElem? (i := 35) rfl))) (notFace_of_selects (args := #[]) (mvT hZ (hw _ (List.mem_of_getElem? (i := 37) rfl)))) (mvT hZ (hw _ (List.mem_of_getElem? (i := 37) rfl))) (mvT hZ (hw _ (List.mem_of_getElem? (i := 36) rfl))) (by decide) (backOf (W := 0) (own_rmE l Z a0 hw [] a now ah 3 sp si sp' h0 n0 Z0 HP hs g_a) hZ (hw _ (List.mem_of_getElem? (i := 38) rfl)) (hw _ (List.mem_of_getElem? (i := 4) rfl)) (by decide) (by decide)) q46a q46c (g := (mkF m 7 #[.val (.ref a), .val (.long now), .second, .val (.int (own_bI true))] [(.long now), (.ref a)])) rfl (by rw [hml]; rfl) (Steps.refl _) (argsL := [(.long now)]) (rest := []) (lenOf own_pd65 rfl) rfl (by show 2 * 0 + _ ≤ _; exact Nat.le_of_eq rfl) (hb hby own_d_prog_57_3_7) (fun _ _ => ⟨rfl, EQ1, (by decide : 0 + 0 ≤ _), (by decide : 0 + 0 ≤ _)⟩)
  dsimp only [Pt.U, Pt.locs, Pt.cells, Pt.slots] at X46 l46 y46 z46 st46 hQ46
  subst l46 y46 z46
  obtain ⟨rfl, N46q, K1, HP1⟩ := hQ46
  have N46 := Fr.app N45 N46q
  refine Goes.tr st46 ?_
  have V_ah := V_ah.keep K1 (ninS (Ne.symm nah) nin0)
  have Z0' := Nat.le_trans Z0 K1.1
  have K0 : Keep h0 _ _ := K0.trans K1 (allS (Or.inl (List.mem_of_getElem? (i := 0) rfl)) all0)
  have HP2 := HP1
  obtain ⟨E_a, Fs_a, Fa_a, Fd_a, Fp_a, Fi_a, Fh_a, Ft_a, Fr_a⟩ := HP2
  show Goes p e below s _ _ _ (T46.setTop (mkF m 10 #[.val (.ref a), .val (.long now), .second, .val (.int (own_bI true))] []))
  refine Goes.st (fun t_ k_ => XS.iloadN X46.here hx rfl (hb hby own_d_prog_57_3_10) rfl  k_) ?_
  show Goes p e below s _ _ _ (T46.setTop (mkF m 11 #[.val (.ref a), .val (.long now), .second, .val (.int (own_bI true))] [(.int (own_bI true))]))
  refine Goes.st (fun t_ k_ => XS.ifNo X46.here hx rfl (hb hby own_d_prog_57_3_11) rfl ((if0 _ _).trans (feq (by decide)).1) k_) ?_
  show Goes p e below s _ _ _ (T46.setTop (mkF m 14 #[.val (.ref a), .val (.long now), .second, .val (.int (own_bI true))] []))
  refine Goes.st (fun t_ k_ => XS.aloadN X46.here hx rfl (hb hby own_d_prog_57_3_14) rfl rfl k_) ?_
  show Goes p e below s _ _ _ (T46.setTop (mkF m 15 #[.val (.ref a), .val (.long now), .second, .val (.int (own_bI true))] [(.ref a)]))
  obtain ⟨T47, X47, e47, st47⟩ := getF X46 hx hZ hown (host := "") (Or.inl (hw _ (List.mem_of_getElem? (i := 24) rfl))) Via.refl rfl Fs_a (g := (mkF m 15 #[.val (.ref a), .val (.long now), .second, .val (.int (own_bI true))] [(.ref a)])) rfl rfl (hb hby own_d_prog_57_3_15)
  refine Goes.st st47 ?_
  show Goes p e below s _ _ _ (T47.setTop (mkF m 18 #[.val (.ref a), .val (.long now), .second, .val (.int (own_bI true))] [(.int (0 : Int32))]))
  refine Goes.st (fun t_ k_ => XS.ifYes X47.here hx rfl (pc0 := 18) (pc' := 44) rfl (hb hby own_d_prog_57_3_18) rfl ((if0 _ _).trans (teq (rfl : (0 : Int32) = 0)).1) (by decide) (by decide) k_) ?_
  show Goes p e below s _ _ _ (T47.setTop (mkF m 44 #[.val (.ref a), .val (.long now), .second, .val (.int (own_bI true))] []))
  refine Goes.st (fun t_ k_ => XS.iloadN X47.here hx rfl (hb hby own_d_prog_57_3_44) rfl  k_) ?_
  show Goes p e below s _ _ _ (T47.setTop (mkF m 45 #[.val (.ref a), .val (.long now), .second, .val (.int (own_bI true))] [(.int (own_bI true))]))
  refine Goes.st (fun t_ k_ => XS.ifNo X47.here hx rfl (hb hby own_d_prog_57_3_45) rfl ((if0 _ _).trans (feq (by decide)).1) k_) ?_
  show Goes p e below s _ _ _ (T47.setTop (mkF m 48 #[.val (.ref a), .val (.long now), .second, .val (.int (own_bI true))] []))
  refine Goes.st (fun t_ k_ => XS.aloadN X47.here hx rfl (hb hby own_d_prog_57_3_48) rfl rfl k_) ?_
  show Goes p e below s _ _ _ (T47.setTop (mkF m 49 #[.val (.ref a), .val (.long now), .second, .val (.int (own_bI true))] [(.ref a)]))
  obtain ⟨cq48, q48, q48'⟩ := E_a.cell
  obtain ⟨_, _, ⟨T48, L48, k48, n48⟩, -, X48, ⟨Lc48, hQ48, l48, y48, z48⟩, st48⟩ := X47.privateBack hx (y := (⟨"com/example/delaunet/delaunet/core/sim/Pace", "endTrial", "()V"⟩ : MethodName)) hown (mvT hZ (hw _ (List.mem_of_getElem? (i := 44) rfl))) (mvT hZ (hw _ (List.mem_of_getElem? (i := 45) rfl))) (own_selp hZ (hw _ (List.mem_of_getElem? (i := 3) rfl)) (hw _ (List.mem_of_getElem? (i := 45) rfl)) (hw _ (List.mem_of_getElem? (i := 46) rfl)) (by decide)) (Cond.privateMethod_at (mvP hZ (hw _ (List.mem_of_getElem? (i := 46) rfl)) (args := #[]))) (mvT hZ (hw _ (List.mem_of_getElem? (i := 47) rfl))) (by decide) (backOf (W := 0) (own_rmT l Z a0 hw [] a ah sp' (-1) k T46.heap n0 Z0' HP1 V_ah nah g_a g_ah) hZ (hw _ (List.mem_of_getElem? (i := 47) rfl)) (hw _ (List.mem_of_getElem? (i := 4) rfl)) (by decide) (by decide)) (g := (mkF m 49 #[.val (.ref a), .val (.long now), .second, .val (.int (own_bI true))] [(.ref a)])) rfl (by rw [hml]; rfl) (Steps.refl _) (a := a) (by rw [e47]; exact q48) q48' (argsL := []) (rest := []) (lenOf own_pd143 rfl) rfl (by show 2 * 0 + _ ≤ _; exact Nat.le_of_eq rfl) (hb hby own_d_prog_57_3_49) (fun _ _ => ⟨rfl, e47, (by decide : 0 + 0 ≤ _), (by decide : 0 + 0 ≤ _)⟩)
  dsimp only [Pt.U, Pt.locs, Pt.cells, Pt.slots] at X48 l48 y48 z48 st48 hQ48
  subst l48 y48 z48
  obtain ⟨rfl, N48q, KT, E_a, Fs_a, Fa_a, Fd_a, Fp_a, u5, Fi_a⟩ := hQ48
  have N48 := Fr.app N46 N48q
  refine Goes.tr st48 ?_
  have Z0'' := Nat.le_trans Z0' KT.1
  have K0 : Keep h0 _ _ := K0.trans KT (allS (Or.inl (List.mem_of_getElem? (i := 0) rfl)) (allS (Or.inl (List.mem_of_getElem? (i := 1) rfl)) all0))
  show Goes p e below s _ _ _ (T48.setTop (mkF m 52 #[.val (.ref a), .val (.long now), .second, .val (.int (own_bI true))] []))
  refine Goes.st (fun t_ k_ => XS.aloadN X48.here hx rfl (hb hby own_d_prog_57_3_52) rfl rfl k_) ?_
  show Goes p e below s _ _ _ (T48.setTop (mkF m 53 #[.val (.ref a), .val (.long now), .second, .val (.int (own_bI true))] [(.ref a)]))
  refine Goes.st (fun t_ k_ => XS.dup X48.here hx rfl (hb hby own_d_prog_57_3_53) rfl rfl k_) ?_
  show Goes p e below s _ _ _ (T48.setTop (mkF m 54 #[.val (.ref a), .val (.long now), .second, .val (.int (own_bI true))] [(.ref a), (.ref a)]))
  obtain ⟨T49, X49, e49, st49⟩ := getF X48 hx hZ hown (host := "") (Or.inl (hw _ (List.mem_of_getElem? (i := 26) rfl))) Via.refl rfl Fd_a (g := (mkF m 54 #[.val (.ref a), .val (.long now), .second, .val (.int (own_bI true))] [(.ref a), (.ref a)])) rfl rfl (hb hby own_d_prog_57_3_54)
  refine Goes.st st49 ?_
  show Goes p e below s _ _ _ (T49.setTop (mkF m 57 #[.val (.ref a), .val (.long now), .second, .val (.int (own_bI true))] [(.int (0 : Int32)), (.ref a)]))
  refine Goes.st (fun t_ k_ => XS.iconst X49.here hx rfl (hb hby own_d_prog_57_3_57) k_) ?_
  show Goes p e below s _ _ _ (T49.setTop (mkF m 58 #[.val (.ref a), .val (.long now), .second, .val (.int (own_bI true))] [(.int (1 : Int32)), (.int (0 : Int32)), (.ref a)]))
  refine Goes.st (fun t_ k_ => XS.iadd X49.here hx rfl (hb hby own_d_prog_57_3_58) rfl k_) ?_
  show Goes p e below s _ _ _ (T49.setTop (mkF m 59 #[.val (.ref a), .val (.long now), .second, .val (.int (own_bI true))] [(.int ((0 : Int32) + (1 : Int32))), (.ref a)]))
  obtain ⟨T50, h50, X50, e50, W50, st50⟩ := putF X49 hx hZ hown (host := "") (Or.inl (hw _ (List.mem_of_getElem? (i := 26) rfl))) Via.refl e49 Fd_a E_a (Or.inl (hw _ (List.mem_of_getElem? (i := 27) rfl))) (hw _ (List.mem_of_getElem? (i := 3) rfl)) (ty := .int) (by decide) rfl rfl (g := (mkF m 59 #[.val (.ref a), .val (.long now), .second, .val (.int (own_bI true))] [(.int ((0 : Int32) + (1 : Int32))), (.ref a)])) rfl rfl (hb hby own_d_prog_57_3_59)
  refine Goes.st st50 ?_
  have E_a := E_a.wr W50
  have Fs_a := Fs_a.other W50 (Or.inr (slot_ne (Or.inl (hw _ (List.mem_of_getElem? (i := 25) rfl))) (Or.inl (hw _ (List.mem_of_getElem? (i := 27) rfl))) (by decide) (t := .boolean) (t' := .int) (by decide) (by decide)))
  have Fa_a := Fa_a.other W50 (Or.inr (slot_ne (Or.inl (hw _ (List.mem_of_getElem? (i := 40) rfl))) (Or.inl (hw _ (List.mem_of_getElem? (i := 27) rfl))) (by decide) (t := .boolean) (t' := .int) (by decide) (by decide)))
  have Fd_a := Fd_a.same W50
  have Fp_a := Fp_a.other W50 (Or.inr (slot_ne (Or.inl (hw _ (List.mem_of_getElem? (i := 42) rfl))) (Or.inl (hw _ (List.mem_of_getElem? (i := 27) rfl))) (by decide) (t := .long) (t' := .int) (by decide) (by decide)))
  have Fi_a := Fi_a.other W50 (Or.inr (slot_ne (Or.inl (hw _ (List.mem_of_getElem? (i := 18) rfl))) (Or.inl (hw _ (List.mem_of_getElem? (i := 27) rfl))) (by decide) (t := .long) (t' := .int) (by decide) (by decide)))
  have N50 := Fr.snoc X50 N48 g_a
  have Z0''' := Nat.le_trans Z0'' (Keep.of_wr W50).1
  have K0 := K0.wr W50 (Or.inl (List.mem_of_getElem? (i := 0) rfl))
  show Goes p e below s _ _ _ (T50.setTop (mkF m 62 #[.val (.ref a), .val (.long now), .second, .val (.int (own_bI true))] []))
  have lit51 : ((0 : Int32) + (1 : Int32)) = (1 : Int32) := by decide
  rw [lit51] at Fd_a
  show Goes p e below s _ _ _ (T50.setTop (mkF m 62 #[.val (.ref a), .val (.long now), .second, .val (.int (own_bI true))] []))
  show Goes p e below s _ _ _ (T50.setTop (mkF m 62 #[.val (.ref a), .val (.long now), .second, .val (.int (own_bI true))] []))
  refine Goes.st (fun t_ k_ => XS.aloadN X50.here hx rfl (hb hby own_d_prog_57_3_62) rfl rfl k_) ?_
  show Goes p e below s _ _ _ (T50.setTop (mkF m 63 #[.val (.ref a), .val (.long now), .second, .val (.int (own_bI true))] [(.ref a)]))
  refine Goes.st (fun t_ k_ => XS.lloadN X50.here hx rfl (hb hby own_d_prog_57_3_63) rfl  k_) ?_
  show Goes p e below s _ _ _ (T50.setTop (mkF m 64 #[.val (.ref a), .val (.long now), .second, .val (.int (own_bI true))] [(.long now), (.ref a)]))
  obtain ⟨T52, h52, X52, e52, W52, st52⟩ := putF X50 hx hZ hown (host := "") (Or.inl (hw _ (List.mem_of_getElem? (i := 17) rfl))) Via.refl e50 Fi_a E_a (Or.inl (hw _ (List.mem_of_getElem? (i := 18) rfl))) (hw _ (List.mem_of_getElem? (i := 3) rfl)) (ty := .long) (by decide) rfl rfl (g := (mkF m 64 #[.val (.ref a), .val (.long now), .second, .val (.int (own_bI true))] [(.long now), (.ref a)])) rfl rfl (hb hby own_d_prog_57_3_64)
  refine Goes.st st52 ?_
  have E_a := E_a.wr W52
  have Fs_a := Fs_a.other W52 (Or.inr (slot_ne (Or.inl (hw _ (List.mem_of_getElem? (i := 25) rfl))) (Or.inl (hw _ (List.mem_of_getElem? (i := 18) rfl))) (by decide) (t := .boolean) (t' := .long) (by decide) (by decide)))
  have Fa_a := Fa_a.other W52 (Or.inr (slot_ne (Or.inl (hw _ (List.mem_of_getElem? (i := 40) rfl))) (Or.inl (hw _ (List.mem_of_getElem? (i := 18) rfl))) (by decide) (t := .boolean) (t' := .long) (by decide) (by decide)))
  have Fd_a := Fd_a.other W52 (Or.inr (slot_ne (Or.inl (hw _ (List.mem_of_getElem? (i := 27) rfl))) (Or.inl (hw _ (List.mem_of_getElem? (i := 18) rfl))) (by decide) (t := .int) (t' := .long) (by decide) (by decide)))
  have Fp_a := Fp_a.other W52 (Or.inr (slot_ne (Or.inl (hw _ (List.mem_of_getElem? (i := 42) rfl))) (Or.inl (hw _ (List.mem_of_getElem? (i := 18) rfl))) (by decide) (t := .long) (t' := .long) (by decide) (by decide)))
  have Fi_a := Fi_a.same W52
  have N52 := Fr.snoc X52 N50 g_a
  have Z0'''' := Nat.le_trans Z0''' (Keep.of_wr W52).1
  have K0 := K0.wr W52 (Or.inl (List.mem_of_getElem? (i := 0) rfl))
  show Goes p e below s _ _ _ (T52.setTop (mkF m 67 #[.val (.ref a), .val (.long now), .second, .val (.int (own_bI true))] []))
  refine Goes.st (fun t_ k_ => XS.aloadN X52.here hx rfl (hb hby own_d_prog_57_3_67) rfl rfl k_) ?_
  show Goes p e below s _ _ _ (T52.setTop (mkF m 68 #[.val (.ref a), .val (.long now), .second, .val (.int (own_bI true))] [(.ref a)]))
  obtain ⟨T53, X53, e53, st53⟩ := getF X52 hx hZ hown (host := "") (Or.inl (hw _ (List.mem_of_getElem? (i := 39) rfl))) Via.refl e52 Fa_a (g := (mkF m 68 #[.val (.ref a), .val (.long now), .second, .val (.int (own_bI true))] [(.ref a)])) rfl rfl (hb hby own_d_prog_57_3_68)
  refine Goes.st st53 ?_
  show Goes p e below s _ _ _ (T53.setTop (mkF m 71 #[.val (.ref a), .val (.long now), .second, .val (.int (own_bI true))] [(.int (1 : Int32))]))
  rw [← e53] at K0 E_a Fs_a Fd_a Fp_a
  exact Goes.retN X53 hx (t := .boolean) hret hlk (by simp) (hb hby own_d_prog_57_3_71) (by decide) (by decide) (⟨rfl, N52, K0, E_a, Fs_a, Fd_a, Fp_a⟩)
theorem own_rm0_ef (m : MethodId) (qa : Int64) (qb : Int64) (qc : Int64) (qd : Int64) (md : Int32) : entryFrame m #[(.long qa), (.long qb), (.long qc), (.long qd), (.int md)] maxLocals = mkF m 0 #[.val (.long qa), .second, .val (.long qb), .second, .val (.long qc), .second, .val (.long qd), .second, .val (.int md), .unset, .unset, .unset, .unset, .unset, .unset, .unset, .unset, .unset, .unset, .unset, .unset, .unset, .unset, .unset, .unset, .unset, .unset, .unset, .unset, .unset, .unset, .unset] [] := by first | (simp [entryFrame, mkF, argsToLocals, Value.category, maxLocals]; done) | rfl
set_option maxRecDepth 65536 in
set_option maxHeartbeats 40000000 in
theorem own_rm0 (l : Launch) (Z : State) (a0 : Array Value) (hw : ∀ d ∈ tables_1, d.before a0 Z = true) (ws : List Jvm.Cond) (qa qb qc qd : Int64) (md : Int32) (h0 : Heap) (n0 : Nat) (Z0 : n0 ≤ h0.size)  :
    MetFree l x (head1 (Jvm.Cond.code x code maxLocals ret :: ws) room_1) (fun aa_ U => aa_ = #[(.long qa), (.long qb), (.long qc), (.long qd), (.int md)] ∧ Z.Warmed39 U.vm ∧ U.heap = h0) (fun _ _ _ _ _ => True) (fun _ U oo_ U' => ∃ vv_ LL_, oo_ = .returned vv_ ∧ own_Q0 Z  h0 n0 vv_ U'.heap LL_ ∧ FrameEnd U oo_ U' LL_ 3 21) := by
  refine MetFree.of_bodySF (plainFor_of_name own_pn146) hisR ?_
  intro p e s m args below meth c s₁ Bd hml0 hP hK
  obtain ⟨rfl, hZ, hh⟩ := hP
  have hx := Bd.exec
  have hby := Bd.bytes
  have hml : c.maxLocals = 32 := hml0
  have hown : s.vm.findClass "com/example/delaunet/delaunet/core/sim/PaceCompletePinLaw" = some m.cls := findClass_of_methodNamed Bd.named
  have hnm := (name_of_methodNamed Bd.named Bd.method).1
  have hlk := Bd.notSynchronized
  have hret := Bd.returns
  have X0 : Stand p l e room_1 s m #[(.long qa), (.long qb), (.long qc), (.long qd), (.int md)] below meth c s₁ [] 0 0 := Stand.of_body Bd
  have e0 : s₁.heap = h0 := by rw [← hh, Bd.state]; rfl
  have N0 := Fr.nil n0
  show Goes p e below s (own_Q0 Z  h0 n0) (3) (21) _
  refine Goes.cast (own_rm0_ef m qa qb qc qd md) ?_
  show Goes p e below s _ _ _ (s₁.setTop (mkF m 0 #[.val (.long qa), .second, .val (.long qb), .second, .val (.long qc), .second, .val (.long qd), .second, .val (.int md), .unset, .unset, .unset, .unset, .unset, .unset, .unset, .unset, .unset, .unset, .unset, .unset, .unset, .unset, .unset, .unset, .unset, .unset, .unset, .unset, .unset, .unset, .unset] []))
  refine Goes.st (fun t_ k_ => XS.lloadN X0.here hx rfl (hb hby at_0) rfl  k_) ?_
  show Goes p e below s _ _ _ (s₁.setTop (mkF m 1 #[.val (.long qa), .second, .val (.long qb), .second, .val (.long qc), .second, .val (.long qd), .second, .val (.int md), .unset, .unset, .unset, .unset, .unset, .unset, .unset, .unset, .unset, .unset, .unset, .unset, .unset, .unset, .unset, .unset, .unset, .unset, .unset, .unset, .unset, .unset, .unset] [(.long qa)]))
  refine Goes.st (fun t_ k_ => X0.ldc2Long hx hown (mvT hZ (hw _ (List.mem_of_getElem? (i := 0) rfl))) (g := (mkF m 1 #[.val (.long qa), .second, .val (.long qb), .second, .val (.long qc), .second, .val (.long qd), .second, .val (.int md), .unset, .unset, .unset, .unset, .unset, .unset, .unset, .unset, .unset, .unset, .unset, .unset, .unset, .unset, .unset, .unset, .unset, .unset, .unset, .unset, .unset, .unset, .unset] [(.long qa)])) rfl (hb hby at_1) _ k_) ?_
  show Goes p e below s _ _ _ (s₁.setTop (mkF m 4 #[.val (.long qa), .second, .val (.long qb), .second, .val (.long qc), .second, .val (.long qd), .second, .val (.int md), .unset, .unset, .unset, .unset, .unset, .unset, .unset, .unset, .unset, .unset, .unset, .unset, .unset, .unset, .unset, .unset, .unset, .unset, .unset, .unset, .unset, .unset, .unset] [(.long (9223372036854775807 : Int64)), (.long qa)]))
  refine Goes.st (fun t_ k_ => XS.land X0.here hx rfl (hb hby at_4) rfl k_) ?_
  show Goes p e below s _ _ _ (s₁.setTop (mkF m 5 #[.val (.long qa), .second, .val (.long qb), .second, .val (.long qc), .second, .val (.long qd), .second, .val (.int md), .unset, .unset, .unset, .unset, .unset, .unset, .unset, .unset, .unset, .unset, .unset, .unset, .unset, .unset, .unset, .unset, .unset, .unset, .unset, .unset, .unset, .unset, .unset] [(.long (qa &&& (9223372036854775807 : Int64)))]))
  refine Goes.st (fun t_ k_ => XS.lstore X0.here hx rfl (hb hby at_5) rfl  (l' := #[.val (.long qa), .second, .val (.long qb), .second, .val (.long qc), .second, .val (.long qd), .second, .val (.int md), .val (.long (qa &&& (9223372036854775807 : Int64))), .second, .unset, .unset, .unset, .unset, .unset, .unset, .unset, .unset, .unset, .unset, .unset, .unset, .unset, .unset, .unset, .unset, .unset, .unset, .unset, .unset, .unset]) rfl k_) ?_
  show Goes p e below s _ _ _ (s₁.setTop (mkF m 7 #[.val (.long qa), .second, .val (.long qb), .second, .val (.long qc), .second, .val (.long qd), .second, .val (.int md), .val (.long (qa &&& (9223372036854775807 : Int64))), .second, .unset, .unset, .unset, .unset, .unset, .unset, .unset, .unset, .unset, .unset, .unset, .unset, .unset, .unset, .unset, .unset, .unset, .unset, .unset, .unset, .unset] []))
  refine Goes.st (fun t_ k_ => XS.lloadN X0.here hx rfl (hb hby at_7) rfl  k_) ?_
  show Goes p e below s _ _ _ (s₁.setTop (mkF m 8 #[.val (.long qa), .second, .val (.long qb), .second, .val (.long qc), .second, .val (.long qd), .second, .val (.int md), .val (.long (qa &&& (9223372036854775807 : Int64))), .second, .unset, .unset, .unset, .unset, .unset, .unset, .unset, .unset, .unset, .unset, .unset, .unset, .unset, .unset, .unset, .unset, .unset, .unset, .unset, .unset, .unset] [(.long qb)]))
  refine Goes.st (fun t_ k_ => X0.ldc2Long hx hown (mvT hZ (hw _ (List.mem_of_getElem? (i := 0) rfl))) (g := (mkF m 8 #[.val (.long qa), .second, .val (.long qb), .second, .val (.long qc), .second, .val (.long qd), .second, .val (.int md), .val (.long (qa &&& (9223372036854775807 : Int64))), .second, .unset, .unset, .unset, .unset, .unset, .unset, .unset, .unset, .unset, .unset, .unset, .unset, .unset, .unset, .unset, .unset, .unset, .unset, .unset, .unset, .unset] [(.long qb)])) rfl (hb hby at_8) _ k_) ?_
  show Goes p e below s _ _ _ (s₁.setTop (mkF m 11 #[.val (.long qa), .second, .val (.long qb), .second, .val (.long qc), .second, .val (.long qd), .second, .val (.int md), .val (.long (qa &&& (9223372036854775807 : Int64))), .second, .unset, .unset, .unset, .unset, .unset, .unset, .unset, .unset, .unset, .unset, .unset, .unset, .unset, .unset, .unset, .unset, .unset, .unset, .unset, .unset, .unset] [(.long (9223372036854775807 : Int64)), (.long qb)]))
  refine Goes.st (fun t_ k_ => XS.land X0.here hx rfl (hb hby at_11) rfl k_) ?_
  show Goes p e below s _ _ _ (s₁.setTop (mkF m 12 #[.val (.long qa), .second, .val (.long qb), .second, .val (.long qc), .second, .val (.long qd), .second, .val (.int md), .val (.long (qa &&& (9223372036854775807 : Int64))), .second, .unset, .unset, .unset, .unset, .unset, .unset, .unset, .unset, .unset, .unset, .unset, .unset, .unset, .unset, .unset, .unset, .unset, .unset, .unset, .unset, .unset] [(.long (qb &&& (9223372036854775807 : Int64)))]))
  refine Goes.st (fun t_ k_ => XS.lstore X0.here hx rfl (hb hby at_12) rfl  (l' := #[.val (.long qa), .second, .val (.long qb), .second, .val (.long qc), .second, .val (.long qd), .second, .val (.int md), .val (.long (qa &&& (9223372036854775807 : Int64))), .second, .val (.long (qb &&& (9223372036854775807 : Int64))), .second, .unset, .unset, .unset, .unset, .unset, .unset, .unset, .unset, .unset, .unset, .unset, .unset, .unset, .unset, .unset, .unset, .unset, .unset, .unset]) rfl k_) ?_
  show Goes p e below s _ _ _ (s₁.setTop (mkF m 14 #[.val (.long qa), .second, .val (.long qb), .second, .val (.long qc), .second, .val (.long qd), .second, .val (.int md), .val (.long (qa &&& (9223372036854775807 : Int64))), .second, .val (.long (qb &&& (9223372036854775807 : Int64))), .second, .unset, .unset, .unset, .unset, .unset, .unset, .unset, .unset, .unset, .unset, .unset, .unset, .unset, .unset, .unset, .unset, .unset, .unset, .unset] []))
  refine Goes.st (fun t_ k_ => XS.lload X0.here hx rfl (hb hby at_14) rfl  k_) ?_
  show Goes p e below s _ _ _ (s₁.setTop (mkF m 16 #[.val (.long qa), .second, .val (.long qb), .second, .val (.long qc), .second, .val (.long qd), .second, .val (.int md), .val (.long (qa &&& (9223372036854775807 : Int64))), .second, .val (.long (qb &&& (9223372036854775807 : Int64))), .second, .unset, .unset, .unset, .unset, .unset, .unset, .unset, .unset, .unset, .unset, .unset, .unset, .unset, .unset, .unset, .unset, .unset, .unset, .unset] [(.long qc)]))
  refine Goes.st (fun t_ k_ => X0.ldc2Long hx hown (mvT hZ (hw _ (List.mem_of_getElem? (i := 0) rfl))) (g := (mkF m 16 #[.val (.long qa), .second, .val (.long qb), .second, .val (.long qc), .second, .val (.long qd), .second, .val (.int md), .val (.long (qa &&& (9223372036854775807 : Int64))), .second, .val (.long (qb &&& (9223372036854775807 : Int64))), .second, .unset, .unset, .unset, .unset, .unset, .unset, .unset, .unset, .unset, .unset, .unset, .unset, .unset, .unset, .unset, .unset, .unset, .unset, .unset] [(.long qc)])) rfl (hb hby at_16) _ k_) ?_
  show Goes p e below s _ _ _ (s₁.setTop (mkF m 19 #[.val (.long qa), .second, .val (.long qb), .second, .val (.long qc), .second, .val (.long qd), .second, .val (.int md), .val (.long (qa &&& (9223372036854775807 : Int64))), .second, .val (.long (qb &&& (9223372036854775807 : Int64))), .second, .unset, .unset, .unset, .unset, .unset, .unset, .unset, .unset, .unset, .unset, .unset, .unset, .unset, .unset, .unset, .unset, .unset, .unset, .unset] [(.long (9223372036854775807 : Int64)), (.long qc)]))
  refine Goes.st (fun t_ k_ => XS.land X0.here hx rfl (hb hby at_19) rfl k_) ?_
  show Goes p e below s _ _ _ (s₁.setTop (mkF m 20 #[.val (.long qa), .second, .val (.long qb), .second, .val (.long qc), .second, .val (.long qd), .second, .val (.int md), .val (.long (qa &&& (9223372036854775807 : Int64))), .second, .val (.long (qb &&& (9223372036854775807 : Int64))), .second, .unset, .unset, .unset, .unset, .unset, .unset, .unset, .unset, .unset, .unset, .unset, .unset, .unset, .unset, .unset, .unset, .unset, .unset, .unset] [(.long (qc &&& (9223372036854775807 : Int64)))]))
  refine Goes.st (fun t_ k_ => XS.lstore X0.here hx rfl (hb hby at_20) rfl  (l' := #[.val (.long qa), .second, .val (.long qb), .second, .val (.long qc), .second, .val (.long qd), .second, .val (.int md), .val (.long (qa &&& (9223372036854775807 : Int64))), .second, .val (.long (qb &&& (9223372036854775807 : Int64))), .second, .val (.long (qc &&& (9223372036854775807 : Int64))), .second, .unset, .unset, .unset, .unset, .unset, .unset, .unset, .unset, .unset, .unset, .unset, .unset, .unset, .unset, .unset, .unset, .unset]) rfl k_) ?_
  show Goes p e below s _ _ _ (s₁.setTop (mkF m 22 #[.val (.long qa), .second, .val (.long qb), .second, .val (.long qc), .second, .val (.long qd), .second, .val (.int md), .val (.long (qa &&& (9223372036854775807 : Int64))), .second, .val (.long (qb &&& (9223372036854775807 : Int64))), .second, .val (.long (qc &&& (9223372036854775807 : Int64))), .second, .unset, .unset, .unset, .unset, .unset, .unset, .unset, .unset, .unset, .unset, .unset, .unset, .unset, .unset, .unset, .unset, .unset] []))
  refine Goes.st (fun t_ k_ => XS.lload X0.here hx rfl (hb hby at_22) rfl  k_) ?_
  show Goes p e below s _ _ _ (s₁.setTop (mkF m 24 #[.val (.long qa), .second, .val (.long qb), .second, .val (.long qc), .second, .val (.long qd), .second, .val (.int md), .val (.long (qa &&& (9223372036854775807 : Int64))), .second, .val (.long (qb &&& (9223372036854775807 : Int64))), .second, .val (.long (qc &&& (9223372036854775807 : Int64))), .second, .unset, .unset, .unset, .unset, .unset, .unset, .unset, .unset, .unset, .unset, .unset, .unset, .unset, .unset, .unset, .unset, .unset] [(.long qd)]))
  refine Goes.st (fun t_ k_ => X0.ldc2Long hx hown (mvT hZ (hw _ (List.mem_of_getElem? (i := 0) rfl))) (g := (mkF m 24 #[.val (.long qa), .second, .val (.long qb), .second, .val (.long qc), .second, .val (.long qd), .second, .val (.int md), .val (.long (qa &&& (9223372036854775807 : Int64))), .second, .val (.long (qb &&& (9223372036854775807 : Int64))), .second, .val (.long (qc &&& (9223372036854775807 : Int64))), .second, .unset, .unset, .unset, .unset, .unset, .unset, .unset, .unset, .unset, .unset, .unset, .unset, .unset, .unset, .unset, .unset, .unset] [(.long qd)])) rfl (hb hby at_24) _ k_) ?_
  show Goes p e below s _ _ _ (s₁.setTop (mkF m 27 #[.val (.long qa), .second, .val (.long qb), .second, .val (.long qc), .second, .val (.long qd), .second, .val (.int md), .val (.long (qa &&& (9223372036854775807 : Int64))), .second, .val (.long (qb &&& (9223372036854775807 : Int64))), .second, .val (.long (qc &&& (9223372036854775807 : Int64))), .second, .unset, .unset, .unset, .unset, .unset, .unset, .unset, .unset, .unset, .unset, .unset, .unset, .unset, .unset, .unset, .unset, .unset] [(.long (9223372036854775807 : Int64)), (.long qd)]))
  refine Goes.st (fun t_ k_ => XS.land X0.here hx rfl (hb hby at_27) rfl k_) ?_
  show Goes p e below s _ _ _ (s₁.setTop (mkF m 28 #[.val (.long qa), .second, .val (.long qb), .second, .val (.long qc), .second, .val (.long qd), .second, .val (.int md), .val (.long (qa &&& (9223372036854775807 : Int64))), .second, .val (.long (qb &&& (9223372036854775807 : Int64))), .second, .val (.long (qc &&& (9223372036854775807 : Int64))), .second, .unset, .unset, .unset, .unset, .unset, .unset, .unset, .unset, .unset, .unset, .unset, .unset, .unset, .unset, .unset, .unset, .unset] [(.long (qd &&& (9223372036854775807 : Int64)))]))
  refine Goes.st (fun t_ k_ => XS.lstore X0.here hx rfl (hb hby at_28) rfl  (l' := #[.val (.long qa), .second, .val (.long qb), .second, .val (.long qc), .second, .val (.long qd), .second, .val (.int md), .val (.long (qa &&& (9223372036854775807 : Int64))), .second, .val (.long (qb &&& (9223372036854775807 : Int64))), .second, .val (.long (qc &&& (9223372036854775807 : Int64))), .second, .val (.long (qd &&& (9223372036854775807 : Int64))), .second, .unset, .unset, .unset, .unset, .unset, .unset, .unset, .unset, .unset, .unset, .unset, .unset, .unset, .unset, .unset]) rfl k_) ?_
  show Goes p e below s _ _ _ (s₁.setTop (mkF m 30 #[.val (.long qa), .second, .val (.long qb), .second, .val (.long qc), .second, .val (.long qd), .second, .val (.int md), .val (.long (qa &&& (9223372036854775807 : Int64))), .second, .val (.long (qb &&& (9223372036854775807 : Int64))), .second, .val (.long (qc &&& (9223372036854775807 : Int64))), .second, .val (.long (qd &&& (9223372036854775807 : Int64))), .second, .unset, .unset, .unset, .unset, .unset, .unset, .unset, .unset, .unset, .unset, .unset, .unset, .unset, .unset, .unset] []))
  refine Goes.st (fun t_ k_ => X0.ldc2Long hx hown (mvT hZ (hw _ (List.mem_of_getElem? (i := 1) rfl))) (g := (mkF m 30 #[.val (.long qa), .second, .val (.long qb), .second, .val (.long qc), .second, .val (.long qd), .second, .val (.int md), .val (.long (qa &&& (9223372036854775807 : Int64))), .second, .val (.long (qb &&& (9223372036854775807 : Int64))), .second, .val (.long (qc &&& (9223372036854775807 : Int64))), .second, .val (.long (qd &&& (9223372036854775807 : Int64))), .second, .unset, .unset, .unset, .unset, .unset, .unset, .unset, .unset, .unset, .unset, .unset, .unset, .unset, .unset, .unset] [])) rfl (hb hby at_30) _ k_) ?_
  show Goes p e below s _ _ _ (s₁.setTop (mkF m 33 #[.val (.long qa), .second, .val (.long qb), .second, .val (.long qc), .second, .val (.long qd), .second, .val (.int md), .val (.long (qa &&& (9223372036854775807 : Int64))), .second, .val (.long (qb &&& (9223372036854775807 : Int64))), .second, .val (.long (qc &&& (9223372036854775807 : Int64))), .second, .val (.long (qd &&& (9223372036854775807 : Int64))), .second, .unset, .unset, .unset, .unset, .unset, .unset, .unset, .unset, .unset, .unset, .unset, .unset, .unset, .unset, .unset] [(.long (2000000 : Int64))]))
  refine Goes.st (fun t_ k_ => XS.lstore X0.here hx rfl (hb hby at_33) rfl  (l' := #[.val (.long qa), .second, .val (.long qb), .second, .val (.long qc), .second, .val (.long qd), .second, .val (.int md), .val (.long (qa &&& (9223372036854775807 : Int64))), .second, .val (.long (qb &&& (9223372036854775807 : Int64))), .second, .val (.long (qc &&& (9223372036854775807 : Int64))), .second, .val (.long (qd &&& (9223372036854775807 : Int64))), .second, .val (.long (2000000 : Int64)), .second, .unset, .unset, .unset, .unset, .unset, .unset, .unset, .unset, .unset, .unset, .unset, .unset, .unset]) rfl k_) ?_
  show Goes p e below s _ _ _ (s₁.setTop (mkF m 35 #[.val (.long qa), .second, .val (.long qb), .second, .val (.long qc), .second, .val (.long qd), .second, .val (.int md), .val (.long (qa &&& (9223372036854775807 : Int64))), .second, .val (.long (qb &&& (9223372036854775807 : Int64))), .second, .val (.long (qc &&& (9223372036854775807 : Int64))), .second, .val (.long (qd &&& (9223372036854775807 : Int64))), .second, .val (.long (2000000 : Int64)), .second, .unset, .unset, .unset, .unset, .unset, .unset, .unset, .unset, .unset, .unset, .unset, .unset, .unset] []))
  refine Goes.st (fun t_ k_ => XS.iload X0.here hx rfl (hb hby at_35) rfl  k_) ?_
  show Goes p e below s _ _ _ (s₁.setTop (mkF m 37 #[.val (.long qa), .second, .val (.long qb), .second, .val (.long qc), .second, .val (.long qd), .second, .val (.int md), .val (.long (qa &&& (9223372036854775807 : Int64))), .second, .val (.long (qb &&& (9223372036854775807 : Int64))), .second, .val (.long (qc &&& (9223372036854775807 : Int64))), .second, .val (.long (qd &&& (9223372036854775807 : Int64))), .second, .val (.long (2000000 : Int64)), .second, .unset, .unset, .unset, .unset, .unset, .unset, .unset, .unset, .unset, .unset, .unset, .unset, .unset] [(.int md)]))
  refine Goes.st (fun t_ k_ => XS.iconst X0.here hx rfl (hb hby at_37) k_) ?_
  show Goes p e below s _ _ _ (s₁.setTop (mkF m 38 #[.val (.long qa), .second, .val (.long qb), .second, .val (.long qc), .second, .val (.long qd), .second, .val (.int md), .val (.long (qa &&& (9223372036854775807 : Int64))), .second, .val (.long (qb &&& (9223372036854775807 : Int64))), .second, .val (.long (qc &&& (9223372036854775807 : Int64))), .second, .val (.long (qd &&& (9223372036854775807 : Int64))), .second, .val (.long (2000000 : Int64)), .second, .unset, .unset, .unset, .unset, .unset, .unset, .unset, .unset, .unset, .unset, .unset, .unset, .unset] [(.int (3 : Int32)), (.int md)]))
  refine Goes.st (fun t_ k_ => XS.iand X0.here hx rfl (hb hby at_38) rfl k_) ?_
  show Goes p e below s _ _ _ (s₁.setTop (mkF m 39 #[.val (.long qa), .second, .val (.long qb), .second, .val (.long qc), .second, .val (.long qd), .second, .val (.int md), .val (.long (qa &&& (9223372036854775807 : Int64))), .second, .val (.long (qb &&& (9223372036854775807 : Int64))), .second, .val (.long (qc &&& (9223372036854775807 : Int64))), .second, .val (.long (qd &&& (9223372036854775807 : Int64))), .second, .val (.long (2000000 : Int64)), .second, .unset, .unset, .unset, .unset, .unset, .unset, .unset, .unset, .unset, .unset, .unset, .unset, .unset] [(.int (md &&& (3 : Int32)))]))
  refine Goes.st (fun t_ k_ => XS.istore X0.here hx rfl (hb hby at_39) rfl  (l' := #[.val (.long qa), .second, .val (.long qb), .second, .val (.long qc), .second, .val (.long qd), .second, .val (.int md), .val (.long (qa &&& (9223372036854775807 : Int64))), .second, .val (.long (qb &&& (9223372036854775807 : Int64))), .second, .val (.long (qc &&& (9223372036854775807 : Int64))), .second, .val (.long (qd &&& (9223372036854775807 : Int64))), .second, .val (.long (2000000 : Int64)), .second, .val (.int (md &&& (3 : Int32))), .unset, .unset, .unset, .unset, .unset, .unset, .unset, .unset, .unset, .unset, .unset, .unset]) rfl k_) ?_
  show Goes p e below s _ _ _ (s₁.setTop (mkF m 41 #[.val (.long qa), .second, .val (.long qb), .second, .val (.long qc), .second, .val (.long qd), .second, .val (.int md), .val (.long (qa &&& (9223372036854775807 : Int64))), .second, .val (.long (qb &&& (9223372036854775807 : Int64))), .second, .val (.long (qc &&& (9223372036854775807 : Int64))), .second, .val (.long (qd &&& (9223372036854775807 : Int64))), .second, .val (.long (2000000 : Int64)), .second, .val (.int (md &&& (3 : Int32))), .unset, .unset, .unset, .unset, .unset, .unset, .unset, .unset, .unset, .unset, .unset, .unset] []))
  obtain ⟨t1, hd_t1⟩ : ∃ z : Int64, z = (qa &&& (9223372036854775807 : Int64)) := ⟨_, rfl⟩
  have hb_t1 : ¬ t1 < 0 := by rw [hd_t1]; exact own_m63 _
  rw [← hd_t1]
  obtain ⟨t2, hd_t2⟩ : ∃ z : Int64, z = (qb &&& (9223372036854775807 : Int64)) := ⟨_, rfl⟩
  have hb_t2 : ¬ t2 < 0 := by rw [hd_t2]; exact own_m63 _
  rw [← hd_t2]
  obtain ⟨t3, hd_t3⟩ : ∃ z : Int64, z = (qc &&& (9223372036854775807 : Int64)) := ⟨_, rfl⟩
  have hb_t3 : ¬ t3 < 0 := by rw [hd_t3]; exact own_m63 _
  rw [← hd_t3]
  obtain ⟨t4, hd_t4⟩ : ∃ z : Int64, z = (qd &&& (9223372036854775807 : Int64)) := ⟨_, rfl⟩
  have hb_t4 : ¬ t4 < 0 := by rw [hd_t4]; exact own_m63 _
  rw [← hd_t4]
  clear hd_t1 hd_t2 hd_t3 hd_t4
  show Goes p e below s _ _ _ (s₁.setTop (mkF m 41 #[.val (.long qa), .second, .val (.long qb), .second, .val (.long qc), .second, .val (.long qd), .second, .val (.int md), .val (.long t1), .second, .val (.long t2), .second, .val (.long t3), .second, .val (.long t4), .second, .val (.long (2000000 : Int64)), .second, .val (.int (md &&& (3 : Int32))), .unset, .unset, .unset, .unset, .unset, .unset, .unset, .unset, .unset, .unset, .unset, .unset] []))
  obtain ⟨vm, hd_vm⟩ : ∃ z : Int32, z = (md &&& (3 : Int32)) := ⟨_, rfl⟩
  rw [← hd_vm]
  show Goes p e below s _ _ _ (s₁.setTop (mkF m 41 #[.val (.long qa), .second, .val (.long qb), .second, .val (.long qc), .second, .val (.long qd), .second, .val (.int md), .val (.long t1), .second, .val (.long t2), .second, .val (.long t3), .second, .val (.long t4), .second, .val (.long (2000000 : Int64)), .second, .val (.int vm), .unset, .unset, .unset, .unset, .unset, .unset, .unset, .unset, .unset, .unset, .unset, .unset] []))
  clear hd_vm
  show Goes p e below s _ _ _ (s₁.setTop (mkF m 41 #[.val (.long qa), .second, .val (.long qb), .second, .val (.long qc), .second, .val (.long qd), .second, .val (.int md), .val (.long t1), .second, .val (.long t2), .second, .val (.long t3), .second, .val (.long t4), .second, .val (.long (2000000 : Int64)), .second, .val (.int vm), .unset, .unset, .unset, .unset, .unset, .unset, .unset, .unset, .unset, .unset, .unset, .unset] []))
  obtain ⟨T54, h54, X54, e54, E54, A54, D54, -, st54⟩ := newO X0 hx hZ hown (hw _ (List.mem_of_getElem? (i := 2) rfl)) (hw _ (List.mem_of_getElem? (i := 3) rfl)) (hw _ (List.mem_of_getElem? (i := 4) rfl)) e0 (g := (mkF m 41 #[.val (.long qa), .second, .val (.long qb), .second, .val (.long qc), .second, .val (.long qd), .second, .val (.int md), .val (.long t1), .second, .val (.long t2), .second, .val (.long t3), .second, .val (.long t4), .second, .val (.long (2000000 : Int64)), .second, .val (.int vm), .unset, .unset, .unset, .unset, .unset, .unset, .unset, .unset, .unset, .unset, .unset, .unset] [])) rfl (hb hby at_41) (by decide) (by decide)
  obtain ⟨b54, g54⟩ : ∃ z, z = h0.size := ⟨_, rfl⟩
  rw [← g54] at A54 D54 st54
  have gn_b54 : n0 ≤ b54 := Nat.le_trans Z0 (Nat.le_of_eq g54.symm)
  refine Goes.st st54 ?_
  have Z0' := Nat.le_trans Z0 E54.1
  have Ex_b54 := A54
  have F_here_b54 : Fld Z h54 b54 "com/example/delaunet/delaunet/core/sim/Pace" "here" "[D" .null := D54 (Or.inr (hw _ (List.mem_of_getElem? (i := 13) rfl))) (ty := (.array .double)) (by decide)
  have F_away_b54 : Fld Z h54 b54 "com/example/delaunet/delaunet/core/sim/Pace" "away" "[D" .null := D54 (Or.inr (hw _ (List.mem_of_getElem? (i := 15) rfl))) (ty := (.array .double)) (by decide)
  have F_since_b54 : Fld Z h54 b54 "com/example/delaunet/delaunet/core/sim/Pace" "since" "J" (.long (0 : Int64)) := D54 (Or.inl (hw _ (List.mem_of_getElem? (i := 18) rfl))) (ty := .long) (by decide)
  have F_staying_b54 : Fld Z h54 b54 "com/example/delaunet/delaunet/core/sim/Pace" "staying" "Z" (.int (0 : Int32)) := D54 (Or.inl (hw _ (List.mem_of_getElem? (i := 25) rfl))) (ty := .boolean) (by decide)
  have F_started_b54 : Fld Z h54 b54 "com/example/delaunet/delaunet/core/sim/Pace" "started" "I" (.int (0 : Int32)) := D54 (Or.inl (hw _ (List.mem_of_getElem? (i := 27) rfl))) (ty := .int) (by decide)
  have F_awayNow_b54 : Fld Z h54 b54 "com/example/delaunet/delaunet/core/sim/Pace" "awayNow" "Z" (.int (0 : Int32)) := D54 (Or.inl (hw _ (List.mem_of_getElem? (i := 40) rfl))) (ty := .boolean) (by decide)
  have F_spent_b54 : Fld Z h54 b54 "com/example/delaunet/delaunet/core/sim/Pace" "spent" "J" (.long (0 : Int64)) := D54 (Or.inl (hw _ (List.mem_of_getElem? (i := 42) rfl))) (ty := .long) (by decide)
  have F_trials_b54 : Fld Z h54 b54 "com/example/delaunet/delaunet/core/sim/Pace" "trials" "I" (.int (0 : Int32)) := D54 (Or.inl (hw _ (List.mem_of_getElem? (i := 49) rfl))) (ty := .int) (by decide)
  have F_tried_b54 : Fld Z h54 b54 "com/example/delaunet/delaunet/core/sim/Pace" "tried" "I" (.int (0 : Int32)) := D54 (Or.inl (hw _ (List.mem_of_getElem? (i := 51) rfl))) (ty := .int) (by decide)
  have F_stay_b54 : Fld Z h54 b54 "com/example/delaunet/delaunet/core/sim/Pace" "stay" "I" (.int (0 : Int32)) := D54 (Or.inl (hw _ (List.mem_of_getElem? (i := 58) rfl))) (ty := .int) (by decide)
  have F_stayedAway_b54 : Fld Z h54 b54 "com/example/delaunet/delaunet/core/sim/Pace" "stayedAway" "Z" (.int (0 : Int32)) := D54 (Or.inl (hw _ (List.mem_of_getElem? (i := 60) rfl))) (ty := .boolean) (by decide)
  show Goes p e below s _ _ _ (T54.setTop (mkF m 44 #[.val (.long qa), .second, .val (.long qb), .second, .val (.long qc), .second, .val (.long qd), .second, .val (.int md), .val (.long t1), .second, .val (.long t2), .second, .val (.long t3), .second, .val (.long t4), .second, .val (.long (2000000 : Int64)), .second, .val (.int vm), .unset, .unset, .unset, .unset, .unset, .unset, .unset, .unset, .unset, .unset, .unset, .unset] [(.ref b54)]))
  refine Goes.st (fun t_ k_ => XS.dup X54.here hx rfl (hb hby at_44) rfl rfl k_) ?_
  show Goes p e below s _ _ _ (T54.setTop (mkF m 45 #[.val (.long qa), .second, .val (.long qb), .second, .val (.long qc), .second, .val (.long qd), .second, .val (.int md), .val (.long t1), .second, .val (.long t2), .second, .val (.long t3), .second, .val (.long t4), .second, .val (.long (2000000 : Int64)), .second, .val (.int vm), .unset, .unset, .unset, .unset, .unset, .unset, .unset, .unset, .unset, .unset, .unset, .unset] [(.ref b54), (.ref b54)]))
  obtain ⟨_, _, ⟨T55, L55, k55, n55⟩, -, X55, ⟨Lc55, hQ55, l55, y55, z55⟩, st55⟩ := X54.specialBack hx (y := (⟨"com/example/delaunet/delaunet/core/sim/Pace", "<init>", "()V"⟩ : MethodName)) rfl hown (mvT hZ (hw _ (List.mem_of_getElem? (i := 5) rfl))) (mvT hZ (hw _ (List.mem_of_getElem? (i := 6) rfl))) (mvT hZ (hw _ (List.mem_of_getElem? (i := 7) rfl))) (by decide) (backOf (W := 1) (own_rmI l Z a0 hw [] b54 h54 n0 Z0' Ex_b54 F_here_b54 F_away_b54 F_staying_b54 F_awayNow_b54 F_started_b54 F_spent_b54 F_since_b54 F_trials_b54 F_tried_b54 gn_b54) hZ (hw _ (List.mem_of_getElem? (i := 7) rfl)) (hw _ (List.mem_of_getElem? (i := 4) rfl)) (by decide) (by decide)) (g := (mkF m 45 #[.val (.long qa), .second, .val (.long qb), .second, .val (.long qc), .second, .val (.long qd), .second, .val (.int md), .val (.long t1), .second, .val (.long t2), .second, .val (.long t3), .second, .val (.long t4), .second, .val (.long (2000000 : Int64)), .second, .val (.int vm), .unset, .unset, .unset, .unset, .unset, .unset, .unset, .unset, .unset, .unset, .unset, .unset] [(.ref b54), (.ref b54)])) rfl (by rw [hml]; rfl) (Steps.refl _) (a := b54) (argsL := []) (rest := [(.ref b54)]) (lenOf own_pd143 rfl) rfl (by show 2 * 0 + _ ≤ _; exact Nat.le_of_eq rfl) (hb hby at_45) (fun _ _ => ⟨rfl, e54, (by decide : 1 + 2 ≤ _), (by decide : 11 + 10 ≤ _)⟩)
  dsimp only [Pt.U, Pt.locs, Pt.cells, Pt.slots] at X55 l55 y55 z55 st55 hQ55
  subst l55 y55 z55
  obtain ⟨rfl, N55q, KI, ah, kc, g_ah, gk_ah, V_ah, HP⟩ := hQ55
  have N55 := Fr.app N0 N55q
  refine Goes.tr st55 ?_
  have Z0'' := Nat.le_trans Z0' KI.1
  have nah : b54 ≠ ah := Nat.ne_of_lt (Nat.lt_of_lt_of_le Ex_b54.lt gk_ah)
  have HP' := HP
  obtain ⟨E_b54, Fs_b54, Fa_b54, Fd_b54, Fp_b54, Fi_b54, Fh_b54, Ft_b54, Fr_b54⟩ := HP'
  show Goes p e below s _ _ _ (T55.setTop (mkF m 48 #[.val (.long qa), .second, .val (.long qb), .second, .val (.long qc), .second, .val (.long qd), .second, .val (.int md), .val (.long t1), .second, .val (.long t2), .second, .val (.long t3), .second, .val (.long t4), .second, .val (.long (2000000 : Int64)), .second, .val (.int vm), .unset, .unset, .unset, .unset, .unset, .unset, .unset, .unset, .unset, .unset, .unset, .unset] [(.ref b54)]))
  refine Goes.st (fun t_ k_ => XS.astore X55.here hx rfl (hb hby at_48) rfl rfl (l' := #[.val (.long qa), .second, .val (.long qb), .second, .val (.long qc), .second, .val (.long qd), .second, .val (.int md), .val (.long t1), .second, .val (.long t2), .second, .val (.long t3), .second, .val (.long t4), .second, .val (.long (2000000 : Int64)), .second, .val (.int vm), .val (.ref b54), .unset, .unset, .unset, .unset, .unset, .unset, .unset, .unset, .unset, .unset, .unset]) rfl k_) ?_
  show Goes p e below s _ _ _ (T55.setTop (mkF m 50 #[.val (.long qa), .second, .val (.long qb), .second, .val (.long qc), .second, .val (.long qd), .second, .val (.int md), .val (.long t1), .second, .val (.long t2), .second, .val (.long t3), .second, .val (.long t4), .second, .val (.long (2000000 : Int64)), .second, .val (.int vm), .val (.ref b54), .unset, .unset, .unset, .unset, .unset, .unset, .unset, .unset, .unset, .unset, .unset] []))
  refine Goes.st (fun t_ k_ => XS.aload X55.here hx rfl (hb hby at_50) rfl rfl k_) ?_
  show Goes p e below s _ _ _ (T55.setTop (mkF m 52 #[.val (.long qa), .second, .val (.long qb), .second, .val (.long qc), .second, .val (.long qd), .second, .val (.int md), .val (.long t1), .second, .val (.long t2), .second, .val (.long t3), .second, .val (.long t4), .second, .val (.long (2000000 : Int64)), .second, .val (.int vm), .val (.ref b54), .unset, .unset, .unset, .unset, .unset, .unset, .unset, .unset, .unset, .unset, .unset] [(.ref b54)]))
  obtain ⟨cq56, kq56, q56a, q56b, q56c⟩ := isOf hZ rfl E_b54
  obtain ⟨_, _, ⟨T56, L56, k56, n56⟩, -, X56, ⟨Lc56, hQ56, l56, y56, z56⟩, st56⟩ := X55.virtualBack hx (y := (⟨"com/example/delaunet/delaunet/core/sim/Pace", "complete", "()Z"⟩ : MethodName)) (z := (⟨"com/example/delaunet/delaunet/core/sim/Pace", "complete", "()Z"⟩ : MethodName)) hown (mvT hZ (hw _ (List.mem_of_getElem? (i := 19) rfl))) (mvT hZ (hw _ (List.mem_of_getElem? (i := 20) rfl))) (notFace_of_selects (args := #[]) (mvT hZ (hw _ (List.mem_of_getElem? (i := 22) rfl)))) (mvT hZ (hw _ (List.mem_of_getElem? (i := 22) rfl))) (mvT hZ (hw _ (List.mem_of_getElem? (i := 21) rfl))) (by decide) (backOf (W := 0) (own_rmC l Z a0 hw [] b54 0 0 false T55.heap n0 Z0'' Fs_b54 Fd_b54 Fp_b54 (by decide)) hZ (hw _ (List.mem_of_getElem? (i := 23) rfl)) (hw _ (List.mem_of_getElem? (i := 4) rfl)) (by decide) (by decide)) q56a q56c (g := (mkF m 52 #[.val (.long qa), .second, .val (.long qb), .second, .val (.long qc), .second, .val (.long qd), .second, .val (.int md), .val (.long t1), .second, .val (.long t2), .second, .val (.long t3), .second, .val (.long t4), .second, .val (.long (2000000 : Int64)), .second, .val (.int vm), .val (.ref b54), .unset, .unset, .unset, .unset, .unset, .unset, .unset, .unset, .unset, .unset, .unset] [(.ref b54)])) rfl (by rw [hml]; rfl) (Steps.refl _) (argsL := []) (rest := []) (lenOf own_pd60 rfl) rfl (by show 2 * 0 + _ ≤ _; exact Nat.le_of_eq rfl) (hb hby at_52) (fun _ _ => ⟨rfl, rfl, (by decide : 3 + 0 ≤ _), (by decide : 21 + 0 ≤ _)⟩)
  dsimp only [Pt.U, Pt.locs, Pt.cells, Pt.slots] at X56 l56 y56 z56 st56 hQ56
  subst l56 y56 z56
  obtain ⟨rfl, N56q, EQ1⟩ := hQ56
  have N56 := Fr.app N55 N56q
  refine Goes.tr st56 ?_
  show Goes p e below s _ _ _ (T56.setTop (mkF m 55 #[.val (.long qa), .second, .val (.long qb), .second, .val (.long qc), .second, .val (.long qd), .second, .val (.int md), .val (.long t1), .second, .val (.long t2), .second, .val (.long t3), .second, .val (.long t4), .second, .val (.long (2000000 : Int64)), .second, .val (.int vm), .val (.ref b54), .unset, .unset, .unset, .unset, .unset, .unset, .unset, .unset, .unset, .unset, .unset] [(.int (own_bI false))]))
  refine Goes.st (fun t_ k_ => XS.ifNo X56.here hx rfl (hb hby at_55) rfl ((if0 _ _).trans (teq (by decide)).2) k_) ?_
  show Goes p e below s _ _ _ (T56.setTop (mkF m 58 #[.val (.long qa), .second, .val (.long qb), .second, .val (.long qc), .second, .val (.long qd), .second, .val (.int md), .val (.long t1), .second, .val (.long t2), .second, .val (.long t3), .second, .val (.long t4), .second, .val (.long (2000000 : Int64)), .second, .val (.int vm), .val (.ref b54), .unset, .unset, .unset, .unset, .unset, .unset, .unset, .unset, .unset, .unset, .unset] []))
  refine Goes.st (fun t_ k_ => XS.iconst X56.here hx rfl (hb hby at_58) k_) ?_
  show Goes p e below s _ _ _ (T56.setTop (mkF m 59 #[.val (.long qa), .second, .val (.long qb), .second, .val (.long qc), .second, .val (.long qd), .second, .val (.int md), .val (.long t1), .second, .val (.long t2), .second, .val (.long t3), .second, .val (.long t4), .second, .val (.long (2000000 : Int64)), .second, .val (.int vm), .val (.ref b54), .unset, .unset, .unset, .unset, .unset, .unset, .unset, .unset, .unset, .unset, .unset] [(.int (1 : Int32))]))
  refine Goes.st (fun t_ k_ => XS.goto X56.here hx rfl (pc0 := 59) (pc' := 63) rfl (hb hby at_59) (by decide) (by decide) k_) ?_
  show Goes p e below s _ _ _ (T56.setTop (mkF m 63 #[.val (.long qa), .second, .val (.long qb), .second, .val (.long qc), .second, .val (.long qd), .second, .val (.int md), .val (.long t1), .second, .val (.long t2), .second, .val (.long t3), .second, .val (.long t4), .second, .val (.long (2000000 : Int64)), .second, .val (.int vm), .val (.ref b54), .unset, .unset, .unset, .unset, .unset, .unset, .unset, .unset, .unset, .unset, .unset] [(.int (1 : Int32))]))
  refine Goes.st (fun t_ k_ => XS.istore X56.here hx rfl (hb hby at_63) rfl  (l' := #[.val (.long qa), .second, .val (.long qb), .second, .val (.long qc), .second, .val (.long qd), .second, .val (.int md), .val (.long t1), .second, .val (.long t2), .second, .val (.long t3), .second, .val (.long t4), .second, .val (.long (2000000 : Int64)), .second, .val (.int vm), .val (.ref b54), .val (.int (1 : Int32)), .unset, .unset, .unset, .unset, .unset, .unset, .unset, .unset, .unset, .unset]) rfl k_) ?_
  show Goes p e below s _ _ _ (T56.setTop (mkF m 65 #[.val (.long qa), .second, .val (.long qb), .second, .val (.long qc), .second, .val (.long qd), .second, .val (.int md), .val (.long t1), .second, .val (.long t2), .second, .val (.long t3), .second, .val (.long t4), .second, .val (.long (2000000 : Int64)), .second, .val (.int vm), .val (.ref b54), .val (.int (1 : Int32)), .unset, .unset, .unset, .unset, .unset, .unset, .unset, .unset, .unset, .unset] []))
  refine Goes.st (fun t_ k_ => XS.aload X56.here hx rfl (hb hby at_65) rfl rfl k_) ?_
  show Goes p e below s _ _ _ (T56.setTop (mkF m 67 #[.val (.long qa), .second, .val (.long qb), .second, .val (.long qc), .second, .val (.long qd), .second, .val (.int md), .val (.long t1), .second, .val (.long t2), .second, .val (.long t3), .second, .val (.long t4), .second, .val (.long (2000000 : Int64)), .second, .val (.int vm), .val (.ref b54), .val (.int (1 : Int32)), .unset, .unset, .unset, .unset, .unset, .unset, .unset, .unset, .unset, .unset] [(.ref b54)]))
  refine Goes.st (fun t_ k_ => XS.lload X56.here hx rfl (hb hby at_67) rfl  k_) ?_
  show Goes p e below s _ _ _ (T56.setTop (mkF m 69 #[.val (.long qa), .second, .val (.long qb), .second, .val (.long qc), .second, .val (.long qd), .second, .val (.int md), .val (.long t1), .second, .val (.long t2), .second, .val (.long t3), .second, .val (.long t4), .second, .val (.long (2000000 : Int64)), .second, .val (.int vm), .val (.ref b54), .val (.int (1 : Int32)), .unset, .unset, .unset, .unset, .unset, .unset, .unset, .unset, .unset, .unset] [(.long t1), (.ref b54)]))
  obtain ⟨cq57, kq57, q57a, q57b, q57c⟩ := isOf hZ EQ1 E_b54
  obtain ⟨_, _, ⟨T57, L57, k57, n57⟩, -, X57, ⟨Lc57, hQ57, l57, y57, z57⟩, st57⟩ := X56.virtualBack hx (y := (⟨"com/example/delaunet/delaunet/core/sim/Pace", "start", "(J)Z"⟩ : MethodName)) (z := (⟨"com/example/delaunet/delaunet/core/sim/Pace", "start", "(J)Z"⟩ : MethodName)) hown (mvT hZ (hw _ (List.mem_of_getElem? (i := 28) rfl))) (mvT hZ (hw _ (List.mem_of_getElem? (i := 29) rfl))) (notFace_of_selects (args := #[]) (mvT hZ (hw _ (List.mem_of_getElem? (i := 31) rfl)))) (mvT hZ (hw _ (List.mem_of_getElem? (i := 31) rfl))) (mvT hZ (hw _ (List.mem_of_getElem? (i := 30) rfl))) (by decide) (backOf (W := 0) (own_rmS l Z a0 hw [] b54 t1 ah 0 0 (-1) 0 T55.heap n0 Z0'' HP (own_dS (by decide) (by decide)) (by simp [own_sp]) gn_b54) hZ (hw _ (List.mem_of_getElem? (i := 32) rfl)) (hw _ (List.mem_of_getElem? (i := 4) rfl)) (by decide) (by decide)) q57a q57c (g := (mkF m 69 #[.val (.long qa), .second, .val (.long qb), .second, .val (.long qc), .second, .val (.long qd), .second, .val (.int md), .val (.long t1), .second, .val (.long t2), .second, .val (.long t3), .second, .val (.long t4), .second, .val (.long (2000000 : Int64)), .second, .val (.int vm), .val (.ref b54), .val (.int (1 : Int32)), .unset, .unset, .unset, .unset, .unset, .unset, .unset, .unset, .unset, .unset] [(.long t1), (.ref b54)])) rfl (by rw [hml]; rfl) (Steps.refl _) (argsL := [(.long t1)]) (rest := []) (lenOf own_pd145 rfl) rfl (by show 2 * 0 + _ ≤ _; exact Nat.le_of_eq rfl) (hb hby at_69) (fun _ _ => ⟨rfl, EQ1, (by decide : 3 + 0 ≤ _), (by decide : 21 + 0 ≤ _)⟩)
  dsimp only [Pt.U, Pt.locs, Pt.cells, Pt.slots] at X57 l57 y57 z57 st57 hQ57
  subst l57 y57 z57
  obtain ⟨rfl, N57q, KS, HP⟩ := hQ57
  have N57 := Fr.app N56 N57q
  refine Goes.tr st57 ?_
  have V_ah := V_ah.keep KS (ninS (Ne.symm nah) nin0)
  have Z0''' := Nat.le_trans Z0'' KS.1
  have HP : own_P Z _ b54 ah 1 0 t1 := HP
  have HP' := HP
  obtain ⟨E_b54, Fs_b54, Fa_b54, Fd_b54, Fp_b54, Fi_b54, Fh_b54, Ft_b54, Fr_b54⟩ := HP'
  show Goes p e below s _ _ _ (T57.setTop (mkF m 72 #[.val (.long qa), .second, .val (.long qb), .second, .val (.long qc), .second, .val (.long qd), .second, .val (.int md), .val (.long t1), .second, .val (.long t2), .second, .val (.long t3), .second, .val (.long t4), .second, .val (.long (2000000 : Int64)), .second, .val (.int vm), .val (.ref b54), .val (.int (1 : Int32)), .unset, .unset, .unset, .unset, .unset, .unset, .unset, .unset, .unset, .unset] [(.int (0 : Int32))]))
  refine Goes.st (fun t_ k_ => XS.pop X57.here hx rfl (hb hby at_72) rfl rfl k_) ?_
  show Goes p e below s _ _ _ (T57.setTop (mkF m 73 #[.val (.long qa), .second, .val (.long qb), .second, .val (.long qc), .second, .val (.long qd), .second, .val (.int md), .val (.long t1), .second, .val (.long t2), .second, .val (.long t3), .second, .val (.long t4), .second, .val (.long (2000000 : Int64)), .second, .val (.int vm), .val (.ref b54), .val (.int (1 : Int32)), .unset, .unset, .unset, .unset, .unset, .unset, .unset, .unset, .unset, .unset] []))
  refine Goes.st (fun t_ k_ => XS.aload X57.here hx rfl (hb hby at_73) rfl rfl k_) ?_
  show Goes p e below s _ _ _ (T57.setTop (mkF m 75 #[.val (.long qa), .second, .val (.long qb), .second, .val (.long qc), .second, .val (.long qd), .second, .val (.int md), .val (.long t1), .second, .val (.long t2), .second, .val (.long t3), .second, .val (.long t4), .second, .val (.long (2000000 : Int64)), .second, .val (.int vm), .val (.ref b54), .val (.int (1 : Int32)), .unset, .unset, .unset, .unset, .unset, .unset, .unset, .unset, .unset, .unset] [(.ref b54)]))
  obtain ⟨cq58, kq58, q58a, q58b, q58c⟩ := isOf hZ rfl E_b54
  obtain ⟨_, _, ⟨T58, L58, k58, n58⟩, -, X58, ⟨Lc58, hQ58, l58, y58, z58⟩, st58⟩ := X57.virtualBack hx (y := (⟨"com/example/delaunet/delaunet/core/sim/Pace", "complete", "()Z"⟩ : MethodName)) (z := (⟨"com/example/delaunet/delaunet/core/sim/Pace", "complete", "()Z"⟩ : MethodName)) hown (mvT hZ (hw _ (List.mem_of_getElem? (i := 19) rfl))) (mvT hZ (hw _ (List.mem_of_getElem? (i := 20) rfl))) (notFace_of_selects (args := #[]) (mvT hZ (hw _ (List.mem_of_getElem? (i := 22) rfl)))) (mvT hZ (hw _ (List.mem_of_getElem? (i := 22) rfl))) (mvT hZ (hw _ (List.mem_of_getElem? (i := 21) rfl))) (by decide) (backOf (W := 0) (own_rmC l Z a0 hw [] b54 1 0 false T57.heap n0 Z0''' Fs_b54 Fd_b54 Fp_b54 (by decide)) hZ (hw _ (List.mem_of_getElem? (i := 23) rfl)) (hw _ (List.mem_of_getElem? (i := 4) rfl)) (by decide) (by decide)) q58a q58c (g := (mkF m 75 #[.val (.long qa), .second, .val (.long qb), .second, .val (.long qc), .second, .val (.long qd), .second, .val (.int md), .val (.long t1), .second, .val (.long t2), .second, .val (.long t3), .second, .val (.long t4), .second, .val (.long (2000000 : Int64)), .second, .val (.int vm), .val (.ref b54), .val (.int (1 : Int32)), .unset, .unset, .unset, .unset, .unset, .unset, .unset, .unset, .unset, .unset] [(.ref b54)])) rfl (by rw [hml]; rfl) (Steps.refl _) (argsL := []) (rest := []) (lenOf own_pd60 rfl) rfl (by show 2 * 0 + _ ≤ _; exact Nat.le_of_eq rfl) (hb hby at_75) (fun _ _ => ⟨rfl, rfl, (by decide : 3 + 0 ≤ _), (by decide : 21 + 0 ≤ _)⟩)
  dsimp only [Pt.U, Pt.locs, Pt.cells, Pt.slots] at X58 l58 y58 z58 st58 hQ58
  subst l58 y58 z58
  obtain ⟨rfl, N58q, EQ2⟩ := hQ58
  have N58 := Fr.app N57 N58q
  refine Goes.tr st58 ?_
  show Goes p e below s _ _ _ (T58.setTop (mkF m 78 #[.val (.long qa), .second, .val (.long qb), .second, .val (.long qc), .second, .val (.long qd), .second, .val (.int md), .val (.long t1), .second, .val (.long t2), .second, .val (.long t3), .second, .val (.long t4), .second, .val (.long (2000000 : Int64)), .second, .val (.int vm), .val (.ref b54), .val (.int (1 : Int32)), .unset, .unset, .unset, .unset, .unset, .unset, .unset, .unset, .unset, .unset] [(.int (own_bI false))]))
  refine Goes.st (fun t_ k_ => XS.istore X58.here hx rfl (hb hby at_78) rfl  (l' := #[.val (.long qa), .second, .val (.long qb), .second, .val (.long qc), .second, .val (.long qd), .second, .val (.int md), .val (.long t1), .second, .val (.long t2), .second, .val (.long t3), .second, .val (.long t4), .second, .val (.long (2000000 : Int64)), .second, .val (.int vm), .val (.ref b54), .val (.int (1 : Int32)), .val (.int (own_bI false)), .unset, .unset, .unset, .unset, .unset, .unset, .unset, .unset, .unset]) rfl k_) ?_
  show Goes p e below s _ _ _ (T58.setTop (mkF m 80 #[.val (.long qa), .second, .val (.long qb), .second, .val (.long qc), .second, .val (.long qd), .second, .val (.int md), .val (.long t1), .second, .val (.long t2), .second, .val (.long t3), .second, .val (.long t4), .second, .val (.long (2000000 : Int64)), .second, .val (.int vm), .val (.ref b54), .val (.int (1 : Int32)), .val (.int (own_bI false)), .unset, .unset, .unset, .unset, .unset, .unset, .unset, .unset, .unset] []))
  refine Goes.st (fun t_ k_ => XS.iload X58.here hx rfl (hb hby at_80) rfl  k_) ?_
  show Goes p e below s _ _ _ (T58.setTop (mkF m 82 #[.val (.long qa), .second, .val (.long qb), .second, .val (.long qc), .second, .val (.long qd), .second, .val (.int md), .val (.long t1), .second, .val (.long t2), .second, .val (.long t3), .second, .val (.long t4), .second, .val (.long (2000000 : Int64)), .second, .val (.int vm), .val (.ref b54), .val (.int (1 : Int32)), .val (.int (own_bI false)), .unset, .unset, .unset, .unset, .unset, .unset, .unset, .unset, .unset] [(.int (1 : Int32))]))
  refine Goes.st (fun t_ k_ => XS.ifNo X58.here hx rfl (hb hby at_82) rfl ((if0 _ _).trans (feq (by decide)).1) k_) ?_
  show Goes p e below s _ _ _ (T58.setTop (mkF m 85 #[.val (.long qa), .second, .val (.long qb), .second, .val (.long qc), .second, .val (.long qd), .second, .val (.int md), .val (.long t1), .second, .val (.long t2), .second, .val (.long t3), .second, .val (.long t4), .second, .val (.long (2000000 : Int64)), .second, .val (.int vm), .val (.ref b54), .val (.int (1 : Int32)), .val (.int (own_bI false)), .unset, .unset, .unset, .unset, .unset, .unset, .unset, .unset, .unset] []))
  refine Goes.st (fun t_ k_ => XS.iload X58.here hx rfl (hb hby at_85) rfl  k_) ?_
  show Goes p e below s _ _ _ (T58.setTop (mkF m 87 #[.val (.long qa), .second, .val (.long qb), .second, .val (.long qc), .second, .val (.long qd), .second, .val (.int md), .val (.long t1), .second, .val (.long t2), .second, .val (.long t3), .second, .val (.long t4), .second, .val (.long (2000000 : Int64)), .second, .val (.int vm), .val (.ref b54), .val (.int (1 : Int32)), .val (.int (own_bI false)), .unset, .unset, .unset, .unset, .unset, .unset, .unset, .unset, .unset] [(.int (own_bI false))]))
  refine Goes.st (fun t_ k_ => XS.ifNo X58.here hx rfl (hb hby at_87) rfl ((if0 _ _).trans (teq (by decide)).2) k_) ?_
  show Goes p e below s _ _ _ (T58.setTop (mkF m 90 #[.val (.long qa), .second, .val (.long qb), .second, .val (.long qc), .second, .val (.long qd), .second, .val (.int md), .val (.long t1), .second, .val (.long t2), .second, .val (.long t3), .second, .val (.long t4), .second, .val (.long (2000000 : Int64)), .second, .val (.int vm), .val (.ref b54), .val (.int (1 : Int32)), .val (.int (own_bI false)), .unset, .unset, .unset, .unset, .unset, .unset, .unset, .unset, .unset] []))
  refine Goes.st (fun t_ k_ => XS.iconst X58.here hx rfl (hb hby at_90) k_) ?_
  show Goes p e below s _ _ _ (T58.setTop (mkF m 91 #[.val (.long qa), .second, .val (.long qb), .second, .val (.long qc), .second, .val (.long qd), .second, .val (.int md), .val (.long t1), .second, .val (.long t2), .second, .val (.long t3), .second, .val (.long t4), .second, .val (.long (2000000 : Int64)), .second, .val (.int vm), .val (.ref b54), .val (.int (1 : Int32)), .val (.int (own_bI false)), .unset, .unset, .unset, .unset, .unset, .unset, .unset, .unset, .unset] [(.int (1 : Int32))]))
  refine Goes.st (fun t_ k_ => XS.goto X58.here hx rfl (pc0 := 91) (pc' := 95) rfl (hb hby at_91) (by decide) (by decide) k_) ?_
  show Goes p e below s _ _ _ (T58.setTop (mkF m 95 #[.val (.long qa), .second, .val (.long qb), .second, .val (.long qc), .second, .val (.long qd), .second, .val (.int md), .val (.long t1), .second, .val (.long t2), .second, .val (.long t3), .second, .val (.long t4), .second, .val (.long (2000000 : Int64)), .second, .val (.int vm), .val (.ref b54), .val (.int (1 : Int32)), .val (.int (own_bI false)), .unset, .unset, .unset, .unset, .unset, .unset, .unset, .unset, .unset] [(.int (1 : Int32))]))
  refine Goes.st (fun t_ k_ => XS.istore X58.here hx rfl (hb hby at_95) rfl  (l' := #[.val (.long qa), .second, .val (.long qb), .second, .val (.long qc), .second, .val (.long qd), .second, .val (.int md), .val (.long t1), .second, .val (.long t2), .second, .val (.long t3), .second, .val (.long t4), .second, .val (.long (2000000 : Int64)), .second, .val (.int vm), .val (.ref b54), .val (.int (1 : Int32)), .val (.int (own_bI false)), .unset, .unset, .unset, .unset, .unset, .unset, .unset, .unset, .unset]) rfl k_) ?_
  show Goes p e below s _ _ _ (T58.setTop (mkF m 97 #[.val (.long qa), .second, .val (.long qb), .second, .val (.long qc), .second, .val (.long qd), .second, .val (.int md), .val (.long t1), .second, .val (.long t2), .second, .val (.long t3), .second, .val (.long t4), .second, .val (.long (2000000 : Int64)), .second, .val (.int vm), .val (.ref b54), .val (.int (1 : Int32)), .val (.int (own_bI false)), .unset, .unset, .unset, .unset, .unset, .unset, .unset, .unset, .unset] []))
  refine Goes.st (fun t_ k_ => XS.aload X58.here hx rfl (hb hby at_97) rfl rfl k_) ?_
  show Goes p e below s _ _ _ (T58.setTop (mkF m 99 #[.val (.long qa), .second, .val (.long qb), .second, .val (.long qc), .second, .val (.long qd), .second, .val (.int md), .val (.long t1), .second, .val (.long t2), .second, .val (.long t3), .second, .val (.long t4), .second, .val (.long (2000000 : Int64)), .second, .val (.int vm), .val (.ref b54), .val (.int (1 : Int32)), .val (.int (own_bI false)), .unset, .unset, .unset, .unset, .unset, .unset, .unset, .unset, .unset] [(.ref b54)]))
  refine Goes.st (fun t_ k_ => XS.lload X58.here hx rfl (hb hby at_99) rfl  k_) ?_
  show Goes p e below s _ _ _ (T58.setTop (mkF m 101 #[.val (.long qa), .second, .val (.long qb), .second, .val (.long qc), .second, .val (.long qd), .second, .val (.int md), .val (.long t1), .second, .val (.long t2), .second, .val (.long t3), .second, .val (.long t4), .second, .val (.long (2000000 : Int64)), .second, .val (.int vm), .val (.ref b54), .val (.int (1 : Int32)), .val (.int (own_bI false)), .unset, .unset, .unset, .unset, .unset, .unset, .unset, .unset, .unset] [(.long t2), (.ref b54)]))
  obtain ⟨cq59, kq59, q59a, q59b, q59c⟩ := isOf hZ EQ2 E_b54
  obtain ⟨_, _, ⟨T59, L59, k59, n59⟩, -, X59, ⟨Lc59, hQ59, l59, y59, z59⟩, st59⟩ := X58.virtualBack hx (y := (⟨"com/example/delaunet/delaunet/core/sim/Pace", "start", "(J)Z"⟩ : MethodName)) (z := (⟨"com/example/delaunet/delaunet/core/sim/Pace", "start", "(J)Z"⟩ : MethodName)) hown (mvT hZ (hw _ (List.mem_of_getElem? (i := 28) rfl))) (mvT hZ (hw _ (List.mem_of_getElem? (i := 29) rfl))) (notFace_of_selects (args := #[]) (mvT hZ (hw _ (List.mem_of_getElem? (i := 31) rfl)))) (mvT hZ (hw _ (List.mem_of_getElem? (i := 31) rfl))) (mvT hZ (hw _ (List.mem_of_getElem? (i := 30) rfl))) (by decide) (backOf (W := 0) (own_rmS l Z a0 hw [] b54 t2 ah 1 0 t1 0 T57.heap n0 Z0''' HP (own_dS (by decide) (by decide)) (by simp [own_sp]) gn_b54) hZ (hw _ (List.mem_of_getElem? (i := 32) rfl)) (hw _ (List.mem_of_getElem? (i := 4) rfl)) (by decide) (by decide)) q59a q59c (g := (mkF m 101 #[.val (.long qa), .second, .val (.long qb), .second, .val (.long qc), .second, .val (.long qd), .second, .val (.int md), .val (.long t1), .second, .val (.long t2), .second, .val (.long t3), .second, .val (.long t4), .second, .val (.long (2000000 : Int64)), .second, .val (.int vm), .val (.ref b54), .val (.int (1 : Int32)), .val (.int (own_bI false)), .unset, .unset, .unset, .unset, .unset, .unset, .unset, .unset, .unset] [(.long t2), (.ref b54)])) rfl (by rw [hml]; rfl) (Steps.refl _) (argsL := [(.long t2)]) (rest := []) (lenOf own_pd145 rfl) rfl (by show 2 * 0 + _ ≤ _; exact Nat.le_of_eq rfl) (hb hby at_101) (fun _ _ => ⟨rfl, EQ2, (by decide : 3 + 0 ≤ _), (by decide : 21 + 0 ≤ _)⟩)
  dsimp only [Pt.U, Pt.locs, Pt.cells, Pt.slots] at X59 l59 y59 z59 st59 hQ59
  subst l59 y59 z59
  obtain ⟨rfl, N59q, KS, HP⟩ := hQ59
  have N59 := Fr.app N58 N59q
  refine Goes.tr st59 ?_
  have V_ah := V_ah.keep KS (ninS (Ne.symm nah) nin0)
  have Z0'''' := Nat.le_trans Z0''' KS.1
  have HP : own_P Z _ b54 ah 2 0 t2 := HP
  have HP' := HP
  obtain ⟨E_b54, Fs_b54, Fa_b54, Fd_b54, Fp_b54, Fi_b54, Fh_b54, Ft_b54, Fr_b54⟩ := HP'
  show Goes p e below s _ _ _ (T59.setTop (mkF m 104 #[.val (.long qa), .second, .val (.long qb), .second, .val (.long qc), .second, .val (.long qd), .second, .val (.int md), .val (.long t1), .second, .val (.long t2), .second, .val (.long t3), .second, .val (.long t4), .second, .val (.long (2000000 : Int64)), .second, .val (.int vm), .val (.ref b54), .val (.int (1 : Int32)), .val (.int (own_bI false)), .unset, .unset, .unset, .unset, .unset, .unset, .unset, .unset, .unset] [(.int (0 : Int32))]))
  refine Goes.st (fun t_ k_ => XS.pop X59.here hx rfl (hb hby at_104) rfl rfl k_) ?_
  show Goes p e below s _ _ _ (T59.setTop (mkF m 105 #[.val (.long qa), .second, .val (.long qb), .second, .val (.long qc), .second, .val (.long qd), .second, .val (.int md), .val (.long t1), .second, .val (.long t2), .second, .val (.long t3), .second, .val (.long t4), .second, .val (.long (2000000 : Int64)), .second, .val (.int vm), .val (.ref b54), .val (.int (1 : Int32)), .val (.int (own_bI false)), .unset, .unset, .unset, .unset, .unset, .unset, .unset, .unset, .unset] []))
  refine Goes.st (fun t_ k_ => XS.aload X59.here hx rfl (hb hby at_105) rfl rfl k_) ?_
  show Goes p e below s _ _ _ (T59.setTop (mkF m 107 #[.val (.long qa), .second, .val (.long qb), .second, .val (.long qc), .second, .val (.long qd), .second, .val (.int md), .val (.long t1), .second, .val (.long t2), .second, .val (.long t3), .second, .val (.long t4), .second, .val (.long (2000000 : Int64)), .second, .val (.int vm), .val (.ref b54), .val (.int (1 : Int32)), .val (.int (own_bI false)), .unset, .unset, .unset, .unset, .unset, .unset, .unset, .unset, .unset] [(.ref b54)]))
  obtain ⟨cq60, kq60, q60a, q60b, q60c⟩ := isOf hZ rfl E_b54
  obtain ⟨_, _, ⟨T60, L60, k60, n60⟩, -, X60, ⟨Lc60, hQ60, l60, y60, z60⟩, st60⟩ := X59.virtualBack hx (y := (⟨"com/example/delaunet/delaunet/core/sim/Pace", "complete", "()Z"⟩ : MethodName)) (z := (⟨"com/example/delaunet/delaunet/core/sim/Pace", "complete", "()Z"⟩ : MethodName)) hown (mvT hZ (hw _ (List.mem_of_getElem? (i := 19) rfl))) (mvT hZ (hw _ (List.mem_of_getElem? (i := 20) rfl))) (notFace_of_selects (args := #[]) (mvT hZ (hw _ (List.mem_of_getElem? (i := 22) rfl)))) (mvT hZ (hw _ (List.mem_of_getElem? (i := 22) rfl))) (mvT hZ (hw _ (List.mem_of_getElem? (i := 21) rfl))) (by decide) (backOf (W := 0) (own_rmC l Z a0 hw [] b54 2 0 false T59.heap n0 Z0'''' Fs_b54 Fd_b54 Fp_b54 (by decide)) hZ (hw _ (List.mem_of_getElem? (i := 23) rfl)) (hw _ (List.mem_of_getElem? (i := 4) rfl)) (by decide) (by decide)) q60a q60c (g := (mkF m 107 #[.val (.long qa), .second, .val (.long qb), .second, .val (.long qc), .second, .val (.long qd), .second, .val (.int md), .val (.long t1), .second, .val (.long t2), .second, .val (.long t3), .second, .val (.long t4), .second, .val (.long (2000000 : Int64)), .second, .val (.int vm), .val (.ref b54), .val (.int (1 : Int32)), .val (.int (own_bI false)), .unset, .unset, .unset, .unset, .unset, .unset, .unset, .unset, .unset] [(.ref b54)])) rfl (by rw [hml]; rfl) (Steps.refl _) (argsL := []) (rest := []) (lenOf own_pd60 rfl) rfl (by show 2 * 0 + _ ≤ _; exact Nat.le_of_eq rfl) (hb hby at_107) (fun _ _ => ⟨rfl, rfl, (by decide : 3 + 0 ≤ _), (by decide : 21 + 0 ≤ _)⟩)
  dsimp only [Pt.U, Pt.locs, Pt.cells, Pt.slots] at X60 l60 y60 z60 st60 hQ60
  subst l60 y60 z60
  obtain ⟨rfl, N60q, EQ3⟩ := hQ60
  have N60 := Fr.app N59 N60q
  refine Goes.tr st60 ?_
  show Goes p e below s _ _ _ (T60.setTop (mkF m 110 #[.val (.long qa), .second, .val (.long qb), .second, .val (.long qc), .second, .val (.long qd), .second, .val (.int md), .val (.long t1), .second, .val (.long t2), .second, .val (.long t3), .second, .val (.long t4), .second, .val (.long (2000000 : Int64)), .second, .val (.int vm), .val (.ref b54), .val (.int (1 : Int32)), .val (.int (own_bI false)), .unset, .unset, .unset, .unset, .unset, .unset, .unset, .unset, .unset] [(.int (own_bI false))]))
  refine Goes.st (fun t_ k_ => XS.istore X60.here hx rfl (hb hby at_110) rfl  (l' := #[.val (.long qa), .second, .val (.long qb), .second, .val (.long qc), .second, .val (.long qd), .second, .val (.int md), .val (.long t1), .second, .val (.long t2), .second, .val (.long t3), .second, .val (.long t4), .second, .val (.long (2000000 : Int64)), .second, .val (.int vm), .val (.ref b54), .val (.int (1 : Int32)), .val (.int (own_bI false)), .val (.int (own_bI false)), .unset, .unset, .unset, .unset, .unset, .unset, .unset, .unset]) rfl k_) ?_
  show Goes p e below s _ _ _ (T60.setTop (mkF m 112 #[.val (.long qa), .second, .val (.long qb), .second, .val (.long qc), .second, .val (.long qd), .second, .val (.int md), .val (.long t1), .second, .val (.long t2), .second, .val (.long t3), .second, .val (.long t4), .second, .val (.long (2000000 : Int64)), .second, .val (.int vm), .val (.ref b54), .val (.int (1 : Int32)), .val (.int (own_bI false)), .val (.int (own_bI false)), .unset, .unset, .unset, .unset, .unset, .unset, .unset, .unset] []))
  refine Goes.st (fun t_ k_ => XS.iload X60.here hx rfl (hb hby at_112) rfl  k_) ?_
  show Goes p e below s _ _ _ (T60.setTop (mkF m 114 #[.val (.long qa), .second, .val (.long qb), .second, .val (.long qc), .second, .val (.long qd), .second, .val (.int md), .val (.long t1), .second, .val (.long t2), .second, .val (.long t3), .second, .val (.long t4), .second, .val (.long (2000000 : Int64)), .second, .val (.int vm), .val (.ref b54), .val (.int (1 : Int32)), .val (.int (own_bI false)), .val (.int (own_bI false)), .unset, .unset, .unset, .unset, .unset, .unset, .unset, .unset] [(.int (1 : Int32))]))
  refine Goes.st (fun t_ k_ => XS.ifNo X60.here hx rfl (hb hby at_114) rfl ((if0 _ _).trans (feq (by decide)).1) k_) ?_
  show Goes p e below s _ _ _ (T60.setTop (mkF m 117 #[.val (.long qa), .second, .val (.long qb), .second, .val (.long qc), .second, .val (.long qd), .second, .val (.int md), .val (.long t1), .second, .val (.long t2), .second, .val (.long t3), .second, .val (.long t4), .second, .val (.long (2000000 : Int64)), .second, .val (.int vm), .val (.ref b54), .val (.int (1 : Int32)), .val (.int (own_bI false)), .val (.int (own_bI false)), .unset, .unset, .unset, .unset, .unset, .unset, .unset, .unset] []))
  refine Goes.st (fun t_ k_ => XS.iload X60.here hx rfl (hb hby at_117) rfl  k_) ?_
  show Goes p e below s _ _ _ (T60.setTop (mkF m 119 #[.val (.long qa), .second, .val (.long qb), .second, .val (.long qc), .second, .val (.long qd), .second, .val (.int md), .val (.long t1), .second, .val (.long t2), .second, .val (.long t3), .second, .val (.long t4), .second, .val (.long (2000000 : Int64)), .second, .val (.int vm), .val (.ref b54), .val (.int (1 : Int32)), .val (.int (own_bI false)), .val (.int (own_bI false)), .unset, .unset, .unset, .unset, .unset, .unset, .unset, .unset] [(.int (own_bI false))]))
  refine Goes.st (fun t_ k_ => XS.ifNo X60.here hx rfl (hb hby at_119) rfl ((if0 _ _).trans (teq (by decide)).2) k_) ?_
  show Goes p e below s _ _ _ (T60.setTop (mkF m 122 #[.val (.long qa), .second, .val (.long qb), .second, .val (.long qc), .second, .val (.long qd), .second, .val (.int md), .val (.long t1), .second, .val (.long t2), .second, .val (.long t3), .second, .val (.long t4), .second, .val (.long (2000000 : Int64)), .second, .val (.int vm), .val (.ref b54), .val (.int (1 : Int32)), .val (.int (own_bI false)), .val (.int (own_bI false)), .unset, .unset, .unset, .unset, .unset, .unset, .unset, .unset] []))
  refine Goes.st (fun t_ k_ => XS.iconst X60.here hx rfl (hb hby at_122) k_) ?_
  show Goes p e below s _ _ _ (T60.setTop (mkF m 123 #[.val (.long qa), .second, .val (.long qb), .second, .val (.long qc), .second, .val (.long qd), .second, .val (.int md), .val (.long t1), .second, .val (.long t2), .second, .val (.long t3), .second, .val (.long t4), .second, .val (.long (2000000 : Int64)), .second, .val (.int vm), .val (.ref b54), .val (.int (1 : Int32)), .val (.int (own_bI false)), .val (.int (own_bI false)), .unset, .unset, .unset, .unset, .unset, .unset, .unset, .unset] [(.int (1 : Int32))]))
  refine Goes.st (fun t_ k_ => XS.goto X60.here hx rfl (pc0 := 123) (pc' := 127) rfl (hb hby at_123) (by decide) (by decide) k_) ?_
  show Goes p e below s _ _ _ (T60.setTop (mkF m 127 #[.val (.long qa), .second, .val (.long qb), .second, .val (.long qc), .second, .val (.long qd), .second, .val (.int md), .val (.long t1), .second, .val (.long t2), .second, .val (.long t3), .second, .val (.long t4), .second, .val (.long (2000000 : Int64)), .second, .val (.int vm), .val (.ref b54), .val (.int (1 : Int32)), .val (.int (own_bI false)), .val (.int (own_bI false)), .unset, .unset, .unset, .unset, .unset, .unset, .unset, .unset] [(.int (1 : Int32))]))
  refine Goes.st (fun t_ k_ => XS.istore X60.here hx rfl (hb hby at_127) rfl  (l' := #[.val (.long qa), .second, .val (.long qb), .second, .val (.long qc), .second, .val (.long qd), .second, .val (.int md), .val (.long t1), .second, .val (.long t2), .second, .val (.long t3), .second, .val (.long t4), .second, .val (.long (2000000 : Int64)), .second, .val (.int vm), .val (.ref b54), .val (.int (1 : Int32)), .val (.int (own_bI false)), .val (.int (own_bI false)), .unset, .unset, .unset, .unset, .unset, .unset, .unset, .unset]) rfl k_) ?_
  show Goes p e below s _ _ _ (T60.setTop (mkF m 129 #[.val (.long qa), .second, .val (.long qb), .second, .val (.long qc), .second, .val (.long qd), .second, .val (.int md), .val (.long t1), .second, .val (.long t2), .second, .val (.long t3), .second, .val (.long t4), .second, .val (.long (2000000 : Int64)), .second, .val (.int vm), .val (.ref b54), .val (.int (1 : Int32)), .val (.int (own_bI false)), .val (.int (own_bI false)), .unset, .unset, .unset, .unset, .unset, .unset, .unset, .unset] []))
  refine Goes.st (fun t_ k_ => XS.iload X60.here hx rfl (hb hby at_129) rfl  k_) ?_
  show Goes p e below s _ _ _ (T60.setTop (mkF m 131 #[.val (.long qa), .second, .val (.long qb), .second, .val (.long qc), .second, .val (.long qd), .second, .val (.int md), .val (.long t1), .second, .val (.long t2), .second, .val (.long t3), .second, .val (.long t4), .second, .val (.long (2000000 : Int64)), .second, .val (.int vm), .val (.ref b54), .val (.int (1 : Int32)), .val (.int (own_bI false)), .val (.int (own_bI false)), .unset, .unset, .unset, .unset, .unset, .unset, .unset, .unset] [(.int vm)]))
  by_cases hv0 : vm = (0 : Int32)
  · refine Goes.st (fun t_ k_ => XS.ifNo X60.here hx rfl (hb hby at_131) rfl ((if0 _ _).trans (teq hv0).2) k_) ?_
    show Goes p e below s _ _ _ (T60.setTop (mkF m 134 #[.val (.long qa), .second, .val (.long qb), .second, .val (.long qc), .second, .val (.long qd), .second, .val (.int md), .val (.long t1), .second, .val (.long t2), .second, .val (.long t3), .second, .val (.long t4), .second, .val (.long (2000000 : Int64)), .second, .val (.int vm), .val (.ref b54), .val (.int (1 : Int32)), .val (.int (own_bI false)), .val (.int (own_bI false)), .unset, .unset, .unset, .unset, .unset, .unset, .unset, .unset] []))
    refine Goes.st (fun t_ k_ => XS.aload X60.here hx rfl (hb hby at_134) rfl rfl k_) ?_
    show Goes p e below s _ _ _ (T60.setTop (mkF m 136 #[.val (.long qa), .second, .val (.long qb), .second, .val (.long qc), .second, .val (.long qd), .second, .val (.int md), .val (.long t1), .second, .val (.long t2), .second, .val (.long t3), .second, .val (.long t4), .second, .val (.long (2000000 : Int64)), .second, .val (.int vm), .val (.ref b54), .val (.int (1 : Int32)), .val (.int (own_bI false)), .val (.int (own_bI false)), .unset, .unset, .unset, .unset, .unset, .unset, .unset, .unset] [(.ref b54)]))
    refine Goes.st (fun t_ k_ => XS.lload X60.here hx rfl (hb hby at_136) rfl  k_) ?_
    show Goes p e below s _ _ _ (T60.setTop (mkF m 138 #[.val (.long qa), .second, .val (.long qb), .second, .val (.long qc), .second, .val (.long qd), .second, .val (.int md), .val (.long t1), .second, .val (.long t2), .second, .val (.long t3), .second, .val (.long t4), .second, .val (.long (2000000 : Int64)), .second, .val (.int vm), .val (.ref b54), .val (.int (1 : Int32)), .val (.int (own_bI false)), .val (.int (own_bI false)), .unset, .unset, .unset, .unset, .unset, .unset, .unset, .unset] [(.long t3), (.ref b54)]))
    obtain ⟨cq61, kq61, q61a, q61b, q61c⟩ := isOf hZ EQ3 E_b54
    obtain ⟨_, _, ⟨T61, L61, k61, n61⟩, -, X61, ⟨Lc61, hQ61, l61, y61, z61⟩, st61⟩ := X60.virtualBack hx (y := (⟨"com/example/delaunet/delaunet/core/sim/Pace", "end", "(J)V"⟩ : MethodName)) (z := (⟨"com/example/delaunet/delaunet/core/sim/Pace", "end", "(J)V"⟩ : MethodName)) hown (mvT hZ (hw _ (List.mem_of_getElem? (i := 56) rfl))) (mvT hZ (hw _ (List.mem_of_getElem? (i := 35) rfl))) (notFace_of_selects (args := #[]) (mvT hZ (hw _ (List.mem_of_getElem? (i := 37) rfl)))) (mvT hZ (hw _ (List.mem_of_getElem? (i := 37) rfl))) (mvT hZ (hw _ (List.mem_of_getElem? (i := 36) rfl))) (by decide) (backOf (W := 0) (own_rmE l Z a0 hw [] b54 t3 ah 2 0 t2 (0 + (t3 - t2)) T59.heap n0 Z0'''' HP (by simp [own_sp, hb_t2]) gn_b54) hZ (hw _ (List.mem_of_getElem? (i := 38) rfl)) (hw _ (List.mem_of_getElem? (i := 4) rfl)) (by decide) (by decide)) q61a q61c (g := (mkF m 138 #[.val (.long qa), .second, .val (.long qb), .second, .val (.long qc), .second, .val (.long qd), .second, .val (.int md), .val (.long t1), .second, .val (.long t2), .second, .val (.long t3), .second, .val (.long t4), .second, .val (.long (2000000 : Int64)), .second, .val (.int vm), .val (.ref b54), .val (.int (1 : Int32)), .val (.int (own_bI false)), .val (.int (own_bI false)), .unset, .unset, .unset, .unset, .unset, .unset, .unset, .unset] [(.long t3), (.ref b54)])) rfl (by rw [hml]; rfl) (Steps.refl _) (argsL := [(.long t3)]) (rest := []) (lenOf own_pd65 rfl) rfl (by show 2 * 0 + _ ≤ _; exact Nat.le_of_eq rfl) (hb hby at_138) (fun _ _ => ⟨rfl, EQ3, (by decide : 3 + 0 ≤ _), (by decide : 21 + 0 ≤ _)⟩)
    dsimp only [Pt.U, Pt.locs, Pt.cells, Pt.slots] at X61 l61 y61 z61 st61 hQ61
    subst l61 y61 z61
    obtain ⟨rfl, N61q, KE, HP⟩ := hQ61
    have N61 := Fr.app N60 N61q
    refine Goes.tr st61 ?_
    have V_ah := V_ah.keep KE (ninS (Ne.symm nah) nin0)
    have Z0''''' := Nat.le_trans Z0'''' KE.1
    have HP' := HP
    obtain ⟨E_b54, Fs_b54, Fa_b54, Fd_b54, Fp_b54, Fi_b54, Fh_b54, Ft_b54, Fr_b54⟩ := HP'
    show Goes p e below s _ _ _ (T61.setTop (mkF m 141 #[.val (.long qa), .second, .val (.long qb), .second, .val (.long qc), .second, .val (.long qd), .second, .val (.int md), .val (.long t1), .second, .val (.long t2), .second, .val (.long t3), .second, .val (.long t4), .second, .val (.long (2000000 : Int64)), .second, .val (.int vm), .val (.ref b54), .val (.int (1 : Int32)), .val (.int (own_bI false)), .val (.int (own_bI false)), .unset, .unset, .unset, .unset, .unset, .unset, .unset, .unset] []))
    refine Goes.st (fun t_ k_ => XS.aload X61.here hx rfl (hb hby at_141) rfl rfl k_) ?_
    show Goes p e below s _ _ _ (T61.setTop (mkF m 143 #[.val (.long qa), .second, .val (.long qb), .second, .val (.long qc), .second, .val (.long qd), .second, .val (.int md), .val (.long t1), .second, .val (.long t2), .second, .val (.long t3), .second, .val (.long t4), .second, .val (.long (2000000 : Int64)), .second, .val (.int vm), .val (.ref b54), .val (.int (1 : Int32)), .val (.int (own_bI false)), .val (.int (own_bI false)), .unset, .unset, .unset, .unset, .unset, .unset, .unset, .unset] [(.ref b54)]))
    obtain ⟨cq62, kq62, q62a, q62b, q62c⟩ := isOf hZ rfl E_b54
    obtain ⟨_, _, ⟨T62, L62, k62, n62⟩, -, X62, ⟨Lc62, hQ62, l62, y62, z62⟩, st62⟩ := X61.virtualBack hx (y := (⟨"com/example/delaunet/delaunet/core/sim/Pace", "complete", "()Z"⟩ : MethodName)) (z := (⟨"com/example/delaunet/delaunet/core/sim/Pace", "complete", "()Z"⟩ : MethodName)) hown (mvT hZ (hw _ (List.mem_of_getElem? (i := 19) rfl))) (mvT hZ (hw _ (List.mem_of_getElem? (i := 20) rfl))) (notFace_of_selects (args := #[]) (mvT hZ (hw _ (List.mem_of_getElem? (i := 22) rfl)))) (mvT hZ (hw _ (List.mem_of_getElem? (i := 22) rfl))) (mvT hZ (hw _ (List.mem_of_getElem? (i := 21) rfl))) (by decide) (backOf (W := 0) (own_rmC l Z a0 hw [] b54 2 (0 + (t3 - t2)) false T61.heap n0 Z0''''' Fs_b54 Fd_b54 Fp_b54 (by exact own_dS (by decide) (by decide))) hZ (hw _ (List.mem_of_getElem? (i := 23) rfl)) (hw _ (List.mem_of_getElem? (i := 4) rfl)) (by decide) (by decide)) q62a q62c (g := (mkF m 143 #[.val (.long qa), .second, .val (.long qb), .second, .val (.long qc), .second, .val (.long qd), .second, .val (.int md), .val (.long t1), .second, .val (.long t2), .second, .val (.long t3), .second, .val (.long t4), .second, .val (.long (2000000 : Int64)), .second, .val (.int vm), .val (.ref b54), .val (.int (1 : Int32)), .val (.int (own_bI false)), .val (.int (own_bI false)), .unset, .unset, .unset, .unset, .unset, .unset, .unset, .unset] [(.ref b54)])) rfl (by rw [hml]; rfl) (Steps.refl _) (argsL := []) (rest := []) (lenOf own_pd60 rfl) rfl (by show 2 * 0 + _ ≤ _; exact Nat.le_of_eq rfl) (hb hby at_143) (fun _ _ => ⟨rfl, rfl, (by decide : 3 + 0 ≤ _), (by decide : 21 + 0 ≤ _)⟩)
    dsimp only [Pt.U, Pt.locs, Pt.cells, Pt.slots] at X62 l62 y62 z62 st62 hQ62
    subst l62 y62 z62
    obtain ⟨rfl, N62q, EQ4⟩ := hQ62
    have N62 := Fr.app N61 N62q
    refine Goes.tr st62 ?_
    show Goes p e below s _ _ _ (T62.setTop (mkF m 146 #[.val (.long qa), .second, .val (.long qb), .second, .val (.long qc), .second, .val (.long qd), .second, .val (.int md), .val (.long t1), .second, .val (.long t2), .second, .val (.long t3), .second, .val (.long t4), .second, .val (.long (2000000 : Int64)), .second, .val (.int vm), .val (.ref b54), .val (.int (1 : Int32)), .val (.int (own_bI false)), .val (.int (own_bI false)), .unset, .unset, .unset, .unset, .unset, .unset, .unset, .unset] [(.int (own_bI false))]))
    refine Goes.st (fun t_ k_ => XS.istore X62.here hx rfl (hb hby at_146) rfl  (l' := #[.val (.long qa), .second, .val (.long qb), .second, .val (.long qc), .second, .val (.long qd), .second, .val (.int md), .val (.long t1), .second, .val (.long t2), .second, .val (.long t3), .second, .val (.long t4), .second, .val (.long (2000000 : Int64)), .second, .val (.int vm), .val (.ref b54), .val (.int (1 : Int32)), .val (.int (own_bI false)), .val (.int (own_bI false)), .val (.int (own_bI false)), .unset, .unset, .unset, .unset, .unset, .unset, .unset]) rfl k_) ?_
    show Goes p e below s _ _ _ (T62.setTop (mkF m 148 #[.val (.long qa), .second, .val (.long qb), .second, .val (.long qc), .second, .val (.long qd), .second, .val (.int md), .val (.long t1), .second, .val (.long t2), .second, .val (.long t3), .second, .val (.long t4), .second, .val (.long (2000000 : Int64)), .second, .val (.int vm), .val (.ref b54), .val (.int (1 : Int32)), .val (.int (own_bI false)), .val (.int (own_bI false)), .val (.int (own_bI false)), .unset, .unset, .unset, .unset, .unset, .unset, .unset] []))
    refine Goes.st (fun t_ k_ => XS.iload X62.here hx rfl (hb hby at_148) rfl  k_) ?_
    show Goes p e below s _ _ _ (T62.setTop (mkF m 150 #[.val (.long qa), .second, .val (.long qb), .second, .val (.long qc), .second, .val (.long qd), .second, .val (.int md), .val (.long t1), .second, .val (.long t2), .second, .val (.long t3), .second, .val (.long t4), .second, .val (.long (2000000 : Int64)), .second, .val (.int vm), .val (.ref b54), .val (.int (1 : Int32)), .val (.int (own_bI false)), .val (.int (own_bI false)), .val (.int (own_bI false)), .unset, .unset, .unset, .unset, .unset, .unset, .unset] [(.int (1 : Int32))]))
    refine Goes.st (fun t_ k_ => XS.ifNo X62.here hx rfl (hb hby at_150) rfl ((if0 _ _).trans (feq (by decide)).1) k_) ?_
    show Goes p e below s _ _ _ (T62.setTop (mkF m 153 #[.val (.long qa), .second, .val (.long qb), .second, .val (.long qc), .second, .val (.long qd), .second, .val (.int md), .val (.long t1), .second, .val (.long t2), .second, .val (.long t3), .second, .val (.long t4), .second, .val (.long (2000000 : Int64)), .second, .val (.int vm), .val (.ref b54), .val (.int (1 : Int32)), .val (.int (own_bI false)), .val (.int (own_bI false)), .val (.int (own_bI false)), .unset, .unset, .unset, .unset, .unset, .unset, .unset] []))
    refine Goes.st (fun t_ k_ => XS.iload X62.here hx rfl (hb hby at_153) rfl  k_) ?_
    show Goes p e below s _ _ _ (T62.setTop (mkF m 155 #[.val (.long qa), .second, .val (.long qb), .second, .val (.long qc), .second, .val (.long qd), .second, .val (.int md), .val (.long t1), .second, .val (.long t2), .second, .val (.long t3), .second, .val (.long t4), .second, .val (.long (2000000 : Int64)), .second, .val (.int vm), .val (.ref b54), .val (.int (1 : Int32)), .val (.int (own_bI false)), .val (.int (own_bI false)), .val (.int (own_bI false)), .unset, .unset, .unset, .unset, .unset, .unset, .unset] [(.int (own_bI false))]))
    refine Goes.st (fun t_ k_ => XS.ifNo X62.here hx rfl (hb hby at_155) rfl ((if0 _ _).trans (teq (by decide)).2) k_) ?_
    show Goes p e below s _ _ _ (T62.setTop (mkF m 158 #[.val (.long qa), .second, .val (.long qb), .second, .val (.long qc), .second, .val (.long qd), .second, .val (.int md), .val (.long t1), .second, .val (.long t2), .second, .val (.long t3), .second, .val (.long t4), .second, .val (.long (2000000 : Int64)), .second, .val (.int vm), .val (.ref b54), .val (.int (1 : Int32)), .val (.int (own_bI false)), .val (.int (own_bI false)), .val (.int (own_bI false)), .unset, .unset, .unset, .unset, .unset, .unset, .unset] []))
    refine Goes.st (fun t_ k_ => XS.iconst X62.here hx rfl (hb hby at_158) k_) ?_
    show Goes p e below s _ _ _ (T62.setTop (mkF m 159 #[.val (.long qa), .second, .val (.long qb), .second, .val (.long qc), .second, .val (.long qd), .second, .val (.int md), .val (.long t1), .second, .val (.long t2), .second, .val (.long t3), .second, .val (.long t4), .second, .val (.long (2000000 : Int64)), .second, .val (.int vm), .val (.ref b54), .val (.int (1 : Int32)), .val (.int (own_bI false)), .val (.int (own_bI false)), .val (.int (own_bI false)), .unset, .unset, .unset, .unset, .unset, .unset, .unset] [(.int (1 : Int32))]))
    refine Goes.st (fun t_ k_ => XS.goto X62.here hx rfl (pc0 := 159) (pc' := 163) rfl (hb hby at_159) (by decide) (by decide) k_) ?_
    show Goes p e below s _ _ _ (T62.setTop (mkF m 163 #[.val (.long qa), .second, .val (.long qb), .second, .val (.long qc), .second, .val (.long qd), .second, .val (.int md), .val (.long t1), .second, .val (.long t2), .second, .val (.long t3), .second, .val (.long t4), .second, .val (.long (2000000 : Int64)), .second, .val (.int vm), .val (.ref b54), .val (.int (1 : Int32)), .val (.int (own_bI false)), .val (.int (own_bI false)), .val (.int (own_bI false)), .unset, .unset, .unset, .unset, .unset, .unset, .unset] [(.int (1 : Int32))]))
    exact Goes.retN X62 hx (t := .boolean) hret hlk (by simp) (hb hby at_163) (by decide) (by decide) (⟨rfl, N62⟩)
  · refine Goes.st (fun t_ k_ => XS.ifYes X60.here hx rfl (pc0 := 131) (pc' := 164) rfl (hb hby at_131) rfl ((if0 _ _).trans (feq hv0).2) (by decide) (by decide) k_) ?_
    show Goes p e below s _ _ _ (T60.setTop (mkF m 164 #[.val (.long qa), .second, .val (.long qb), .second, .val (.long qc), .second, .val (.long qd), .second, .val (.int md), .val (.long t1), .second, .val (.long t2), .second, .val (.long t3), .second, .val (.long t4), .second, .val (.long (2000000 : Int64)), .second, .val (.int vm), .val (.ref b54), .val (.int (1 : Int32)), .val (.int (own_bI false)), .val (.int (own_bI false)), .unset, .unset, .unset, .unset, .unset, .unset, .unset, .unset] []))
    refine Goes.st (fun t_ k_ => XS.aload X60.here hx rfl (hb hby at_164) rfl rfl k_) ?_
    show Goes p e below s _ _ _ (T60.setTop (mkF m 166 #[.val (.long qa), .second, .val (.long qb), .second, .val (.long qc), .second, .val (.long qd), .second, .val (.int md), .val (.long t1), .second, .val (.long t2), .second, .val (.long t3), .second, .val (.long t4), .second, .val (.long (2000000 : Int64)), .second, .val (.int vm), .val (.ref b54), .val (.int (1 : Int32)), .val (.int (own_bI false)), .val (.int (own_bI false)), .unset, .unset, .unset, .unset, .unset, .unset, .unset, .unset] [(.ref b54)]))
    refine Goes.st (fun t_ k_ => XS.lload X60.here hx rfl (hb hby at_166) rfl  k_) ?_
    show Goes p e below s _ _ _ (T60.setTop (mkF m 168 #[.val (.long qa), .second, .val (.long qb), .second, .val (.long qc), .second, .val (.long qd), .second, .val (.int md), .val (.long t1), .second, .val (.long t2), .second, .val (.long t3), .second, .val (.long t4), .second, .val (.long (2000000 : Int64)), .second, .val (.int vm), .val (.ref b54), .val (.int (1 : Int32)), .val (.int (own_bI false)), .val (.int (own_bI false)), .unset, .unset, .unset, .unset, .unset, .unset, .unset, .unset] [(.long t3), (.ref b54)]))
    obtain ⟨cq63, kq63, q63a, q63b, q63c⟩ := isOf hZ EQ3 E_b54
    obtain ⟨_, _, ⟨T63, L63, k63, n63⟩, -, X63, ⟨Lc63, hQ63, l63, y63, z63⟩, st63⟩ := X60.virtualBack hx (y := (⟨"com/example/delaunet/delaunet/core/sim/Pace", "start", "(J)Z"⟩ : MethodName)) (z := (⟨"com/example/delaunet/delaunet/core/sim/Pace", "start", "(J)Z"⟩ : MethodName)) hown (mvT hZ (hw _ (List.mem_of_getElem? (i := 28) rfl))) (mvT hZ (hw _ (List.mem_of_getElem? (i := 29) rfl))) (notFace_of_selects (args := #[]) (mvT hZ (hw _ (List.mem_of_getElem? (i := 31) rfl)))) (mvT hZ (hw _ (List.mem_of_getElem? (i := 31) rfl))) (mvT hZ (hw _ (List.mem_of_getElem? (i := 30) rfl))) (by decide) (backOf (W := 0) (own_rmS l Z a0 hw [] b54 t3 ah 2 0 t2 (0 + (t3 - t2)) T59.heap n0 Z0'''' HP (own_dS (by decide) (by decide)) (by simp [own_sp, hb_t2]) gn_b54) hZ (hw _ (List.mem_of_getElem? (i := 32) rfl)) (hw _ (List.mem_of_getElem? (i := 4) rfl)) (by decide) (by decide)) q63a q63c (g := (mkF m 168 #[.val (.long qa), .second, .val (.long qb), .second, .val (.long qc), .second, .val (.long qd), .second, .val (.int md), .val (.long t1), .second, .val (.long t2), .second, .val (.long t3), .second, .val (.long t4), .second, .val (.long (2000000 : Int64)), .second, .val (.int vm), .val (.ref b54), .val (.int (1 : Int32)), .val (.int (own_bI false)), .val (.int (own_bI false)), .unset, .unset, .unset, .unset, .unset, .unset, .unset, .unset] [(.long t3), (.ref b54)])) rfl (by rw [hml]; rfl) (Steps.refl _) (argsL := [(.long t3)]) (rest := []) (lenOf own_pd145 rfl) rfl (by show 2 * 0 + _ ≤ _; exact Nat.le_of_eq rfl) (hb hby at_168) (fun _ _ => ⟨rfl, EQ3, (by decide : 3 + 0 ≤ _), (by decide : 21 + 0 ≤ _)⟩)
    dsimp only [Pt.U, Pt.locs, Pt.cells, Pt.slots] at X63 l63 y63 z63 st63 hQ63
    subst l63 y63 z63
    obtain ⟨rfl, N63q, KS, HP⟩ := hQ63
    have N63 := Fr.app N60 N63q
    refine Goes.tr st63 ?_
    have V_ah := V_ah.keep KS (ninS (Ne.symm nah) nin0)
    have Z0''''' := Nat.le_trans Z0'''' KS.1
    have HP : own_P Z _ b54 ah 3 (0 + (t3 - t2)) t3 := HP
    have HP' := HP
    obtain ⟨E_b54, Fs_b54, Fa_b54, Fd_b54, Fp_b54, Fi_b54, Fh_b54, Ft_b54, Fr_b54⟩ := HP'
    show Goes p e below s _ _ _ (T63.setTop (mkF m 171 #[.val (.long qa), .second, .val (.long qb), .second, .val (.long qc), .second, .val (.long qd), .second, .val (.int md), .val (.long t1), .second, .val (.long t2), .second, .val (.long t3), .second, .val (.long t4), .second, .val (.long (2000000 : Int64)), .second, .val (.int vm), .val (.ref b54), .val (.int (1 : Int32)), .val (.int (own_bI false)), .val (.int (own_bI false)), .unset, .unset, .unset, .unset, .unset, .unset, .unset, .unset] [(.int (0 : Int32))]))
    refine Goes.st (fun t_ k_ => XS.pop X63.here hx rfl (hb hby at_171) rfl rfl k_) ?_
    show Goes p e below s _ _ _ (T63.setTop (mkF m 172 #[.val (.long qa), .second, .val (.long qb), .second, .val (.long qc), .second, .val (.long qd), .second, .val (.int md), .val (.long t1), .second, .val (.long t2), .second, .val (.long t3), .second, .val (.long t4), .second, .val (.long (2000000 : Int64)), .second, .val (.int vm), .val (.ref b54), .val (.int (1 : Int32)), .val (.int (own_bI false)), .val (.int (own_bI false)), .unset, .unset, .unset, .unset, .unset, .unset, .unset, .unset] []))
    refine Goes.st (fun t_ k_ => XS.lload X63.here hx rfl (hb hby at_172) rfl  k_) ?_
    show Goes p e below s _ _ _ (T63.setTop (mkF m 174 #[.val (.long qa), .second, .val (.long qb), .second, .val (.long qc), .second, .val (.long qd), .second, .val (.int md), .val (.long t1), .second, .val (.long t2), .second, .val (.long t3), .second, .val (.long t4), .second, .val (.long (2000000 : Int64)), .second, .val (.int vm), .val (.ref b54), .val (.int (1 : Int32)), .val (.int (own_bI false)), .val (.int (own_bI false)), .unset, .unset, .unset, .unset, .unset, .unset, .unset, .unset] [(.long t3)]))
    refine Goes.st (fun t_ k_ => XS.lload X63.here hx rfl (hb hby at_174) rfl  k_) ?_
    show Goes p e below s _ _ _ (T63.setTop (mkF m 176 #[.val (.long qa), .second, .val (.long qb), .second, .val (.long qc), .second, .val (.long qd), .second, .val (.int md), .val (.long t1), .second, .val (.long t2), .second, .val (.long t3), .second, .val (.long t4), .second, .val (.long (2000000 : Int64)), .second, .val (.int vm), .val (.ref b54), .val (.int (1 : Int32)), .val (.int (own_bI false)), .val (.int (own_bI false)), .unset, .unset, .unset, .unset, .unset, .unset, .unset, .unset] [(.long t2), (.long t3)]))
    refine Goes.st (fun t_ k_ => XS.lsub X63.here hx rfl (hb hby at_176) rfl k_) ?_
    show Goes p e below s _ _ _ (T63.setTop (mkF m 177 #[.val (.long qa), .second, .val (.long qb), .second, .val (.long qc), .second, .val (.long qd), .second, .val (.int md), .val (.long t1), .second, .val (.long t2), .second, .val (.long t3), .second, .val (.long t4), .second, .val (.long (2000000 : Int64)), .second, .val (.int vm), .val (.ref b54), .val (.int (1 : Int32)), .val (.int (own_bI false)), .val (.int (own_bI false)), .unset, .unset, .unset, .unset, .unset, .unset, .unset, .unset] [(.long (t3 - t2))]))
    refine Goes.st (fun t_ k_ => XS.lstore X63.here hx rfl (hb hby at_177) rfl  (l' := #[.val (.long qa), .second, .val (.long qb), .second, .val (.long qc), .second, .val (.long qd), .second, .val (.int md), .val (.long t1), .second, .val (.long t2), .second, .val (.long t3), .second, .val (.long t4), .second, .val (.long (2000000 : Int64)), .second, .val (.int vm), .val (.ref b54), .val (.int (1 : Int32)), .val (.int (own_bI false)), .val (.int (own_bI false)), .val (.long (t3 - t2)), .second, .unset, .unset, .unset, .unset, .unset, .unset]) rfl k_) ?_
    show Goes p e below s _ _ _ (T63.setTop (mkF m 179 #[.val (.long qa), .second, .val (.long qb), .second, .val (.long qc), .second, .val (.long qd), .second, .val (.int md), .val (.long t1), .second, .val (.long t2), .second, .val (.long t3), .second, .val (.long t4), .second, .val (.long (2000000 : Int64)), .second, .val (.int vm), .val (.ref b54), .val (.int (1 : Int32)), .val (.int (own_bI false)), .val (.int (own_bI false)), .val (.long (t3 - t2)), .second, .unset, .unset, .unset, .unset, .unset, .unset] []))
    refine Goes.st (fun t_ k_ => XS.lload X63.here hx rfl (hb hby at_179) rfl  k_) ?_
    show Goes p e below s _ _ _ (T63.setTop (mkF m 181 #[.val (.long qa), .second, .val (.long qb), .second, .val (.long qc), .second, .val (.long qd), .second, .val (.int md), .val (.long t1), .second, .val (.long t2), .second, .val (.long t3), .second, .val (.long t4), .second, .val (.long (2000000 : Int64)), .second, .val (.int vm), .val (.ref b54), .val (.int (1 : Int32)), .val (.int (own_bI false)), .val (.int (own_bI false)), .val (.long (t3 - t2)), .second, .unset, .unset, .unset, .unset, .unset, .unset] [(.long (t3 - t2))]))
    refine Goes.st (fun t_ k_ => XS.lload X63.here hx rfl (hb hby at_181) rfl  k_) ?_
    show Goes p e below s _ _ _ (T63.setTop (mkF m 183 #[.val (.long qa), .second, .val (.long qb), .second, .val (.long qc), .second, .val (.long qd), .second, .val (.int md), .val (.long t1), .second, .val (.long t2), .second, .val (.long t3), .second, .val (.long t4), .second, .val (.long (2000000 : Int64)), .second, .val (.int vm), .val (.ref b54), .val (.int (1 : Int32)), .val (.int (own_bI false)), .val (.int (own_bI false)), .val (.long (t3 - t2)), .second, .unset, .unset, .unset, .unset, .unset, .unset] [(.long (2000000 : Int64)), (.long (t3 - t2))]))
    refine Goes.st (fun t_ k_ => XS.lcmp X63.here hx rfl (hb hby at_183) rfl k_) ?_
    show Goes p e below s _ _ _ (T63.setTop (mkF m 184 #[.val (.long qa), .second, .val (.long qb), .second, .val (.long qc), .second, .val (.long qd), .second, .val (.int md), .val (.long t1), .second, .val (.long t2), .second, .val (.long t3), .second, .val (.long t4), .second, .val (.long (2000000 : Int64)), .second, .val (.int vm), .val (.ref b54), .val (.int (1 : Int32)), .val (.int (own_bI false)), .val (.int (own_bI false)), .val (.long (t3 - t2)), .second, .unset, .unset, .unset, .unset, .unset, .unset] [(.int (lcmpW (t3 - t2) (2000000 : Int64)))]))
    by_cases hc3 : (t3 - t2) < (2000000 : Int64)
    · refine Goes.st (fun t_ k_ => XS.ifYes X63.here hx rfl (pc0 := 184) (pc' := 191) rfl (hb hby at_184) rfl ((if0 _ _).trans (tlt ((lw_lt _ _).mpr hc3)).1) (by decide) (by decide) k_) ?_
      have hs3 : (0 + (t3 - t2)) < 2000000 := by simpa using hc3
      show Goes p e below s _ _ _ (T63.setTop (mkF m 191 #[.val (.long qa), .second, .val (.long qb), .second, .val (.long qc), .second, .val (.long qd), .second, .val (.int md), .val (.long t1), .second, .val (.long t2), .second, .val (.long t3), .second, .val (.long t4), .second, .val (.long (2000000 : Int64)), .second, .val (.int vm), .val (.ref b54), .val (.int (1 : Int32)), .val (.int (own_bI false)), .val (.int (own_bI false)), .val (.long (t3 - t2)), .second, .unset, .unset, .unset, .unset, .unset, .unset] []))
      refine Goes.st (fun t_ k_ => XS.iconst X63.here hx rfl (hb hby at_191) k_) ?_
      show Goes p e below s _ _ _ (T63.setTop (mkF m 192 #[.val (.long qa), .second, .val (.long qb), .second, .val (.long qc), .second, .val (.long qd), .second, .val (.int md), .val (.long t1), .second, .val (.long t2), .second, .val (.long t3), .second, .val (.long t4), .second, .val (.long (2000000 : Int64)), .second, .val (.int vm), .val (.ref b54), .val (.int (1 : Int32)), .val (.int (own_bI false)), .val (.int (own_bI false)), .val (.long (t3 - t2)), .second, .unset, .unset, .unset, .unset, .unset, .unset] [(.int (0 : Int32))]))
      refine Goes.st (fun t_ k_ => XS.istore X63.here hx rfl (hb hby at_192) rfl  (l' := #[.val (.long qa), .second, .val (.long qb), .second, .val (.long qc), .second, .val (.long qd), .second, .val (.int md), .val (.long t1), .second, .val (.long t2), .second, .val (.long t3), .second, .val (.long t4), .second, .val (.long (2000000 : Int64)), .second, .val (.int vm), .val (.ref b54), .val (.int (1 : Int32)), .val (.int (own_bI false)), .val (.int (own_bI false)), .val (.long (t3 - t2)), .second, .val (.int (0 : Int32)), .unset, .unset, .unset, .unset, .unset]) rfl k_) ?_
      show Goes p e below s _ _ _ (T63.setTop (mkF m 194 #[.val (.long qa), .second, .val (.long qb), .second, .val (.long qc), .second, .val (.long qd), .second, .val (.int md), .val (.long t1), .second, .val (.long t2), .second, .val (.long t3), .second, .val (.long t4), .second, .val (.long (2000000 : Int64)), .second, .val (.int vm), .val (.ref b54), .val (.int (1 : Int32)), .val (.int (own_bI false)), .val (.int (own_bI false)), .val (.long (t3 - t2)), .second, .val (.int (0 : Int32)), .unset, .unset, .unset, .unset, .unset] []))
      refine Goes.st (fun t_ k_ => XS.aload X63.here hx rfl (hb hby at_194) rfl rfl k_) ?_
      show Goes p e below s _ _ _ (T63.setTop (mkF m 196 #[.val (.long qa), .second, .val (.long qb), .second, .val (.long qc), .second, .val (.long qd), .second, .val (.int md), .val (.long t1), .second, .val (.long t2), .second, .val (.long t3), .second, .val (.long t4), .second, .val (.long (2000000 : Int64)), .second, .val (.int vm), .val (.ref b54), .val (.int (1 : Int32)), .val (.int (own_bI false)), .val (.int (own_bI false)), .val (.long (t3 - t2)), .second, .val (.int (0 : Int32)), .unset, .unset, .unset, .unset, .unset] [(.ref b54)]))
      obtain ⟨cq64, kq64, q64a, q64b, q64c⟩ := isOf hZ rfl E_b54
      obtain ⟨_, _, ⟨T64, L64, k64, n64⟩, -, X64, ⟨Lc64, hQ64, l64, y64, z64⟩, st64⟩ := X63.virtualBack hx (y := (⟨"com/example/delaunet/delaunet/core/sim/Pace", "complete", "()Z"⟩ : MethodName)) (z := (⟨"com/example/delaunet/delaunet/core/sim/Pace", "complete", "()Z"⟩ : MethodName)) hown (mvT hZ (hw _ (List.mem_of_getElem? (i := 19) rfl))) (mvT hZ (hw _ (List.mem_of_getElem? (i := 20) rfl))) (notFace_of_selects (args := #[]) (mvT hZ (hw _ (List.mem_of_getElem? (i := 22) rfl)))) (mvT hZ (hw _ (List.mem_of_getElem? (i := 22) rfl))) (mvT hZ (hw _ (List.mem_of_getElem? (i := 21) rfl))) (by decide) (backOf (W := 0) (own_rmC l Z a0 hw [] b54 3 (0 + (t3 - t2)) false T63.heap n0 Z0''''' Fs_b54 Fd_b54 Fp_b54 (by exact own_dN (by decide) hs3)) hZ (hw _ (List.mem_of_getElem? (i := 23) rfl)) (hw _ (List.mem_of_getElem? (i := 4) rfl)) (by decide) (by decide)) q64a q64c (g := (mkF m 196 #[.val (.long qa), .second, .val (.long qb), .second, .val (.long qc), .second, .val (.long qd), .second, .val (.int md), .val (.long t1), .second, .val (.long t2), .second, .val (.long t3), .second, .val (.long t4), .second, .val (.long (2000000 : Int64)), .second, .val (.int vm), .val (.ref b54), .val (.int (1 : Int32)), .val (.int (own_bI false)), .val (.int (own_bI false)), .val (.long (t3 - t2)), .second, .val (.int (0 : Int32)), .unset, .unset, .unset, .unset, .unset] [(.ref b54)])) rfl (by rw [hml]; rfl) (Steps.refl _) (argsL := []) (rest := []) (lenOf own_pd60 rfl) rfl (by show 2 * 0 + _ ≤ _; exact Nat.le_of_eq rfl) (hb hby at_196) (fun _ _ => ⟨rfl, rfl, (by decide : 3 + 0 ≤ _), (by decide : 21 + 0 ≤ _)⟩)
      dsimp only [Pt.U, Pt.locs, Pt.cells, Pt.slots] at X64 l64 y64 z64 st64 hQ64
      subst l64 y64 z64
      obtain ⟨rfl, N64q, EQ5⟩ := hQ64
      have N64 := Fr.app N63 N64q
      refine Goes.tr st64 ?_
      show Goes p e below s _ _ _ (T64.setTop (mkF m 199 #[.val (.long qa), .second, .val (.long qb), .second, .val (.long qc), .second, .val (.long qd), .second, .val (.int md), .val (.long t1), .second, .val (.long t2), .second, .val (.long t3), .second, .val (.long t4), .second, .val (.long (2000000 : Int64)), .second, .val (.int vm), .val (.ref b54), .val (.int (1 : Int32)), .val (.int (own_bI false)), .val (.int (own_bI false)), .val (.long (t3 - t2)), .second, .val (.int (0 : Int32)), .unset, .unset, .unset, .unset, .unset] [(.int (own_bI false))]))
      refine Goes.st (fun t_ k_ => XS.istore X64.here hx rfl (hb hby at_199) rfl  (l' := #[.val (.long qa), .second, .val (.long qb), .second, .val (.long qc), .second, .val (.long qd), .second, .val (.int md), .val (.long t1), .second, .val (.long t2), .second, .val (.long t3), .second, .val (.long t4), .second, .val (.long (2000000 : Int64)), .second, .val (.int vm), .val (.ref b54), .val (.int (1 : Int32)), .val (.int (own_bI false)), .val (.int (own_bI false)), .val (.long (t3 - t2)), .second, .val (.int (0 : Int32)), .val (.int (own_bI false)), .unset, .unset, .unset, .unset]) rfl k_) ?_
      show Goes p e below s _ _ _ (T64.setTop (mkF m 201 #[.val (.long qa), .second, .val (.long qb), .second, .val (.long qc), .second, .val (.long qd), .second, .val (.int md), .val (.long t1), .second, .val (.long t2), .second, .val (.long t3), .second, .val (.long t4), .second, .val (.long (2000000 : Int64)), .second, .val (.int vm), .val (.ref b54), .val (.int (1 : Int32)), .val (.int (own_bI false)), .val (.int (own_bI false)), .val (.long (t3 - t2)), .second, .val (.int (0 : Int32)), .val (.int (own_bI false)), .unset, .unset, .unset, .unset] []))
      refine Goes.st (fun t_ k_ => XS.iload X64.here hx rfl (hb hby at_201) rfl  k_) ?_
      show Goes p e below s _ _ _ (T64.setTop (mkF m 203 #[.val (.long qa), .second, .val (.long qb), .second, .val (.long qc), .second, .val (.long qd), .second, .val (.int md), .val (.long t1), .second, .val (.long t2), .second, .val (.long t3), .second, .val (.long t4), .second, .val (.long (2000000 : Int64)), .second, .val (.int vm), .val (.ref b54), .val (.int (1 : Int32)), .val (.int (own_bI false)), .val (.int (own_bI false)), .val (.long (t3 - t2)), .second, .val (.int (0 : Int32)), .val (.int (own_bI false)), .unset, .unset, .unset, .unset] [(.int (1 : Int32))]))
      refine Goes.st (fun t_ k_ => XS.ifNo X64.here hx rfl (hb hby at_203) rfl ((if0 _ _).trans (feq (by decide)).1) k_) ?_
      show Goes p e below s _ _ _ (T64.setTop (mkF m 206 #[.val (.long qa), .second, .val (.long qb), .second, .val (.long qc), .second, .val (.long qd), .second, .val (.int md), .val (.long t1), .second, .val (.long t2), .second, .val (.long t3), .second, .val (.long t4), .second, .val (.long (2000000 : Int64)), .second, .val (.int vm), .val (.ref b54), .val (.int (1 : Int32)), .val (.int (own_bI false)), .val (.int (own_bI false)), .val (.long (t3 - t2)), .second, .val (.int (0 : Int32)), .val (.int (own_bI false)), .unset, .unset, .unset, .unset] []))
      refine Goes.st (fun t_ k_ => XS.iload X64.here hx rfl (hb hby at_206) rfl  k_) ?_
      show Goes p e below s _ _ _ (T64.setTop (mkF m 208 #[.val (.long qa), .second, .val (.long qb), .second, .val (.long qc), .second, .val (.long qd), .second, .val (.int md), .val (.long t1), .second, .val (.long t2), .second, .val (.long t3), .second, .val (.long t4), .second, .val (.long (2000000 : Int64)), .second, .val (.int vm), .val (.ref b54), .val (.int (1 : Int32)), .val (.int (own_bI false)), .val (.int (own_bI false)), .val (.long (t3 - t2)), .second, .val (.int (0 : Int32)), .val (.int (own_bI false)), .unset, .unset, .unset, .unset] [(.int (own_bI false))]))
      refine Goes.st (fun t_ k_ => XS.iload X64.here hx rfl (hb hby at_208) rfl  k_) ?_
      show Goes p e below s _ _ _ (T64.setTop (mkF m 210 #[.val (.long qa), .second, .val (.long qb), .second, .val (.long qc), .second, .val (.long qd), .second, .val (.int md), .val (.long t1), .second, .val (.long t2), .second, .val (.long t3), .second, .val (.long t4), .second, .val (.long (2000000 : Int64)), .second, .val (.int vm), .val (.ref b54), .val (.int (1 : Int32)), .val (.int (own_bI false)), .val (.int (own_bI false)), .val (.long (t3 - t2)), .second, .val (.int (0 : Int32)), .val (.int (own_bI false)), .unset, .unset, .unset, .unset] [(.int (0 : Int32)), (.int (own_bI false))]))
      refine Goes.st (fun t_ k_ => XS.icmpNo X64.here hx rfl (hb hby at_210) rfl (teq (rfl : own_bI false = 0)).2 k_) ?_
      show Goes p e below s _ _ _ (T64.setTop (mkF m 213 #[.val (.long qa), .second, .val (.long qb), .second, .val (.long qc), .second, .val (.long qd), .second, .val (.int md), .val (.long t1), .second, .val (.long t2), .second, .val (.long t3), .second, .val (.long t4), .second, .val (.long (2000000 : Int64)), .second, .val (.int vm), .val (.ref b54), .val (.int (1 : Int32)), .val (.int (own_bI false)), .val (.int (own_bI false)), .val (.long (t3 - t2)), .second, .val (.int (0 : Int32)), .val (.int (own_bI false)), .unset, .unset, .unset, .unset] []))
      refine Goes.st (fun t_ k_ => XS.iconst X64.here hx rfl (hb hby at_213) k_) ?_
      show Goes p e below s _ _ _ (T64.setTop (mkF m 214 #[.val (.long qa), .second, .val (.long qb), .second, .val (.long qc), .second, .val (.long qd), .second, .val (.int md), .val (.long t1), .second, .val (.long t2), .second, .val (.long t3), .second, .val (.long t4), .second, .val (.long (2000000 : Int64)), .second, .val (.int vm), .val (.ref b54), .val (.int (1 : Int32)), .val (.int (own_bI false)), .val (.int (own_bI false)), .val (.long (t3 - t2)), .second, .val (.int (0 : Int32)), .val (.int (own_bI false)), .unset, .unset, .unset, .unset] [(.int (1 : Int32))]))
      refine Goes.st (fun t_ k_ => XS.goto X64.here hx rfl (pc0 := 214) (pc' := 218) rfl (hb hby at_214) (by decide) (by decide) k_) ?_
      show Goes p e below s _ _ _ (T64.setTop (mkF m 218 #[.val (.long qa), .second, .val (.long qb), .second, .val (.long qc), .second, .val (.long qd), .second, .val (.int md), .val (.long t1), .second, .val (.long t2), .second, .val (.long t3), .second, .val (.long t4), .second, .val (.long (2000000 : Int64)), .second, .val (.int vm), .val (.ref b54), .val (.int (1 : Int32)), .val (.int (own_bI false)), .val (.int (own_bI false)), .val (.long (t3 - t2)), .second, .val (.int (0 : Int32)), .val (.int (own_bI false)), .unset, .unset, .unset, .unset] [(.int (1 : Int32))]))
      refine Goes.st (fun t_ k_ => XS.istore X64.here hx rfl (hb hby at_218) rfl  (l' := #[.val (.long qa), .second, .val (.long qb), .second, .val (.long qc), .second, .val (.long qd), .second, .val (.int md), .val (.long t1), .second, .val (.long t2), .second, .val (.long t3), .second, .val (.long t4), .second, .val (.long (2000000 : Int64)), .second, .val (.int vm), .val (.ref b54), .val (.int (1 : Int32)), .val (.int (own_bI false)), .val (.int (own_bI false)), .val (.long (t3 - t2)), .second, .val (.int (0 : Int32)), .val (.int (own_bI false)), .unset, .unset, .unset, .unset]) rfl k_) ?_
      show Goes p e below s _ _ _ (T64.setTop (mkF m 220 #[.val (.long qa), .second, .val (.long qb), .second, .val (.long qc), .second, .val (.long qd), .second, .val (.int md), .val (.long t1), .second, .val (.long t2), .second, .val (.long t3), .second, .val (.long t4), .second, .val (.long (2000000 : Int64)), .second, .val (.int vm), .val (.ref b54), .val (.int (1 : Int32)), .val (.int (own_bI false)), .val (.int (own_bI false)), .val (.long (t3 - t2)), .second, .val (.int (0 : Int32)), .val (.int (own_bI false)), .unset, .unset, .unset, .unset] []))
      refine Goes.st (fun t_ k_ => XS.iload X64.here hx rfl (hb hby at_220) rfl  k_) ?_
      show Goes p e below s _ _ _ (T64.setTop (mkF m 222 #[.val (.long qa), .second, .val (.long qb), .second, .val (.long qc), .second, .val (.long qd), .second, .val (.int md), .val (.long t1), .second, .val (.long t2), .second, .val (.long t3), .second, .val (.long t4), .second, .val (.long (2000000 : Int64)), .second, .val (.int vm), .val (.ref b54), .val (.int (1 : Int32)), .val (.int (own_bI false)), .val (.int (own_bI false)), .val (.long (t3 - t2)), .second, .val (.int (0 : Int32)), .val (.int (own_bI false)), .unset, .unset, .unset, .unset] [(.int vm)]))
      refine Goes.st (fun t_ k_ => XS.iconst X64.here hx rfl (hb hby at_222) k_) ?_
      show Goes p e below s _ _ _ (T64.setTop (mkF m 223 #[.val (.long qa), .second, .val (.long qb), .second, .val (.long qc), .second, .val (.long qd), .second, .val (.int md), .val (.long t1), .second, .val (.long t2), .second, .val (.long t3), .second, .val (.long t4), .second, .val (.long (2000000 : Int64)), .second, .val (.int vm), .val (.ref b54), .val (.int (1 : Int32)), .val (.int (own_bI false)), .val (.int (own_bI false)), .val (.long (t3 - t2)), .second, .val (.int (0 : Int32)), .val (.int (own_bI false)), .unset, .unset, .unset, .unset] [(.int (1 : Int32)), (.int vm)]))
      by_cases hv1 : vm = (1 : Int32)
      · refine Goes.st (fun t_ k_ => XS.icmpNo X64.here hx rfl (hb hby at_223) rfl (teq hv1).2 k_) ?_
        show Goes p e below s _ _ _ (T64.setTop (mkF m 226 #[.val (.long qa), .second, .val (.long qb), .second, .val (.long qc), .second, .val (.long qd), .second, .val (.int md), .val (.long t1), .second, .val (.long t2), .second, .val (.long t3), .second, .val (.long t4), .second, .val (.long (2000000 : Int64)), .second, .val (.int vm), .val (.ref b54), .val (.int (1 : Int32)), .val (.int (own_bI false)), .val (.int (own_bI false)), .val (.long (t3 - t2)), .second, .val (.int (0 : Int32)), .val (.int (own_bI false)), .unset, .unset, .unset, .unset] []))
        refine Goes.st (fun t_ k_ => XS.iload X64.here hx rfl (hb hby at_226) rfl  k_) ?_
        show Goes p e below s _ _ _ (T64.setTop (mkF m 228 #[.val (.long qa), .second, .val (.long qb), .second, .val (.long qc), .second, .val (.long qd), .second, .val (.int md), .val (.long t1), .second, .val (.long t2), .second, .val (.long t3), .second, .val (.long t4), .second, .val (.long (2000000 : Int64)), .second, .val (.int vm), .val (.ref b54), .val (.int (1 : Int32)), .val (.int (own_bI false)), .val (.int (own_bI false)), .val (.long (t3 - t2)), .second, .val (.int (0 : Int32)), .val (.int (own_bI false)), .unset, .unset, .unset, .unset] [(.int (1 : Int32))]))
        exact Goes.retN X64 hx (t := .boolean) hret hlk (by simp) (hb hby at_228) (by decide) (by decide) (⟨rfl, N64⟩)
      · refine Goes.st (fun t_ k_ => XS.icmpYes X64.here hx rfl (pc0 := 223) (pc' := 229) rfl (hb hby at_223) rfl (feq hv1).2 (by decide) (by decide) k_) ?_
        show Goes p e below s _ _ _ (T64.setTop (mkF m 229 #[.val (.long qa), .second, .val (.long qb), .second, .val (.long qc), .second, .val (.long qd), .second, .val (.int md), .val (.long t1), .second, .val (.long t2), .second, .val (.long t3), .second, .val (.long t4), .second, .val (.long (2000000 : Int64)), .second, .val (.int vm), .val (.ref b54), .val (.int (1 : Int32)), .val (.int (own_bI false)), .val (.int (own_bI false)), .val (.long (t3 - t2)), .second, .val (.int (0 : Int32)), .val (.int (own_bI false)), .unset, .unset, .unset, .unset] []))
        refine Goes.st (fun t_ k_ => XS.lload X64.here hx rfl (hb hby at_229) rfl  k_) ?_
        show Goes p e below s _ _ _ (T64.setTop (mkF m 231 #[.val (.long qa), .second, .val (.long qb), .second, .val (.long qc), .second, .val (.long qd), .second, .val (.int md), .val (.long t1), .second, .val (.long t2), .second, .val (.long t3), .second, .val (.long t4), .second, .val (.long (2000000 : Int64)), .second, .val (.int vm), .val (.ref b54), .val (.int (1 : Int32)), .val (.int (own_bI false)), .val (.int (own_bI false)), .val (.long (t3 - t2)), .second, .val (.int (0 : Int32)), .val (.int (own_bI false)), .unset, .unset, .unset, .unset] [(.long (t3 - t2))]))
        refine Goes.st (fun t_ k_ => XS.lload X64.here hx rfl (hb hby at_231) rfl  k_) ?_
        show Goes p e below s _ _ _ (T64.setTop (mkF m 233 #[.val (.long qa), .second, .val (.long qb), .second, .val (.long qc), .second, .val (.long qd), .second, .val (.int md), .val (.long t1), .second, .val (.long t2), .second, .val (.long t3), .second, .val (.long t4), .second, .val (.long (2000000 : Int64)), .second, .val (.int vm), .val (.ref b54), .val (.int (1 : Int32)), .val (.int (own_bI false)), .val (.int (own_bI false)), .val (.long (t3 - t2)), .second, .val (.int (0 : Int32)), .val (.int (own_bI false)), .unset, .unset, .unset, .unset] [(.long t4), (.long (t3 - t2))]))
        refine Goes.st (fun t_ k_ => XS.lload X64.here hx rfl (hb hby at_233) rfl  k_) ?_
        show Goes p e below s _ _ _ (T64.setTop (mkF m 235 #[.val (.long qa), .second, .val (.long qb), .second, .val (.long qc), .second, .val (.long qd), .second, .val (.int md), .val (.long t1), .second, .val (.long t2), .second, .val (.long t3), .second, .val (.long t4), .second, .val (.long (2000000 : Int64)), .second, .val (.int vm), .val (.ref b54), .val (.int (1 : Int32)), .val (.int (own_bI false)), .val (.int (own_bI false)), .val (.long (t3 - t2)), .second, .val (.int (0 : Int32)), .val (.int (own_bI false)), .unset, .unset, .unset, .unset] [(.long t3), (.long t4), (.long (t3 - t2))]))
        refine Goes.st (fun t_ k_ => XS.lsub X64.here hx rfl (hb hby at_235) rfl k_) ?_
        show Goes p e below s _ _ _ (T64.setTop (mkF m 236 #[.val (.long qa), .second, .val (.long qb), .second, .val (.long qc), .second, .val (.long qd), .second, .val (.int md), .val (.long t1), .second, .val (.long t2), .second, .val (.long t3), .second, .val (.long t4), .second, .val (.long (2000000 : Int64)), .second, .val (.int vm), .val (.ref b54), .val (.int (1 : Int32)), .val (.int (own_bI false)), .val (.int (own_bI false)), .val (.long (t3 - t2)), .second, .val (.int (0 : Int32)), .val (.int (own_bI false)), .unset, .unset, .unset, .unset] [(.long (t4 - t3)), (.long (t3 - t2))]))
        refine Goes.st (fun t_ k_ => XS.ladd X64.here hx rfl (hb hby at_236) rfl k_) ?_
        show Goes p e below s _ _ _ (T64.setTop (mkF m 237 #[.val (.long qa), .second, .val (.long qb), .second, .val (.long qc), .second, .val (.long qd), .second, .val (.int md), .val (.long t1), .second, .val (.long t2), .second, .val (.long t3), .second, .val (.long t4), .second, .val (.long (2000000 : Int64)), .second, .val (.int vm), .val (.ref b54), .val (.int (1 : Int32)), .val (.int (own_bI false)), .val (.int (own_bI false)), .val (.long (t3 - t2)), .second, .val (.int (0 : Int32)), .val (.int (own_bI false)), .unset, .unset, .unset, .unset] [(.long ((t3 - t2) + (t4 - t3)))]))
        refine Goes.st (fun t_ k_ => XS.lstore X64.here hx rfl (hb hby at_237) rfl  (l' := #[.val (.long qa), .second, .val (.long qb), .second, .val (.long qc), .second, .val (.long qd), .second, .val (.int md), .val (.long t1), .second, .val (.long t2), .second, .val (.long t3), .second, .val (.long t4), .second, .val (.long (2000000 : Int64)), .second, .val (.int vm), .val (.ref b54), .val (.int (1 : Int32)), .val (.int (own_bI false)), .val (.int (own_bI false)), .val (.long (t3 - t2)), .second, .val (.int (0 : Int32)), .val (.int (own_bI false)), .val (.long ((t3 - t2) + (t4 - t3))), .second, .unset, .unset]) rfl k_) ?_
        show Goes p e below s _ _ _ (T64.setTop (mkF m 239 #[.val (.long qa), .second, .val (.long qb), .second, .val (.long qc), .second, .val (.long qd), .second, .val (.int md), .val (.long t1), .second, .val (.long t2), .second, .val (.long t3), .second, .val (.long t4), .second, .val (.long (2000000 : Int64)), .second, .val (.int vm), .val (.ref b54), .val (.int (1 : Int32)), .val (.int (own_bI false)), .val (.int (own_bI false)), .val (.long (t3 - t2)), .second, .val (.int (0 : Int32)), .val (.int (own_bI false)), .val (.long ((t3 - t2) + (t4 - t3))), .second, .unset, .unset] []))
        refine Goes.st (fun t_ k_ => XS.iload X64.here hx rfl (hb hby at_239) rfl  k_) ?_
        show Goes p e below s _ _ _ (T64.setTop (mkF m 241 #[.val (.long qa), .second, .val (.long qb), .second, .val (.long qc), .second, .val (.long qd), .second, .val (.int md), .val (.long t1), .second, .val (.long t2), .second, .val (.long t3), .second, .val (.long t4), .second, .val (.long (2000000 : Int64)), .second, .val (.int vm), .val (.ref b54), .val (.int (1 : Int32)), .val (.int (own_bI false)), .val (.int (own_bI false)), .val (.long (t3 - t2)), .second, .val (.int (0 : Int32)), .val (.int (own_bI false)), .val (.long ((t3 - t2) + (t4 - t3))), .second, .unset, .unset] [(.int vm)]))
        refine Goes.st (fun t_ k_ => XS.iconst X64.here hx rfl (hb hby at_241) k_) ?_
        show Goes p e below s _ _ _ (T64.setTop (mkF m 242 #[.val (.long qa), .second, .val (.long qb), .second, .val (.long qc), .second, .val (.long qd), .second, .val (.int md), .val (.long t1), .second, .val (.long t2), .second, .val (.long t3), .second, .val (.long t4), .second, .val (.long (2000000 : Int64)), .second, .val (.int vm), .val (.ref b54), .val (.int (1 : Int32)), .val (.int (own_bI false)), .val (.int (own_bI false)), .val (.long (t3 - t2)), .second, .val (.int (0 : Int32)), .val (.int (own_bI false)), .val (.long ((t3 - t2) + (t4 - t3))), .second, .unset, .unset] [(.int (2 : Int32)), (.int vm)]))
        by_cases hv2 : vm = (2 : Int32)
        · refine Goes.st (fun t_ k_ => XS.icmpNo X64.here hx rfl (hb hby at_242) rfl (teq hv2).2 k_) ?_
          show Goes p e below s _ _ _ (T64.setTop (mkF m 245 #[.val (.long qa), .second, .val (.long qb), .second, .val (.long qc), .second, .val (.long qd), .second, .val (.int md), .val (.long t1), .second, .val (.long t2), .second, .val (.long t3), .second, .val (.long t4), .second, .val (.long (2000000 : Int64)), .second, .val (.int vm), .val (.ref b54), .val (.int (1 : Int32)), .val (.int (own_bI false)), .val (.int (own_bI false)), .val (.long (t3 - t2)), .second, .val (.int (0 : Int32)), .val (.int (own_bI false)), .val (.long ((t3 - t2) + (t4 - t3))), .second, .unset, .unset] []))
          refine Goes.st (fun t_ k_ => XS.aload X64.here hx rfl (hb hby at_245) rfl rfl k_) ?_
          show Goes p e below s _ _ _ (T64.setTop (mkF m 247 #[.val (.long qa), .second, .val (.long qb), .second, .val (.long qc), .second, .val (.long qd), .second, .val (.int md), .val (.long t1), .second, .val (.long t2), .second, .val (.long t3), .second, .val (.long t4), .second, .val (.long (2000000 : Int64)), .second, .val (.int vm), .val (.ref b54), .val (.int (1 : Int32)), .val (.int (own_bI false)), .val (.int (own_bI false)), .val (.long (t3 - t2)), .second, .val (.int (0 : Int32)), .val (.int (own_bI false)), .val (.long ((t3 - t2) + (t4 - t3))), .second, .unset, .unset] [(.ref b54)]))
          refine Goes.st (fun t_ k_ => XS.lload X64.here hx rfl (hb hby at_247) rfl  k_) ?_
          show Goes p e below s _ _ _ (T64.setTop (mkF m 249 #[.val (.long qa), .second, .val (.long qb), .second, .val (.long qc), .second, .val (.long qd), .second, .val (.int md), .val (.long t1), .second, .val (.long t2), .second, .val (.long t3), .second, .val (.long t4), .second, .val (.long (2000000 : Int64)), .second, .val (.int vm), .val (.ref b54), .val (.int (1 : Int32)), .val (.int (own_bI false)), .val (.int (own_bI false)), .val (.long (t3 - t2)), .second, .val (.int (0 : Int32)), .val (.int (own_bI false)), .val (.long ((t3 - t2) + (t4 - t3))), .second, .unset, .unset] [(.long t4), (.ref b54)]))
          obtain ⟨cq65, kq65, q65a, q65b, q65c⟩ := isOf hZ EQ5 E_b54
          obtain ⟨_, _, ⟨T65, L65, k65, n65⟩, -, X65, ⟨Lc65, hQ65, l65, y65, z65⟩, st65⟩ := X64.virtualBack hx (y := (⟨"com/example/delaunet/delaunet/core/sim/Pace", "end", "(J)V"⟩ : MethodName)) (z := (⟨"com/example/delaunet/delaunet/core/sim/Pace", "end", "(J)V"⟩ : MethodName)) hown (mvT hZ (hw _ (List.mem_of_getElem? (i := 56) rfl))) (mvT hZ (hw _ (List.mem_of_getElem? (i := 35) rfl))) (notFace_of_selects (args := #[]) (mvT hZ (hw _ (List.mem_of_getElem? (i := 37) rfl)))) (mvT hZ (hw _ (List.mem_of_getElem? (i := 37) rfl))) (mvT hZ (hw _ (List.mem_of_getElem? (i := 36) rfl))) (by decide) (backOf (W := 0) (own_rmE l Z a0 hw [] b54 t4 ah 3 (0 + (t3 - t2)) t3 ((0 + (t3 - t2)) + (t4 - t3)) T63.heap n0 Z0''''' HP (by simp [own_sp, hb_t3]) gn_b54) hZ (hw _ (List.mem_of_getElem? (i := 38) rfl)) (hw _ (List.mem_of_getElem? (i := 4) rfl)) (by decide) (by decide)) q65a q65c (g := (mkF m 249 #[.val (.long qa), .second, .val (.long qb), .second, .val (.long qc), .second, .val (.long qd), .second, .val (.int md), .val (.long t1), .second, .val (.long t2), .second, .val (.long t3), .second, .val (.long t4), .second, .val (.long (2000000 : Int64)), .second, .val (.int vm), .val (.ref b54), .val (.int (1 : Int32)), .val (.int (own_bI false)), .val (.int (own_bI false)), .val (.long (t3 - t2)), .second, .val (.int (0 : Int32)), .val (.int (own_bI false)), .val (.long ((t3 - t2) + (t4 - t3))), .second, .unset, .unset] [(.long t4), (.ref b54)])) rfl (by rw [hml]; rfl) (Steps.refl _) (argsL := [(.long t4)]) (rest := []) (lenOf own_pd65 rfl) rfl (by show 2 * 0 + _ ≤ _; exact Nat.le_of_eq rfl) (hb hby at_249) (fun _ _ => ⟨rfl, EQ5, (by decide : 3 + 0 ≤ _), (by decide : 21 + 0 ≤ _)⟩)
          dsimp only [Pt.U, Pt.locs, Pt.cells, Pt.slots] at X65 l65 y65 z65 st65 hQ65
          subst l65 y65 z65
          obtain ⟨rfl, N65q, KE, HP⟩ := hQ65
          have N65 := Fr.app N64 N65q
          refine Goes.tr st65 ?_
          have V_ah := V_ah.keep KE (ninS (Ne.symm nah) nin0)
          have Z0'''''' := Nat.le_trans Z0''''' KE.1
          have HP' := HP
          obtain ⟨E_b54, Fs_b54, Fa_b54, Fd_b54, Fp_b54, Fi_b54, Fh_b54, Ft_b54, Fr_b54⟩ := HP'
          show Goes p e below s _ _ _ (T65.setTop (mkF m 252 #[.val (.long qa), .second, .val (.long qb), .second, .val (.long qc), .second, .val (.long qd), .second, .val (.int md), .val (.long t1), .second, .val (.long t2), .second, .val (.long t3), .second, .val (.long t4), .second, .val (.long (2000000 : Int64)), .second, .val (.int vm), .val (.ref b54), .val (.int (1 : Int32)), .val (.int (own_bI false)), .val (.int (own_bI false)), .val (.long (t3 - t2)), .second, .val (.int (0 : Int32)), .val (.int (own_bI false)), .val (.long ((t3 - t2) + (t4 - t3))), .second, .unset, .unset] []))
          refine Goes.st (fun t_ k_ => XS.aload X65.here hx rfl (hb hby at_252) rfl rfl k_) ?_
          show Goes p e below s _ _ _ (T65.setTop (mkF m 254 #[.val (.long qa), .second, .val (.long qb), .second, .val (.long qc), .second, .val (.long qd), .second, .val (.int md), .val (.long t1), .second, .val (.long t2), .second, .val (.long t3), .second, .val (.long t4), .second, .val (.long (2000000 : Int64)), .second, .val (.int vm), .val (.ref b54), .val (.int (1 : Int32)), .val (.int (own_bI false)), .val (.int (own_bI false)), .val (.long (t3 - t2)), .second, .val (.int (0 : Int32)), .val (.int (own_bI false)), .val (.long ((t3 - t2) + (t4 - t3))), .second, .unset, .unset] [(.ref b54)]))
          have e4 : ((t3 - t2) + (t4 - t3)) = ((0 + (t3 - t2)) + (t4 - t3)) := by simp
          by_cases h4 : ((0 + (t3 - t2)) + (t4 - t3)) < 2000000
          · obtain ⟨cq66, kq66, q66a, q66b, q66c⟩ := isOf hZ rfl E_b54
            obtain ⟨_, _, ⟨T66, L66, k66, n66⟩, -, X66, ⟨Lc66, hQ66, l66, y66, z66⟩, st66⟩ := X65.virtualBack hx (y := (⟨"com/example/delaunet/delaunet/core/sim/Pace", "complete", "()Z"⟩ : MethodName)) (z := (⟨"com/example/delaunet/delaunet/core/sim/Pace", "complete", "()Z"⟩ : MethodName)) hown (mvT hZ (hw _ (List.mem_of_getElem? (i := 19) rfl))) (mvT hZ (hw _ (List.mem_of_getElem? (i := 20) rfl))) (notFace_of_selects (args := #[]) (mvT hZ (hw _ (List.mem_of_getElem? (i := 22) rfl)))) (mvT hZ (hw _ (List.mem_of_getElem? (i := 22) rfl))) (mvT hZ (hw _ (List.mem_of_getElem? (i := 21) rfl))) (by decide) (backOf (W := 0) (own_rmC l Z a0 hw [] b54 3 ((0 + (t3 - t2)) + (t4 - t3)) false T65.heap n0 Z0'''''' Fs_b54 Fd_b54 Fp_b54 (by exact own_dN (by decide) h4)) hZ (hw _ (List.mem_of_getElem? (i := 23) rfl)) (hw _ (List.mem_of_getElem? (i := 4) rfl)) (by decide) (by decide)) q66a q66c (g := (mkF m 254 #[.val (.long qa), .second, .val (.long qb), .second, .val (.long qc), .second, .val (.long qd), .second, .val (.int md), .val (.long t1), .second, .val (.long t2), .second, .val (.long t3), .second, .val (.long t4), .second, .val (.long (2000000 : Int64)), .second, .val (.int vm), .val (.ref b54), .val (.int (1 : Int32)), .val (.int (own_bI false)), .val (.int (own_bI false)), .val (.long (t3 - t2)), .second, .val (.int (0 : Int32)), .val (.int (own_bI false)), .val (.long ((t3 - t2) + (t4 - t3))), .second, .unset, .unset] [(.ref b54)])) rfl (by rw [hml]; rfl) (Steps.refl _) (argsL := []) (rest := []) (lenOf own_pd60 rfl) rfl (by show 2 * 0 + _ ≤ _; exact Nat.le_of_eq rfl) (hb hby at_254) (fun _ _ => ⟨rfl, rfl, (by decide : 3 + 0 ≤ _), (by decide : 21 + 0 ≤ _)⟩)
            dsimp only [Pt.U, Pt.locs, Pt.cells, Pt.slots] at X66 l66 y66 z66 st66 hQ66
            subst l66 y66 z66
            obtain ⟨rfl, N66q, EQ6⟩ := hQ66
            have N66 := Fr.app N65 N66q
            refine Goes.tr st66 ?_
            show Goes p e below s _ _ _ (T66.setTop (mkF m 257 #[.val (.long qa), .second, .val (.long qb), .second, .val (.long qc), .second, .val (.long qd), .second, .val (.int md), .val (.long t1), .second, .val (.long t2), .second, .val (.long t3), .second, .val (.long t4), .second, .val (.long (2000000 : Int64)), .second, .val (.int vm), .val (.ref b54), .val (.int (1 : Int32)), .val (.int (own_bI false)), .val (.int (own_bI false)), .val (.long (t3 - t2)), .second, .val (.int (0 : Int32)), .val (.int (own_bI false)), .val (.long ((t3 - t2) + (t4 - t3))), .second, .unset, .unset] [(.int (own_bI false))]))
            refine Goes.st (fun t_ k_ => XS.istore X66.here hx rfl (hb hby at_257) rfl  (l' := #[.val (.long qa), .second, .val (.long qb), .second, .val (.long qc), .second, .val (.long qd), .second, .val (.int md), .val (.long t1), .second, .val (.long t2), .second, .val (.long t3), .second, .val (.long t4), .second, .val (.long (2000000 : Int64)), .second, .val (.int vm), .val (.ref b54), .val (.int (1 : Int32)), .val (.int (own_bI false)), .val (.int (own_bI false)), .val (.long (t3 - t2)), .second, .val (.int (0 : Int32)), .val (.int (own_bI false)), .val (.long ((t3 - t2) + (t4 - t3))), .second, .val (.int (own_bI false)), .unset]) rfl k_) ?_
            show Goes p e below s _ _ _ (T66.setTop (mkF m 259 #[.val (.long qa), .second, .val (.long qb), .second, .val (.long qc), .second, .val (.long qd), .second, .val (.int md), .val (.long t1), .second, .val (.long t2), .second, .val (.long t3), .second, .val (.long t4), .second, .val (.long (2000000 : Int64)), .second, .val (.int vm), .val (.ref b54), .val (.int (1 : Int32)), .val (.int (own_bI false)), .val (.int (own_bI false)), .val (.long (t3 - t2)), .second, .val (.int (0 : Int32)), .val (.int (own_bI false)), .val (.long ((t3 - t2) + (t4 - t3))), .second, .val (.int (own_bI false)), .unset] []))
            refine Goes.st (fun t_ k_ => XS.iload X66.here hx rfl (hb hby at_259) rfl  k_) ?_
            show Goes p e below s _ _ _ (T66.setTop (mkF m 261 #[.val (.long qa), .second, .val (.long qb), .second, .val (.long qc), .second, .val (.long qd), .second, .val (.int md), .val (.long t1), .second, .val (.long t2), .second, .val (.long t3), .second, .val (.long t4), .second, .val (.long (2000000 : Int64)), .second, .val (.int vm), .val (.ref b54), .val (.int (1 : Int32)), .val (.int (own_bI false)), .val (.int (own_bI false)), .val (.long (t3 - t2)), .second, .val (.int (0 : Int32)), .val (.int (own_bI false)), .val (.long ((t3 - t2) + (t4 - t3))), .second, .val (.int (own_bI false)), .unset] [(.int (1 : Int32))]))
            refine Goes.st (fun t_ k_ => XS.ifNo X66.here hx rfl (hb hby at_261) rfl ((if0 _ _).trans (feq (by decide)).1) k_) ?_
            show Goes p e below s _ _ _ (T66.setTop (mkF m 264 #[.val (.long qa), .second, .val (.long qb), .second, .val (.long qc), .second, .val (.long qd), .second, .val (.int md), .val (.long t1), .second, .val (.long t2), .second, .val (.long t3), .second, .val (.long t4), .second, .val (.long (2000000 : Int64)), .second, .val (.int vm), .val (.ref b54), .val (.int (1 : Int32)), .val (.int (own_bI false)), .val (.int (own_bI false)), .val (.long (t3 - t2)), .second, .val (.int (0 : Int32)), .val (.int (own_bI false)), .val (.long ((t3 - t2) + (t4 - t3))), .second, .val (.int (own_bI false)), .unset] []))
            refine Goes.st (fun t_ k_ => XS.iload X66.here hx rfl (hb hby at_264) rfl  k_) ?_
            show Goes p e below s _ _ _ (T66.setTop (mkF m 266 #[.val (.long qa), .second, .val (.long qb), .second, .val (.long qc), .second, .val (.long qd), .second, .val (.int md), .val (.long t1), .second, .val (.long t2), .second, .val (.long t3), .second, .val (.long t4), .second, .val (.long (2000000 : Int64)), .second, .val (.int vm), .val (.ref b54), .val (.int (1 : Int32)), .val (.int (own_bI false)), .val (.int (own_bI false)), .val (.long (t3 - t2)), .second, .val (.int (0 : Int32)), .val (.int (own_bI false)), .val (.long ((t3 - t2) + (t4 - t3))), .second, .val (.int (own_bI false)), .unset] [(.int (own_bI false))]))
            refine Goes.st (fun t_ k_ => XS.lload X66.here hx rfl (hb hby at_266) rfl  k_) ?_
            show Goes p e below s _ _ _ (T66.setTop (mkF m 268 #[.val (.long qa), .second, .val (.long qb), .second, .val (.long qc), .second, .val (.long qd), .second, .val (.int md), .val (.long t1), .second, .val (.long t2), .second, .val (.long t3), .second, .val (.long t4), .second, .val (.long (2000000 : Int64)), .second, .val (.int vm), .val (.ref b54), .val (.int (1 : Int32)), .val (.int (own_bI false)), .val (.int (own_bI false)), .val (.long (t3 - t2)), .second, .val (.int (0 : Int32)), .val (.int (own_bI false)), .val (.long ((t3 - t2) + (t4 - t3))), .second, .val (.int (own_bI false)), .unset] [(.long ((t3 - t2) + (t4 - t3))), (.int (own_bI false))]))
            refine Goes.st (fun t_ k_ => XS.lload X66.here hx rfl (hb hby at_268) rfl  k_) ?_
            show Goes p e below s _ _ _ (T66.setTop (mkF m 270 #[.val (.long qa), .second, .val (.long qb), .second, .val (.long qc), .second, .val (.long qd), .second, .val (.int md), .val (.long t1), .second, .val (.long t2), .second, .val (.long t3), .second, .val (.long t4), .second, .val (.long (2000000 : Int64)), .second, .val (.int vm), .val (.ref b54), .val (.int (1 : Int32)), .val (.int (own_bI false)), .val (.int (own_bI false)), .val (.long (t3 - t2)), .second, .val (.int (0 : Int32)), .val (.int (own_bI false)), .val (.long ((t3 - t2) + (t4 - t3))), .second, .val (.int (own_bI false)), .unset] [(.long (2000000 : Int64)), (.long ((t3 - t2) + (t4 - t3))), (.int (own_bI false))]))
            refine Goes.st (fun t_ k_ => XS.lcmp X66.here hx rfl (hb hby at_270) rfl k_) ?_
            show Goes p e below s _ _ _ (T66.setTop (mkF m 271 #[.val (.long qa), .second, .val (.long qb), .second, .val (.long qc), .second, .val (.long qd), .second, .val (.int md), .val (.long t1), .second, .val (.long t2), .second, .val (.long t3), .second, .val (.long t4), .second, .val (.long (2000000 : Int64)), .second, .val (.int vm), .val (.ref b54), .val (.int (1 : Int32)), .val (.int (own_bI false)), .val (.int (own_bI false)), .val (.long (t3 - t2)), .second, .val (.int (0 : Int32)), .val (.int (own_bI false)), .val (.long ((t3 - t2) + (t4 - t3))), .second, .val (.int (own_bI false)), .unset] [(.int (lcmpW ((t3 - t2) + (t4 - t3)) (2000000 : Int64))), (.int (own_bI false))]))
            refine Goes.st (fun t_ k_ => XS.ifYes X66.here hx rfl (pc0 := 271) (pc' := 278) rfl (hb hby at_271) rfl ((if0 _ _).trans (tlt ((lw_lt _ _).mpr (by rw [e4]; exact h4))).1) (by decide) (by decide) k_) ?_
            show Goes p e below s _ _ _ (T66.setTop (mkF m 278 #[.val (.long qa), .second, .val (.long qb), .second, .val (.long qc), .second, .val (.long qd), .second, .val (.int md), .val (.long t1), .second, .val (.long t2), .second, .val (.long t3), .second, .val (.long t4), .second, .val (.long (2000000 : Int64)), .second, .val (.int vm), .val (.ref b54), .val (.int (1 : Int32)), .val (.int (own_bI false)), .val (.int (own_bI false)), .val (.long (t3 - t2)), .second, .val (.int (0 : Int32)), .val (.int (own_bI false)), .val (.long ((t3 - t2) + (t4 - t3))), .second, .val (.int (own_bI false)), .unset] [(.int (own_bI false))]))
            refine Goes.st (fun t_ k_ => XS.iconst X66.here hx rfl (hb hby at_278) k_) ?_
            show Goes p e below s _ _ _ (T66.setTop (mkF m 279 #[.val (.long qa), .second, .val (.long qb), .second, .val (.long qc), .second, .val (.long qd), .second, .val (.int md), .val (.long t1), .second, .val (.long t2), .second, .val (.long t3), .second, .val (.long t4), .second, .val (.long (2000000 : Int64)), .second, .val (.int vm), .val (.ref b54), .val (.int (1 : Int32)), .val (.int (own_bI false)), .val (.int (own_bI false)), .val (.long (t3 - t2)), .second, .val (.int (0 : Int32)), .val (.int (own_bI false)), .val (.long ((t3 - t2) + (t4 - t3))), .second, .val (.int (own_bI false)), .unset] [(.int (0 : Int32)), (.int (own_bI false))]))
            refine Goes.st (fun t_ k_ => XS.icmpNo X66.here hx rfl (hb hby at_279) rfl (teq (rfl : own_bI false = 0)).2 k_) ?_
            show Goes p e below s _ _ _ (T66.setTop (mkF m 282 #[.val (.long qa), .second, .val (.long qb), .second, .val (.long qc), .second, .val (.long qd), .second, .val (.int md), .val (.long t1), .second, .val (.long t2), .second, .val (.long t3), .second, .val (.long t4), .second, .val (.long (2000000 : Int64)), .second, .val (.int vm), .val (.ref b54), .val (.int (1 : Int32)), .val (.int (own_bI false)), .val (.int (own_bI false)), .val (.long (t3 - t2)), .second, .val (.int (0 : Int32)), .val (.int (own_bI false)), .val (.long ((t3 - t2) + (t4 - t3))), .second, .val (.int (own_bI false)), .unset] []))
            refine Goes.st (fun t_ k_ => XS.iconst X66.here hx rfl (hb hby at_282) k_) ?_
            show Goes p e below s _ _ _ (T66.setTop (mkF m 283 #[.val (.long qa), .second, .val (.long qb), .second, .val (.long qc), .second, .val (.long qd), .second, .val (.int md), .val (.long t1), .second, .val (.long t2), .second, .val (.long t3), .second, .val (.long t4), .second, .val (.long (2000000 : Int64)), .second, .val (.int vm), .val (.ref b54), .val (.int (1 : Int32)), .val (.int (own_bI false)), .val (.int (own_bI false)), .val (.long (t3 - t2)), .second, .val (.int (0 : Int32)), .val (.int (own_bI false)), .val (.long ((t3 - t2) + (t4 - t3))), .second, .val (.int (own_bI false)), .unset] [(.int (1 : Int32))]))
            refine Goes.st (fun t_ k_ => XS.goto X66.here hx rfl (pc0 := 283) (pc' := 287) rfl (hb hby at_283) (by decide) (by decide) k_) ?_
            show Goes p e below s _ _ _ (T66.setTop (mkF m 287 #[.val (.long qa), .second, .val (.long qb), .second, .val (.long qc), .second, .val (.long qd), .second, .val (.int md), .val (.long t1), .second, .val (.long t2), .second, .val (.long t3), .second, .val (.long t4), .second, .val (.long (2000000 : Int64)), .second, .val (.int vm), .val (.ref b54), .val (.int (1 : Int32)), .val (.int (own_bI false)), .val (.int (own_bI false)), .val (.long (t3 - t2)), .second, .val (.int (0 : Int32)), .val (.int (own_bI false)), .val (.long ((t3 - t2) + (t4 - t3))), .second, .val (.int (own_bI false)), .unset] [(.int (1 : Int32))]))
            exact Goes.retN X66 hx (t := .boolean) hret hlk (by simp) (hb hby at_287) (by decide) (by decide) (⟨rfl, N66⟩)
          · obtain ⟨cq67, kq67, q67a, q67b, q67c⟩ := isOf hZ rfl E_b54
            obtain ⟨_, _, ⟨T67, L67, k67, n67⟩, -, X67, ⟨Lc67, hQ67, l67, y67, z67⟩, st67⟩ := X65.virtualBack hx (y := (⟨"com/example/delaunet/delaunet/core/sim/Pace", "complete", "()Z"⟩ : MethodName)) (z := (⟨"com/example/delaunet/delaunet/core/sim/Pace", "complete", "()Z"⟩ : MethodName)) hown (mvT hZ (hw _ (List.mem_of_getElem? (i := 19) rfl))) (mvT hZ (hw _ (List.mem_of_getElem? (i := 20) rfl))) (notFace_of_selects (args := #[]) (mvT hZ (hw _ (List.mem_of_getElem? (i := 22) rfl)))) (mvT hZ (hw _ (List.mem_of_getElem? (i := 22) rfl))) (mvT hZ (hw _ (List.mem_of_getElem? (i := 21) rfl))) (by decide) (backOf (W := 0) (own_rmC l Z a0 hw [] b54 3 ((0 + (t3 - t2)) + (t4 - t3)) true T65.heap n0 Z0'''''' Fs_b54 Fd_b54 Fp_b54 (by exact own_dT (by decide) h4)) hZ (hw _ (List.mem_of_getElem? (i := 23) rfl)) (hw _ (List.mem_of_getElem? (i := 4) rfl)) (by decide) (by decide)) q67a q67c (g := (mkF m 254 #[.val (.long qa), .second, .val (.long qb), .second, .val (.long qc), .second, .val (.long qd), .second, .val (.int md), .val (.long t1), .second, .val (.long t2), .second, .val (.long t3), .second, .val (.long t4), .second, .val (.long (2000000 : Int64)), .second, .val (.int vm), .val (.ref b54), .val (.int (1 : Int32)), .val (.int (own_bI false)), .val (.int (own_bI false)), .val (.long (t3 - t2)), .second, .val (.int (0 : Int32)), .val (.int (own_bI false)), .val (.long ((t3 - t2) + (t4 - t3))), .second, .unset, .unset] [(.ref b54)])) rfl (by rw [hml]; rfl) (Steps.refl _) (argsL := []) (rest := []) (lenOf own_pd60 rfl) rfl (by show 2 * 0 + _ ≤ _; exact Nat.le_of_eq rfl) (hb hby at_254) (fun _ _ => ⟨rfl, rfl, (by decide : 3 + 0 ≤ _), (by decide : 21 + 0 ≤ _)⟩)
            dsimp only [Pt.U, Pt.locs, Pt.cells, Pt.slots] at X67 l67 y67 z67 st67 hQ67
            subst l67 y67 z67
            obtain ⟨rfl, N67q, EQ7⟩ := hQ67
            have N67 := Fr.app N65 N67q
            refine Goes.tr st67 ?_
            show Goes p e below s _ _ _ (T67.setTop (mkF m 257 #[.val (.long qa), .second, .val (.long qb), .second, .val (.long qc), .second, .val (.long qd), .second, .val (.int md), .val (.long t1), .second, .val (.long t2), .second, .val (.long t3), .second, .val (.long t4), .second, .val (.long (2000000 : Int64)), .second, .val (.int vm), .val (.ref b54), .val (.int (1 : Int32)), .val (.int (own_bI false)), .val (.int (own_bI false)), .val (.long (t3 - t2)), .second, .val (.int (0 : Int32)), .val (.int (own_bI false)), .val (.long ((t3 - t2) + (t4 - t3))), .second, .unset, .unset] [(.int (own_bI true))]))
            refine Goes.st (fun t_ k_ => XS.istore X67.here hx rfl (hb hby at_257) rfl  (l' := #[.val (.long qa), .second, .val (.long qb), .second, .val (.long qc), .second, .val (.long qd), .second, .val (.int md), .val (.long t1), .second, .val (.long t2), .second, .val (.long t3), .second, .val (.long t4), .second, .val (.long (2000000 : Int64)), .second, .val (.int vm), .val (.ref b54), .val (.int (1 : Int32)), .val (.int (own_bI false)), .val (.int (own_bI false)), .val (.long (t3 - t2)), .second, .val (.int (0 : Int32)), .val (.int (own_bI false)), .val (.long ((t3 - t2) + (t4 - t3))), .second, .val (.int (own_bI true)), .unset]) rfl k_) ?_
            show Goes p e below s _ _ _ (T67.setTop (mkF m 259 #[.val (.long qa), .second, .val (.long qb), .second, .val (.long qc), .second, .val (.long qd), .second, .val (.int md), .val (.long t1), .second, .val (.long t2), .second, .val (.long t3), .second, .val (.long t4), .second, .val (.long (2000000 : Int64)), .second, .val (.int vm), .val (.ref b54), .val (.int (1 : Int32)), .val (.int (own_bI false)), .val (.int (own_bI false)), .val (.long (t3 - t2)), .second, .val (.int (0 : Int32)), .val (.int (own_bI false)), .val (.long ((t3 - t2) + (t4 - t3))), .second, .val (.int (own_bI true)), .unset] []))
            refine Goes.st (fun t_ k_ => XS.iload X67.here hx rfl (hb hby at_259) rfl  k_) ?_
            show Goes p e below s _ _ _ (T67.setTop (mkF m 261 #[.val (.long qa), .second, .val (.long qb), .second, .val (.long qc), .second, .val (.long qd), .second, .val (.int md), .val (.long t1), .second, .val (.long t2), .second, .val (.long t3), .second, .val (.long t4), .second, .val (.long (2000000 : Int64)), .second, .val (.int vm), .val (.ref b54), .val (.int (1 : Int32)), .val (.int (own_bI false)), .val (.int (own_bI false)), .val (.long (t3 - t2)), .second, .val (.int (0 : Int32)), .val (.int (own_bI false)), .val (.long ((t3 - t2) + (t4 - t3))), .second, .val (.int (own_bI true)), .unset] [(.int (1 : Int32))]))
            refine Goes.st (fun t_ k_ => XS.ifNo X67.here hx rfl (hb hby at_261) rfl ((if0 _ _).trans (feq (by decide)).1) k_) ?_
            show Goes p e below s _ _ _ (T67.setTop (mkF m 264 #[.val (.long qa), .second, .val (.long qb), .second, .val (.long qc), .second, .val (.long qd), .second, .val (.int md), .val (.long t1), .second, .val (.long t2), .second, .val (.long t3), .second, .val (.long t4), .second, .val (.long (2000000 : Int64)), .second, .val (.int vm), .val (.ref b54), .val (.int (1 : Int32)), .val (.int (own_bI false)), .val (.int (own_bI false)), .val (.long (t3 - t2)), .second, .val (.int (0 : Int32)), .val (.int (own_bI false)), .val (.long ((t3 - t2) + (t4 - t3))), .second, .val (.int (own_bI true)), .unset] []))
            refine Goes.st (fun t_ k_ => XS.iload X67.here hx rfl (hb hby at_264) rfl  k_) ?_
            show Goes p e below s _ _ _ (T67.setTop (mkF m 266 #[.val (.long qa), .second, .val (.long qb), .second, .val (.long qc), .second, .val (.long qd), .second, .val (.int md), .val (.long t1), .second, .val (.long t2), .second, .val (.long t3), .second, .val (.long t4), .second, .val (.long (2000000 : Int64)), .second, .val (.int vm), .val (.ref b54), .val (.int (1 : Int32)), .val (.int (own_bI false)), .val (.int (own_bI false)), .val (.long (t3 - t2)), .second, .val (.int (0 : Int32)), .val (.int (own_bI false)), .val (.long ((t3 - t2) + (t4 - t3))), .second, .val (.int (own_bI true)), .unset] [(.int (own_bI true))]))
            refine Goes.st (fun t_ k_ => XS.lload X67.here hx rfl (hb hby at_266) rfl  k_) ?_
            show Goes p e below s _ _ _ (T67.setTop (mkF m 268 #[.val (.long qa), .second, .val (.long qb), .second, .val (.long qc), .second, .val (.long qd), .second, .val (.int md), .val (.long t1), .second, .val (.long t2), .second, .val (.long t3), .second, .val (.long t4), .second, .val (.long (2000000 : Int64)), .second, .val (.int vm), .val (.ref b54), .val (.int (1 : Int32)), .val (.int (own_bI false)), .val (.int (own_bI false)), .val (.long (t3 - t2)), .second, .val (.int (0 : Int32)), .val (.int (own_bI false)), .val (.long ((t3 - t2) + (t4 - t3))), .second, .val (.int (own_bI true)), .unset] [(.long ((t3 - t2) + (t4 - t3))), (.int (own_bI true))]))
            refine Goes.st (fun t_ k_ => XS.lload X67.here hx rfl (hb hby at_268) rfl  k_) ?_
            show Goes p e below s _ _ _ (T67.setTop (mkF m 270 #[.val (.long qa), .second, .val (.long qb), .second, .val (.long qc), .second, .val (.long qd), .second, .val (.int md), .val (.long t1), .second, .val (.long t2), .second, .val (.long t3), .second, .val (.long t4), .second, .val (.long (2000000 : Int64)), .second, .val (.int vm), .val (.ref b54), .val (.int (1 : Int32)), .val (.int (own_bI false)), .val (.int (own_bI false)), .val (.long (t3 - t2)), .second, .val (.int (0 : Int32)), .val (.int (own_bI false)), .val (.long ((t3 - t2) + (t4 - t3))), .second, .val (.int (own_bI true)), .unset] [(.long (2000000 : Int64)), (.long ((t3 - t2) + (t4 - t3))), (.int (own_bI true))]))
            refine Goes.st (fun t_ k_ => XS.lcmp X67.here hx rfl (hb hby at_270) rfl k_) ?_
            show Goes p e below s _ _ _ (T67.setTop (mkF m 271 #[.val (.long qa), .second, .val (.long qb), .second, .val (.long qc), .second, .val (.long qd), .second, .val (.int md), .val (.long t1), .second, .val (.long t2), .second, .val (.long t3), .second, .val (.long t4), .second, .val (.long (2000000 : Int64)), .second, .val (.int vm), .val (.ref b54), .val (.int (1 : Int32)), .val (.int (own_bI false)), .val (.int (own_bI false)), .val (.long (t3 - t2)), .second, .val (.int (0 : Int32)), .val (.int (own_bI false)), .val (.long ((t3 - t2) + (t4 - t3))), .second, .val (.int (own_bI true)), .unset] [(.int (lcmpW ((t3 - t2) + (t4 - t3)) (2000000 : Int64))), (.int (own_bI true))]))
            refine Goes.st (fun t_ k_ => XS.ifNo X67.here hx rfl (hb hby at_271) rfl ((if0 _ _).trans (flt (mt (lw_lt _ _).mp (by rw [e4]; exact h4))).1) k_) ?_
            show Goes p e below s _ _ _ (T67.setTop (mkF m 274 #[.val (.long qa), .second, .val (.long qb), .second, .val (.long qc), .second, .val (.long qd), .second, .val (.int md), .val (.long t1), .second, .val (.long t2), .second, .val (.long t3), .second, .val (.long t4), .second, .val (.long (2000000 : Int64)), .second, .val (.int vm), .val (.ref b54), .val (.int (1 : Int32)), .val (.int (own_bI false)), .val (.int (own_bI false)), .val (.long (t3 - t2)), .second, .val (.int (0 : Int32)), .val (.int (own_bI false)), .val (.long ((t3 - t2) + (t4 - t3))), .second, .val (.int (own_bI true)), .unset] [(.int (own_bI true))]))
            refine Goes.st (fun t_ k_ => XS.iconst X67.here hx rfl (hb hby at_274) k_) ?_
            show Goes p e below s _ _ _ (T67.setTop (mkF m 275 #[.val (.long qa), .second, .val (.long qb), .second, .val (.long qc), .second, .val (.long qd), .second, .val (.int md), .val (.long t1), .second, .val (.long t2), .second, .val (.long t3), .second, .val (.long t4), .second, .val (.long (2000000 : Int64)), .second, .val (.int vm), .val (.ref b54), .val (.int (1 : Int32)), .val (.int (own_bI false)), .val (.int (own_bI false)), .val (.long (t3 - t2)), .second, .val (.int (0 : Int32)), .val (.int (own_bI false)), .val (.long ((t3 - t2) + (t4 - t3))), .second, .val (.int (own_bI true)), .unset] [(.int (1 : Int32)), (.int (own_bI true))]))
            refine Goes.st (fun t_ k_ => XS.goto X67.here hx rfl (pc0 := 275) (pc' := 279) rfl (hb hby at_275) (by decide) (by decide) k_) ?_
            show Goes p e below s _ _ _ (T67.setTop (mkF m 279 #[.val (.long qa), .second, .val (.long qb), .second, .val (.long qc), .second, .val (.long qd), .second, .val (.int md), .val (.long t1), .second, .val (.long t2), .second, .val (.long t3), .second, .val (.long t4), .second, .val (.long (2000000 : Int64)), .second, .val (.int vm), .val (.ref b54), .val (.int (1 : Int32)), .val (.int (own_bI false)), .val (.int (own_bI false)), .val (.long (t3 - t2)), .second, .val (.int (0 : Int32)), .val (.int (own_bI false)), .val (.long ((t3 - t2) + (t4 - t3))), .second, .val (.int (own_bI true)), .unset] [(.int (1 : Int32)), (.int (own_bI true))]))
            refine Goes.st (fun t_ k_ => XS.icmpNo X67.here hx rfl (hb hby at_279) rfl (teq (rfl : own_bI true = 1)).2 k_) ?_
            show Goes p e below s _ _ _ (T67.setTop (mkF m 282 #[.val (.long qa), .second, .val (.long qb), .second, .val (.long qc), .second, .val (.long qd), .second, .val (.int md), .val (.long t1), .second, .val (.long t2), .second, .val (.long t3), .second, .val (.long t4), .second, .val (.long (2000000 : Int64)), .second, .val (.int vm), .val (.ref b54), .val (.int (1 : Int32)), .val (.int (own_bI false)), .val (.int (own_bI false)), .val (.long (t3 - t2)), .second, .val (.int (0 : Int32)), .val (.int (own_bI false)), .val (.long ((t3 - t2) + (t4 - t3))), .second, .val (.int (own_bI true)), .unset] []))
            refine Goes.st (fun t_ k_ => XS.iconst X67.here hx rfl (hb hby at_282) k_) ?_
            show Goes p e below s _ _ _ (T67.setTop (mkF m 283 #[.val (.long qa), .second, .val (.long qb), .second, .val (.long qc), .second, .val (.long qd), .second, .val (.int md), .val (.long t1), .second, .val (.long t2), .second, .val (.long t3), .second, .val (.long t4), .second, .val (.long (2000000 : Int64)), .second, .val (.int vm), .val (.ref b54), .val (.int (1 : Int32)), .val (.int (own_bI false)), .val (.int (own_bI false)), .val (.long (t3 - t2)), .second, .val (.int (0 : Int32)), .val (.int (own_bI false)), .val (.long ((t3 - t2) + (t4 - t3))), .second, .val (.int (own_bI true)), .unset] [(.int (1 : Int32))]))
            refine Goes.st (fun t_ k_ => XS.goto X67.here hx rfl (pc0 := 283) (pc' := 287) rfl (hb hby at_283) (by decide) (by decide) k_) ?_
            show Goes p e below s _ _ _ (T67.setTop (mkF m 287 #[.val (.long qa), .second, .val (.long qb), .second, .val (.long qc), .second, .val (.long qd), .second, .val (.int md), .val (.long t1), .second, .val (.long t2), .second, .val (.long t3), .second, .val (.long t4), .second, .val (.long (2000000 : Int64)), .second, .val (.int vm), .val (.ref b54), .val (.int (1 : Int32)), .val (.int (own_bI false)), .val (.int (own_bI false)), .val (.long (t3 - t2)), .second, .val (.int (0 : Int32)), .val (.int (own_bI false)), .val (.long ((t3 - t2) + (t4 - t3))), .second, .val (.int (own_bI true)), .unset] [(.int (1 : Int32))]))
            exact Goes.retN X67 hx (t := .boolean) hret hlk (by simp) (hb hby at_287) (by decide) (by decide) (⟨rfl, N67⟩)
        · refine Goes.st (fun t_ k_ => XS.icmpYes X64.here hx rfl (pc0 := 242) (pc' := 288) rfl (hb hby at_242) rfl (feq hv2).2 (by decide) (by decide) k_) ?_
          show Goes p e below s _ _ _ (T64.setTop (mkF m 288 #[.val (.long qa), .second, .val (.long qb), .second, .val (.long qc), .second, .val (.long qd), .second, .val (.int md), .val (.long t1), .second, .val (.long t2), .second, .val (.long t3), .second, .val (.long t4), .second, .val (.long (2000000 : Int64)), .second, .val (.int vm), .val (.ref b54), .val (.int (1 : Int32)), .val (.int (own_bI false)), .val (.int (own_bI false)), .val (.long (t3 - t2)), .second, .val (.int (0 : Int32)), .val (.int (own_bI false)), .val (.long ((t3 - t2) + (t4 - t3))), .second, .unset, .unset] []))
          refine Goes.st (fun t_ k_ => XS.aload X64.here hx rfl (hb hby at_288) rfl rfl k_) ?_
          show Goes p e below s _ _ _ (T64.setTop (mkF m 290 #[.val (.long qa), .second, .val (.long qb), .second, .val (.long qc), .second, .val (.long qd), .second, .val (.int md), .val (.long t1), .second, .val (.long t2), .second, .val (.long t3), .second, .val (.long t4), .second, .val (.long (2000000 : Int64)), .second, .val (.int vm), .val (.ref b54), .val (.int (1 : Int32)), .val (.int (own_bI false)), .val (.int (own_bI false)), .val (.long (t3 - t2)), .second, .val (.int (0 : Int32)), .val (.int (own_bI false)), .val (.long ((t3 - t2) + (t4 - t3))), .second, .unset, .unset] [(.ref b54)]))
          refine Goes.st (fun t_ k_ => XS.lload X64.here hx rfl (hb hby at_290) rfl  k_) ?_
          show Goes p e below s _ _ _ (T64.setTop (mkF m 292 #[.val (.long qa), .second, .val (.long qb), .second, .val (.long qc), .second, .val (.long qd), .second, .val (.int md), .val (.long t1), .second, .val (.long t2), .second, .val (.long t3), .second, .val (.long t4), .second, .val (.long (2000000 : Int64)), .second, .val (.int vm), .val (.ref b54), .val (.int (1 : Int32)), .val (.int (own_bI false)), .val (.int (own_bI false)), .val (.long (t3 - t2)), .second, .val (.int (0 : Int32)), .val (.int (own_bI false)), .val (.long ((t3 - t2) + (t4 - t3))), .second, .unset, .unset] [(.long t4), (.ref b54)]))
          obtain ⟨cq68, kq68, q68a, q68b, q68c⟩ := isOf hZ EQ5 E_b54
          obtain ⟨_, _, ⟨T68, L68, k68, n68⟩, -, X68, ⟨Lc68, hQ68, l68, y68, z68⟩, st68⟩ := X64.virtualBack hx (y := (⟨"com/example/delaunet/delaunet/core/sim/Pace", "start", "(J)Z"⟩ : MethodName)) (z := (⟨"com/example/delaunet/delaunet/core/sim/Pace", "start", "(J)Z"⟩ : MethodName)) hown (mvT hZ (hw _ (List.mem_of_getElem? (i := 28) rfl))) (mvT hZ (hw _ (List.mem_of_getElem? (i := 29) rfl))) (notFace_of_selects (args := #[]) (mvT hZ (hw _ (List.mem_of_getElem? (i := 31) rfl)))) (mvT hZ (hw _ (List.mem_of_getElem? (i := 31) rfl))) (mvT hZ (hw _ (List.mem_of_getElem? (i := 30) rfl))) (by decide) (backOf (W := 0) (own_rmS l Z a0 hw [] b54 t4 ah 3 (0 + (t3 - t2)) t3 ((0 + (t3 - t2)) + (t4 - t3)) T63.heap n0 Z0''''' HP (own_dN (by decide) hs3) (by simp [own_sp, hb_t3]) gn_b54) hZ (hw _ (List.mem_of_getElem? (i := 32) rfl)) (hw _ (List.mem_of_getElem? (i := 4) rfl)) (by decide) (by decide)) q68a q68c (g := (mkF m 292 #[.val (.long qa), .second, .val (.long qb), .second, .val (.long qc), .second, .val (.long qd), .second, .val (.int md), .val (.long t1), .second, .val (.long t2), .second, .val (.long t3), .second, .val (.long t4), .second, .val (.long (2000000 : Int64)), .second, .val (.int vm), .val (.ref b54), .val (.int (1 : Int32)), .val (.int (own_bI false)), .val (.int (own_bI false)), .val (.long (t3 - t2)), .second, .val (.int (0 : Int32)), .val (.int (own_bI false)), .val (.long ((t3 - t2) + (t4 - t3))), .second, .unset, .unset] [(.long t4), (.ref b54)])) rfl (by rw [hml]; rfl) (Steps.refl _) (argsL := [(.long t4)]) (rest := []) (lenOf own_pd145 rfl) rfl (by show 2 * 0 + _ ≤ _; exact Nat.le_of_eq rfl) (hb hby at_292) (fun _ _ => ⟨rfl, EQ5, (by decide : 3 + 0 ≤ _), (by decide : 21 + 0 ≤ _)⟩)
          dsimp only [Pt.U, Pt.locs, Pt.cells, Pt.slots] at X68 l68 y68 z68 st68 hQ68
          subst l68 y68 z68
          obtain ⟨rfl, N68q, KS, HP⟩ := hQ68
          have N68 := Fr.app N64 N68q
          refine Goes.tr st68 ?_
          have V_ah := V_ah.keep KS (ninS (Ne.symm nah) nin0)
          have Z0'''''' := Nat.le_trans Z0''''' KS.1
          have HP : own_P Z _ b54 ah 4 ((0 + (t3 - t2)) + (t4 - t3)) t4 := HP
          have HP' := HP
          obtain ⟨E_b54, Fs_b54, Fa_b54, Fd_b54, Fp_b54, Fi_b54, Fh_b54, Ft_b54, Fr_b54⟩ := HP'
          have e4 : ((t3 - t2) + (t4 - t3)) = ((0 + (t3 - t2)) + (t4 - t3)) := by simp
          show Goes p e below s _ _ _ (T68.setTop (mkF m 295 #[.val (.long qa), .second, .val (.long qb), .second, .val (.long qc), .second, .val (.long qd), .second, .val (.int md), .val (.long t1), .second, .val (.long t2), .second, .val (.long t3), .second, .val (.long t4), .second, .val (.long (2000000 : Int64)), .second, .val (.int vm), .val (.ref b54), .val (.int (1 : Int32)), .val (.int (own_bI false)), .val (.int (own_bI false)), .val (.long (t3 - t2)), .second, .val (.int (0 : Int32)), .val (.int (own_bI false)), .val (.long ((t3 - t2) + (t4 - t3))), .second, .unset, .unset] [(.int (0 : Int32))]))
          refine Goes.st (fun t_ k_ => XS.pop X68.here hx rfl (hb hby at_295) rfl rfl k_) ?_
          show Goes p e below s _ _ _ (T68.setTop (mkF m 296 #[.val (.long qa), .second, .val (.long qb), .second, .val (.long qc), .second, .val (.long qd), .second, .val (.int md), .val (.long t1), .second, .val (.long t2), .second, .val (.long t3), .second, .val (.long t4), .second, .val (.long (2000000 : Int64)), .second, .val (.int vm), .val (.ref b54), .val (.int (1 : Int32)), .val (.int (own_bI false)), .val (.int (own_bI false)), .val (.long (t3 - t2)), .second, .val (.int (0 : Int32)), .val (.int (own_bI false)), .val (.long ((t3 - t2) + (t4 - t3))), .second, .unset, .unset] []))
          refine Goes.st (fun t_ k_ => XS.iload X68.here hx rfl (hb hby at_296) rfl  k_) ?_
          show Goes p e below s _ _ _ (T68.setTop (mkF m 298 #[.val (.long qa), .second, .val (.long qb), .second, .val (.long qc), .second, .val (.long qd), .second, .val (.int md), .val (.long t1), .second, .val (.long t2), .second, .val (.long t3), .second, .val (.long t4), .second, .val (.long (2000000 : Int64)), .second, .val (.int vm), .val (.ref b54), .val (.int (1 : Int32)), .val (.int (own_bI false)), .val (.int (own_bI false)), .val (.long (t3 - t2)), .second, .val (.int (0 : Int32)), .val (.int (own_bI false)), .val (.long ((t3 - t2) + (t4 - t3))), .second, .unset, .unset] [(.int (0 : Int32))]))
          refine Goes.st (fun t_ k_ => XS.ifYes X68.here hx rfl (pc0 := 298) (pc' := 305) rfl (hb hby at_298) rfl ((if0 _ _).trans (teq (by decide)).1) (by decide) (by decide) k_) ?_
          show Goes p e below s _ _ _ (T68.setTop (mkF m 305 #[.val (.long qa), .second, .val (.long qb), .second, .val (.long qc), .second, .val (.long qd), .second, .val (.int md), .val (.long t1), .second, .val (.long t2), .second, .val (.long t3), .second, .val (.long t4), .second, .val (.long (2000000 : Int64)), .second, .val (.int vm), .val (.ref b54), .val (.int (1 : Int32)), .val (.int (own_bI false)), .val (.int (own_bI false)), .val (.long (t3 - t2)), .second, .val (.int (0 : Int32)), .val (.int (own_bI false)), .val (.long ((t3 - t2) + (t4 - t3))), .second, .unset, .unset] []))
          refine Goes.st (fun t_ k_ => XS.lload X68.here hx rfl (hb hby at_305) rfl  k_) ?_
          show Goes p e below s _ _ _ (T68.setTop (mkF m 307 #[.val (.long qa), .second, .val (.long qb), .second, .val (.long qc), .second, .val (.long qd), .second, .val (.int md), .val (.long t1), .second, .val (.long t2), .second, .val (.long t3), .second, .val (.long t4), .second, .val (.long (2000000 : Int64)), .second, .val (.int vm), .val (.ref b54), .val (.int (1 : Int32)), .val (.int (own_bI false)), .val (.int (own_bI false)), .val (.long (t3 - t2)), .second, .val (.int (0 : Int32)), .val (.int (own_bI false)), .val (.long ((t3 - t2) + (t4 - t3))), .second, .unset, .unset] [(.long ((t3 - t2) + (t4 - t3)))]))
          refine Goes.st (fun t_ k_ => XS.lload X68.here hx rfl (hb hby at_307) rfl  k_) ?_
          show Goes p e below s _ _ _ (T68.setTop (mkF m 309 #[.val (.long qa), .second, .val (.long qb), .second, .val (.long qc), .second, .val (.long qd), .second, .val (.int md), .val (.long t1), .second, .val (.long t2), .second, .val (.long t3), .second, .val (.long t4), .second, .val (.long (2000000 : Int64)), .second, .val (.int vm), .val (.ref b54), .val (.int (1 : Int32)), .val (.int (own_bI false)), .val (.int (own_bI false)), .val (.long (t3 - t2)), .second, .val (.int (0 : Int32)), .val (.int (own_bI false)), .val (.long ((t3 - t2) + (t4 - t3))), .second, .unset, .unset] [(.long (2000000 : Int64)), (.long ((t3 - t2) + (t4 - t3)))]))
          refine Goes.st (fun t_ k_ => XS.lcmp X68.here hx rfl (hb hby at_309) rfl k_) ?_
          show Goes p e below s _ _ _ (T68.setTop (mkF m 310 #[.val (.long qa), .second, .val (.long qb), .second, .val (.long qc), .second, .val (.long qd), .second, .val (.int md), .val (.long t1), .second, .val (.long t2), .second, .val (.long t3), .second, .val (.long t4), .second, .val (.long (2000000 : Int64)), .second, .val (.int vm), .val (.ref b54), .val (.int (1 : Int32)), .val (.int (own_bI false)), .val (.int (own_bI false)), .val (.long (t3 - t2)), .second, .val (.int (0 : Int32)), .val (.int (own_bI false)), .val (.long ((t3 - t2) + (t4 - t3))), .second, .unset, .unset] [(.int (lcmpW ((t3 - t2) + (t4 - t3)) (2000000 : Int64)))]))
          by_cases h4' : ((t3 - t2) + (t4 - t3)) < (2000000 : Int64)
          · refine Goes.st (fun t_ k_ => XS.ifYes X68.here hx rfl (pc0 := 310) (pc' := 317) rfl (hb hby at_310) rfl ((if0 _ _).trans (tlt ((lw_lt _ _).mpr h4')).1) (by decide) (by decide) k_) ?_
            have h4 : ((0 + (t3 - t2)) + (t4 - t3)) < 2000000 := by rw [← e4]; exact h4'
            show Goes p e below s _ _ _ (T68.setTop (mkF m 317 #[.val (.long qa), .second, .val (.long qb), .second, .val (.long qc), .second, .val (.long qd), .second, .val (.int md), .val (.long t1), .second, .val (.long t2), .second, .val (.long t3), .second, .val (.long t4), .second, .val (.long (2000000 : Int64)), .second, .val (.int vm), .val (.ref b54), .val (.int (1 : Int32)), .val (.int (own_bI false)), .val (.int (own_bI false)), .val (.long (t3 - t2)), .second, .val (.int (0 : Int32)), .val (.int (own_bI false)), .val (.long ((t3 - t2) + (t4 - t3))), .second, .unset, .unset] []))
            refine Goes.st (fun t_ k_ => XS.iconst X68.here hx rfl (hb hby at_317) k_) ?_
            show Goes p e below s _ _ _ (T68.setTop (mkF m 318 #[.val (.long qa), .second, .val (.long qb), .second, .val (.long qc), .second, .val (.long qd), .second, .val (.int md), .val (.long t1), .second, .val (.long t2), .second, .val (.long t3), .second, .val (.long t4), .second, .val (.long (2000000 : Int64)), .second, .val (.int vm), .val (.ref b54), .val (.int (1 : Int32)), .val (.int (own_bI false)), .val (.int (own_bI false)), .val (.long (t3 - t2)), .second, .val (.int (0 : Int32)), .val (.int (own_bI false)), .val (.long ((t3 - t2) + (t4 - t3))), .second, .unset, .unset] [(.int (0 : Int32))]))
            refine Goes.st (fun t_ k_ => XS.istore X68.here hx rfl (hb hby at_318) rfl  (l' := #[.val (.long qa), .second, .val (.long qb), .second, .val (.long qc), .second, .val (.long qd), .second, .val (.int md), .val (.long t1), .second, .val (.long t2), .second, .val (.long t3), .second, .val (.long t4), .second, .val (.long (2000000 : Int64)), .second, .val (.int vm), .val (.ref b54), .val (.int (1 : Int32)), .val (.int (own_bI false)), .val (.int (own_bI false)), .val (.long (t3 - t2)), .second, .val (.int (0 : Int32)), .val (.int (own_bI false)), .val (.long ((t3 - t2) + (t4 - t3))), .second, .val (.int (0 : Int32)), .unset]) rfl k_) ?_
            show Goes p e below s _ _ _ (T68.setTop (mkF m 320 #[.val (.long qa), .second, .val (.long qb), .second, .val (.long qc), .second, .val (.long qd), .second, .val (.int md), .val (.long t1), .second, .val (.long t2), .second, .val (.long t3), .second, .val (.long t4), .second, .val (.long (2000000 : Int64)), .second, .val (.int vm), .val (.ref b54), .val (.int (1 : Int32)), .val (.int (own_bI false)), .val (.int (own_bI false)), .val (.long (t3 - t2)), .second, .val (.int (0 : Int32)), .val (.int (own_bI false)), .val (.long ((t3 - t2) + (t4 - t3))), .second, .val (.int (0 : Int32)), .unset] []))
            refine Goes.st (fun t_ k_ => XS.aload X68.here hx rfl (hb hby at_320) rfl rfl k_) ?_
            show Goes p e below s _ _ _ (T68.setTop (mkF m 322 #[.val (.long qa), .second, .val (.long qb), .second, .val (.long qc), .second, .val (.long qd), .second, .val (.int md), .val (.long t1), .second, .val (.long t2), .second, .val (.long t3), .second, .val (.long t4), .second, .val (.long (2000000 : Int64)), .second, .val (.int vm), .val (.ref b54), .val (.int (1 : Int32)), .val (.int (own_bI false)), .val (.int (own_bI false)), .val (.long (t3 - t2)), .second, .val (.int (0 : Int32)), .val (.int (own_bI false)), .val (.long ((t3 - t2) + (t4 - t3))), .second, .val (.int (0 : Int32)), .unset] [(.ref b54)]))
            obtain ⟨cq69, kq69, q69a, q69b, q69c⟩ := isOf hZ rfl E_b54
            obtain ⟨_, _, ⟨T69, L69, k69, n69⟩, -, X69, ⟨Lc69, hQ69, l69, y69, z69⟩, st69⟩ := X68.virtualBack hx (y := (⟨"com/example/delaunet/delaunet/core/sim/Pace", "complete", "()Z"⟩ : MethodName)) (z := (⟨"com/example/delaunet/delaunet/core/sim/Pace", "complete", "()Z"⟩ : MethodName)) hown (mvT hZ (hw _ (List.mem_of_getElem? (i := 19) rfl))) (mvT hZ (hw _ (List.mem_of_getElem? (i := 20) rfl))) (notFace_of_selects (args := #[]) (mvT hZ (hw _ (List.mem_of_getElem? (i := 22) rfl)))) (mvT hZ (hw _ (List.mem_of_getElem? (i := 22) rfl))) (mvT hZ (hw _ (List.mem_of_getElem? (i := 21) rfl))) (by decide) (backOf (W := 0) (own_rmC l Z a0 hw [] b54 4 ((0 + (t3 - t2)) + (t4 - t3)) false T68.heap n0 Z0'''''' Fs_b54 Fd_b54 Fp_b54 (by exact own_dN (by decide) h4)) hZ (hw _ (List.mem_of_getElem? (i := 23) rfl)) (hw _ (List.mem_of_getElem? (i := 4) rfl)) (by decide) (by decide)) q69a q69c (g := (mkF m 322 #[.val (.long qa), .second, .val (.long qb), .second, .val (.long qc), .second, .val (.long qd), .second, .val (.int md), .val (.long t1), .second, .val (.long t2), .second, .val (.long t3), .second, .val (.long t4), .second, .val (.long (2000000 : Int64)), .second, .val (.int vm), .val (.ref b54), .val (.int (1 : Int32)), .val (.int (own_bI false)), .val (.int (own_bI false)), .val (.long (t3 - t2)), .second, .val (.int (0 : Int32)), .val (.int (own_bI false)), .val (.long ((t3 - t2) + (t4 - t3))), .second, .val (.int (0 : Int32)), .unset] [(.ref b54)])) rfl (by rw [hml]; rfl) (Steps.refl _) (argsL := []) (rest := []) (lenOf own_pd60 rfl) rfl (by show 2 * 0 + _ ≤ _; exact Nat.le_of_eq rfl) (hb hby at_322) (fun _ _ => ⟨rfl, rfl, (by decide : 3 + 0 ≤ _), (by decide : 21 + 0 ≤ _)⟩)
            dsimp only [Pt.U, Pt.locs, Pt.cells, Pt.slots] at X69 l69 y69 z69 st69 hQ69
            subst l69 y69 z69
            obtain ⟨rfl, N69q, EQ8⟩ := hQ69
            have N69 := Fr.app N68 N69q
            refine Goes.tr st69 ?_
            show Goes p e below s _ _ _ (T69.setTop (mkF m 325 #[.val (.long qa), .second, .val (.long qb), .second, .val (.long qc), .second, .val (.long qd), .second, .val (.int md), .val (.long t1), .second, .val (.long t2), .second, .val (.long t3), .second, .val (.long t4), .second, .val (.long (2000000 : Int64)), .second, .val (.int vm), .val (.ref b54), .val (.int (1 : Int32)), .val (.int (own_bI false)), .val (.int (own_bI false)), .val (.long (t3 - t2)), .second, .val (.int (0 : Int32)), .val (.int (own_bI false)), .val (.long ((t3 - t2) + (t4 - t3))), .second, .val (.int (0 : Int32)), .unset] [(.int (own_bI false))]))
            refine Goes.st (fun t_ k_ => XS.istore X69.here hx rfl (hb hby at_325) rfl  (l' := #[.val (.long qa), .second, .val (.long qb), .second, .val (.long qc), .second, .val (.long qd), .second, .val (.int md), .val (.long t1), .second, .val (.long t2), .second, .val (.long t3), .second, .val (.long t4), .second, .val (.long (2000000 : Int64)), .second, .val (.int vm), .val (.ref b54), .val (.int (1 : Int32)), .val (.int (own_bI false)), .val (.int (own_bI false)), .val (.long (t3 - t2)), .second, .val (.int (0 : Int32)), .val (.int (own_bI false)), .val (.long ((t3 - t2) + (t4 - t3))), .second, .val (.int (0 : Int32)), .val (.int (own_bI false))]) rfl k_) ?_
            show Goes p e below s _ _ _ (T69.setTop (mkF m 327 #[.val (.long qa), .second, .val (.long qb), .second, .val (.long qc), .second, .val (.long qd), .second, .val (.int md), .val (.long t1), .second, .val (.long t2), .second, .val (.long t3), .second, .val (.long t4), .second, .val (.long (2000000 : Int64)), .second, .val (.int vm), .val (.ref b54), .val (.int (1 : Int32)), .val (.int (own_bI false)), .val (.int (own_bI false)), .val (.long (t3 - t2)), .second, .val (.int (0 : Int32)), .val (.int (own_bI false)), .val (.long ((t3 - t2) + (t4 - t3))), .second, .val (.int (0 : Int32)), .val (.int (own_bI false))] []))
            refine Goes.st (fun t_ k_ => XS.iload X69.here hx rfl (hb hby at_327) rfl  k_) ?_
            show Goes p e below s _ _ _ (T69.setTop (mkF m 329 #[.val (.long qa), .second, .val (.long qb), .second, .val (.long qc), .second, .val (.long qd), .second, .val (.int md), .val (.long t1), .second, .val (.long t2), .second, .val (.long t3), .second, .val (.long t4), .second, .val (.long (2000000 : Int64)), .second, .val (.int vm), .val (.ref b54), .val (.int (1 : Int32)), .val (.int (own_bI false)), .val (.int (own_bI false)), .val (.long (t3 - t2)), .second, .val (.int (0 : Int32)), .val (.int (own_bI false)), .val (.long ((t3 - t2) + (t4 - t3))), .second, .val (.int (0 : Int32)), .val (.int (own_bI false))] [(.int (1 : Int32))]))
            refine Goes.st (fun t_ k_ => XS.ifNo X69.here hx rfl (hb hby at_329) rfl ((if0 _ _).trans (feq (by decide)).1) k_) ?_
            show Goes p e below s _ _ _ (T69.setTop (mkF m 332 #[.val (.long qa), .second, .val (.long qb), .second, .val (.long qc), .second, .val (.long qd), .second, .val (.int md), .val (.long t1), .second, .val (.long t2), .second, .val (.long t3), .second, .val (.long t4), .second, .val (.long (2000000 : Int64)), .second, .val (.int vm), .val (.ref b54), .val (.int (1 : Int32)), .val (.int (own_bI false)), .val (.int (own_bI false)), .val (.long (t3 - t2)), .second, .val (.int (0 : Int32)), .val (.int (own_bI false)), .val (.long ((t3 - t2) + (t4 - t3))), .second, .val (.int (0 : Int32)), .val (.int (own_bI false))] []))
            refine Goes.st (fun t_ k_ => XS.iload X69.here hx rfl (hb hby at_332) rfl  k_) ?_
            show Goes p e below s _ _ _ (T69.setTop (mkF m 334 #[.val (.long qa), .second, .val (.long qb), .second, .val (.long qc), .second, .val (.long qd), .second, .val (.int md), .val (.long t1), .second, .val (.long t2), .second, .val (.long t3), .second, .val (.long t4), .second, .val (.long (2000000 : Int64)), .second, .val (.int vm), .val (.ref b54), .val (.int (1 : Int32)), .val (.int (own_bI false)), .val (.int (own_bI false)), .val (.long (t3 - t2)), .second, .val (.int (0 : Int32)), .val (.int (own_bI false)), .val (.long ((t3 - t2) + (t4 - t3))), .second, .val (.int (0 : Int32)), .val (.int (own_bI false))] [(.int (own_bI false))]))
            refine Goes.st (fun t_ k_ => XS.iload X69.here hx rfl (hb hby at_334) rfl  k_) ?_
            show Goes p e below s _ _ _ (T69.setTop (mkF m 336 #[.val (.long qa), .second, .val (.long qb), .second, .val (.long qc), .second, .val (.long qd), .second, .val (.int md), .val (.long t1), .second, .val (.long t2), .second, .val (.long t3), .second, .val (.long t4), .second, .val (.long (2000000 : Int64)), .second, .val (.int vm), .val (.ref b54), .val (.int (1 : Int32)), .val (.int (own_bI false)), .val (.int (own_bI false)), .val (.long (t3 - t2)), .second, .val (.int (0 : Int32)), .val (.int (own_bI false)), .val (.long ((t3 - t2) + (t4 - t3))), .second, .val (.int (0 : Int32)), .val (.int (own_bI false))] [(.int (0 : Int32)), (.int (own_bI false))]))
            refine Goes.st (fun t_ k_ => XS.icmpNo X69.here hx rfl (hb hby at_336) rfl (teq (rfl : own_bI false = 0)).2 k_) ?_
            show Goes p e below s _ _ _ (T69.setTop (mkF m 339 #[.val (.long qa), .second, .val (.long qb), .second, .val (.long qc), .second, .val (.long qd), .second, .val (.int md), .val (.long t1), .second, .val (.long t2), .second, .val (.long t3), .second, .val (.long t4), .second, .val (.long (2000000 : Int64)), .second, .val (.int vm), .val (.ref b54), .val (.int (1 : Int32)), .val (.int (own_bI false)), .val (.int (own_bI false)), .val (.long (t3 - t2)), .second, .val (.int (0 : Int32)), .val (.int (own_bI false)), .val (.long ((t3 - t2) + (t4 - t3))), .second, .val (.int (0 : Int32)), .val (.int (own_bI false))] []))
            refine Goes.st (fun t_ k_ => XS.iconst X69.here hx rfl (hb hby at_339) k_) ?_
            show Goes p e below s _ _ _ (T69.setTop (mkF m 340 #[.val (.long qa), .second, .val (.long qb), .second, .val (.long qc), .second, .val (.long qd), .second, .val (.int md), .val (.long t1), .second, .val (.long t2), .second, .val (.long t3), .second, .val (.long t4), .second, .val (.long (2000000 : Int64)), .second, .val (.int vm), .val (.ref b54), .val (.int (1 : Int32)), .val (.int (own_bI false)), .val (.int (own_bI false)), .val (.long (t3 - t2)), .second, .val (.int (0 : Int32)), .val (.int (own_bI false)), .val (.long ((t3 - t2) + (t4 - t3))), .second, .val (.int (0 : Int32)), .val (.int (own_bI false))] [(.int (1 : Int32))]))
            refine Goes.st (fun t_ k_ => XS.goto X69.here hx rfl (pc0 := 340) (pc' := 344) rfl (hb hby at_340) (by decide) (by decide) k_) ?_
            show Goes p e below s _ _ _ (T69.setTop (mkF m 344 #[.val (.long qa), .second, .val (.long qb), .second, .val (.long qc), .second, .val (.long qd), .second, .val (.int md), .val (.long t1), .second, .val (.long t2), .second, .val (.long t3), .second, .val (.long t4), .second, .val (.long (2000000 : Int64)), .second, .val (.int vm), .val (.ref b54), .val (.int (1 : Int32)), .val (.int (own_bI false)), .val (.int (own_bI false)), .val (.long (t3 - t2)), .second, .val (.int (0 : Int32)), .val (.int (own_bI false)), .val (.long ((t3 - t2) + (t4 - t3))), .second, .val (.int (0 : Int32)), .val (.int (own_bI false))] [(.int (1 : Int32))]))
            exact Goes.retN X69 hx (t := .boolean) hret hlk (by simp) (hb hby at_344) (by decide) (by decide) (⟨rfl, N69⟩)
          · refine Goes.st (fun t_ k_ => XS.ifNo X68.here hx rfl (hb hby at_310) rfl ((if0 _ _).trans (flt (mt (lw_lt _ _).mp h4')).1) k_) ?_
            have h4 : ¬ ((0 + (t3 - t2)) + (t4 - t3)) < 2000000 := by rw [← e4]; exact h4'
            show Goes p e below s _ _ _ (T68.setTop (mkF m 313 #[.val (.long qa), .second, .val (.long qb), .second, .val (.long qc), .second, .val (.long qd), .second, .val (.int md), .val (.long t1), .second, .val (.long t2), .second, .val (.long t3), .second, .val (.long t4), .second, .val (.long (2000000 : Int64)), .second, .val (.int vm), .val (.ref b54), .val (.int (1 : Int32)), .val (.int (own_bI false)), .val (.int (own_bI false)), .val (.long (t3 - t2)), .second, .val (.int (0 : Int32)), .val (.int (own_bI false)), .val (.long ((t3 - t2) + (t4 - t3))), .second, .unset, .unset] []))
            refine Goes.st (fun t_ k_ => XS.iconst X68.here hx rfl (hb hby at_313) k_) ?_
            show Goes p e below s _ _ _ (T68.setTop (mkF m 314 #[.val (.long qa), .second, .val (.long qb), .second, .val (.long qc), .second, .val (.long qd), .second, .val (.int md), .val (.long t1), .second, .val (.long t2), .second, .val (.long t3), .second, .val (.long t4), .second, .val (.long (2000000 : Int64)), .second, .val (.int vm), .val (.ref b54), .val (.int (1 : Int32)), .val (.int (own_bI false)), .val (.int (own_bI false)), .val (.long (t3 - t2)), .second, .val (.int (0 : Int32)), .val (.int (own_bI false)), .val (.long ((t3 - t2) + (t4 - t3))), .second, .unset, .unset] [(.int (1 : Int32))]))
            refine Goes.st (fun t_ k_ => XS.goto X68.here hx rfl (pc0 := 314) (pc' := 318) rfl (hb hby at_314) (by decide) (by decide) k_) ?_
            show Goes p e below s _ _ _ (T68.setTop (mkF m 318 #[.val (.long qa), .second, .val (.long qb), .second, .val (.long qc), .second, .val (.long qd), .second, .val (.int md), .val (.long t1), .second, .val (.long t2), .second, .val (.long t3), .second, .val (.long t4), .second, .val (.long (2000000 : Int64)), .second, .val (.int vm), .val (.ref b54), .val (.int (1 : Int32)), .val (.int (own_bI false)), .val (.int (own_bI false)), .val (.long (t3 - t2)), .second, .val (.int (0 : Int32)), .val (.int (own_bI false)), .val (.long ((t3 - t2) + (t4 - t3))), .second, .unset, .unset] [(.int (1 : Int32))]))
            refine Goes.st (fun t_ k_ => XS.istore X68.here hx rfl (hb hby at_318) rfl  (l' := #[.val (.long qa), .second, .val (.long qb), .second, .val (.long qc), .second, .val (.long qd), .second, .val (.int md), .val (.long t1), .second, .val (.long t2), .second, .val (.long t3), .second, .val (.long t4), .second, .val (.long (2000000 : Int64)), .second, .val (.int vm), .val (.ref b54), .val (.int (1 : Int32)), .val (.int (own_bI false)), .val (.int (own_bI false)), .val (.long (t3 - t2)), .second, .val (.int (0 : Int32)), .val (.int (own_bI false)), .val (.long ((t3 - t2) + (t4 - t3))), .second, .val (.int (1 : Int32)), .unset]) rfl k_) ?_
            show Goes p e below s _ _ _ (T68.setTop (mkF m 320 #[.val (.long qa), .second, .val (.long qb), .second, .val (.long qc), .second, .val (.long qd), .second, .val (.int md), .val (.long t1), .second, .val (.long t2), .second, .val (.long t3), .second, .val (.long t4), .second, .val (.long (2000000 : Int64)), .second, .val (.int vm), .val (.ref b54), .val (.int (1 : Int32)), .val (.int (own_bI false)), .val (.int (own_bI false)), .val (.long (t3 - t2)), .second, .val (.int (0 : Int32)), .val (.int (own_bI false)), .val (.long ((t3 - t2) + (t4 - t3))), .second, .val (.int (1 : Int32)), .unset] []))
            refine Goes.st (fun t_ k_ => XS.aload X68.here hx rfl (hb hby at_320) rfl rfl k_) ?_
            show Goes p e below s _ _ _ (T68.setTop (mkF m 322 #[.val (.long qa), .second, .val (.long qb), .second, .val (.long qc), .second, .val (.long qd), .second, .val (.int md), .val (.long t1), .second, .val (.long t2), .second, .val (.long t3), .second, .val (.long t4), .second, .val (.long (2000000 : Int64)), .second, .val (.int vm), .val (.ref b54), .val (.int (1 : Int32)), .val (.int (own_bI false)), .val (.int (own_bI false)), .val (.long (t3 - t2)), .second, .val (.int (0 : Int32)), .val (.int (own_bI false)), .val (.long ((t3 - t2) + (t4 - t3))), .second, .val (.int (1 : Int32)), .unset] [(.ref b54)]))
            obtain ⟨cq70, kq70, q70a, q70b, q70c⟩ := isOf hZ rfl E_b54
            obtain ⟨_, _, ⟨T70, L70, k70, n70⟩, -, X70, ⟨Lc70, hQ70, l70, y70, z70⟩, st70⟩ := X68.virtualBack hx (y := (⟨"com/example/delaunet/delaunet/core/sim/Pace", "complete", "()Z"⟩ : MethodName)) (z := (⟨"com/example/delaunet/delaunet/core/sim/Pace", "complete", "()Z"⟩ : MethodName)) hown (mvT hZ (hw _ (List.mem_of_getElem? (i := 19) rfl))) (mvT hZ (hw _ (List.mem_of_getElem? (i := 20) rfl))) (notFace_of_selects (args := #[]) (mvT hZ (hw _ (List.mem_of_getElem? (i := 22) rfl)))) (mvT hZ (hw _ (List.mem_of_getElem? (i := 22) rfl))) (mvT hZ (hw _ (List.mem_of_getElem? (i := 21) rfl))) (by decide) (backOf (W := 0) (own_rmC l Z a0 hw [] b54 4 ((0 + (t3 - t2)) + (t4 - t3)) true T68.heap n0 Z0'''''' Fs_b54 Fd_b54 Fp_b54 (by exact own_dT (by decide) h4)) hZ (hw _ (List.mem_of_getElem? (i := 23) rfl)) (hw _ (List.mem_of_getElem? (i := 4) rfl)) (by decide) (by decide)) q70a q70c (g := (mkF m 322 #[.val (.long qa), .second, .val (.long qb), .second, .val (.long qc), .second, .val (.long qd), .second, .val (.int md), .val (.long t1), .second, .val (.long t2), .second, .val (.long t3), .second, .val (.long t4), .second, .val (.long (2000000 : Int64)), .second, .val (.int vm), .val (.ref b54), .val (.int (1 : Int32)), .val (.int (own_bI false)), .val (.int (own_bI false)), .val (.long (t3 - t2)), .second, .val (.int (0 : Int32)), .val (.int (own_bI false)), .val (.long ((t3 - t2) + (t4 - t3))), .second, .val (.int (1 : Int32)), .unset] [(.ref b54)])) rfl (by rw [hml]; rfl) (Steps.refl _) (argsL := []) (rest := []) (lenOf own_pd60 rfl) rfl (by show 2 * 0 + _ ≤ _; exact Nat.le_of_eq rfl) (hb hby at_322) (fun _ _ => ⟨rfl, rfl, (by decide : 3 + 0 ≤ _), (by decide : 21 + 0 ≤ _)⟩)
            dsimp only [Pt.U, Pt.locs, Pt.cells, Pt.slots] at X70 l70 y70 z70 st70 hQ70
            subst l70 y70 z70
            obtain ⟨rfl, N70q, EQ9⟩ := hQ70
            have N70 := Fr.app N68 N70q
            refine Goes.tr st70 ?_
            show Goes p e below s _ _ _ (T70.setTop (mkF m 325 #[.val (.long qa), .second, .val (.long qb), .second, .val (.long qc), .second, .val (.long qd), .second, .val (.int md), .val (.long t1), .second, .val (.long t2), .second, .val (.long t3), .second, .val (.long t4), .second, .val (.long (2000000 : Int64)), .second, .val (.int vm), .val (.ref b54), .val (.int (1 : Int32)), .val (.int (own_bI false)), .val (.int (own_bI false)), .val (.long (t3 - t2)), .second, .val (.int (0 : Int32)), .val (.int (own_bI false)), .val (.long ((t3 - t2) + (t4 - t3))), .second, .val (.int (1 : Int32)), .unset] [(.int (own_bI true))]))
            refine Goes.st (fun t_ k_ => XS.istore X70.here hx rfl (hb hby at_325) rfl  (l' := #[.val (.long qa), .second, .val (.long qb), .second, .val (.long qc), .second, .val (.long qd), .second, .val (.int md), .val (.long t1), .second, .val (.long t2), .second, .val (.long t3), .second, .val (.long t4), .second, .val (.long (2000000 : Int64)), .second, .val (.int vm), .val (.ref b54), .val (.int (1 : Int32)), .val (.int (own_bI false)), .val (.int (own_bI false)), .val (.long (t3 - t2)), .second, .val (.int (0 : Int32)), .val (.int (own_bI false)), .val (.long ((t3 - t2) + (t4 - t3))), .second, .val (.int (1 : Int32)), .val (.int (own_bI true))]) rfl k_) ?_
            show Goes p e below s _ _ _ (T70.setTop (mkF m 327 #[.val (.long qa), .second, .val (.long qb), .second, .val (.long qc), .second, .val (.long qd), .second, .val (.int md), .val (.long t1), .second, .val (.long t2), .second, .val (.long t3), .second, .val (.long t4), .second, .val (.long (2000000 : Int64)), .second, .val (.int vm), .val (.ref b54), .val (.int (1 : Int32)), .val (.int (own_bI false)), .val (.int (own_bI false)), .val (.long (t3 - t2)), .second, .val (.int (0 : Int32)), .val (.int (own_bI false)), .val (.long ((t3 - t2) + (t4 - t3))), .second, .val (.int (1 : Int32)), .val (.int (own_bI true))] []))
            refine Goes.st (fun t_ k_ => XS.iload X70.here hx rfl (hb hby at_327) rfl  k_) ?_
            show Goes p e below s _ _ _ (T70.setTop (mkF m 329 #[.val (.long qa), .second, .val (.long qb), .second, .val (.long qc), .second, .val (.long qd), .second, .val (.int md), .val (.long t1), .second, .val (.long t2), .second, .val (.long t3), .second, .val (.long t4), .second, .val (.long (2000000 : Int64)), .second, .val (.int vm), .val (.ref b54), .val (.int (1 : Int32)), .val (.int (own_bI false)), .val (.int (own_bI false)), .val (.long (t3 - t2)), .second, .val (.int (0 : Int32)), .val (.int (own_bI false)), .val (.long ((t3 - t2) + (t4 - t3))), .second, .val (.int (1 : Int32)), .val (.int (own_bI true))] [(.int (1 : Int32))]))
            refine Goes.st (fun t_ k_ => XS.ifNo X70.here hx rfl (hb hby at_329) rfl ((if0 _ _).trans (feq (by decide)).1) k_) ?_
            show Goes p e below s _ _ _ (T70.setTop (mkF m 332 #[.val (.long qa), .second, .val (.long qb), .second, .val (.long qc), .second, .val (.long qd), .second, .val (.int md), .val (.long t1), .second, .val (.long t2), .second, .val (.long t3), .second, .val (.long t4), .second, .val (.long (2000000 : Int64)), .second, .val (.int vm), .val (.ref b54), .val (.int (1 : Int32)), .val (.int (own_bI false)), .val (.int (own_bI false)), .val (.long (t3 - t2)), .second, .val (.int (0 : Int32)), .val (.int (own_bI false)), .val (.long ((t3 - t2) + (t4 - t3))), .second, .val (.int (1 : Int32)), .val (.int (own_bI true))] []))
            refine Goes.st (fun t_ k_ => XS.iload X70.here hx rfl (hb hby at_332) rfl  k_) ?_
            show Goes p e below s _ _ _ (T70.setTop (mkF m 334 #[.val (.long qa), .second, .val (.long qb), .second, .val (.long qc), .second, .val (.long qd), .second, .val (.int md), .val (.long t1), .second, .val (.long t2), .second, .val (.long t3), .second, .val (.long t4), .second, .val (.long (2000000 : Int64)), .second, .val (.int vm), .val (.ref b54), .val (.int (1 : Int32)), .val (.int (own_bI false)), .val (.int (own_bI false)), .val (.long (t3 - t2)), .second, .val (.int (0 : Int32)), .val (.int (own_bI false)), .val (.long ((t3 - t2) + (t4 - t3))), .second, .val (.int (1 : Int32)), .val (.int (own_bI true))] [(.int (own_bI true))]))
            refine Goes.st (fun t_ k_ => XS.iload X70.here hx rfl (hb hby at_334) rfl  k_) ?_
            show Goes p e below s _ _ _ (T70.setTop (mkF m 336 #[.val (.long qa), .second, .val (.long qb), .second, .val (.long qc), .second, .val (.long qd), .second, .val (.int md), .val (.long t1), .second, .val (.long t2), .second, .val (.long t3), .second, .val (.long t4), .second, .val (.long (2000000 : Int64)), .second, .val (.int vm), .val (.ref b54), .val (.int (1 : Int32)), .val (.int (own_bI false)), .val (.int (own_bI false)), .val (.long (t3 - t2)), .second, .val (.int (0 : Int32)), .val (.int (own_bI false)), .val (.long ((t3 - t2) + (t4 - t3))), .second, .val (.int (1 : Int32)), .val (.int (own_bI true))] [(.int (1 : Int32)), (.int (own_bI true))]))
            refine Goes.st (fun t_ k_ => XS.icmpNo X70.here hx rfl (hb hby at_336) rfl (teq (rfl : own_bI true = 1)).2 k_) ?_
            show Goes p e below s _ _ _ (T70.setTop (mkF m 339 #[.val (.long qa), .second, .val (.long qb), .second, .val (.long qc), .second, .val (.long qd), .second, .val (.int md), .val (.long t1), .second, .val (.long t2), .second, .val (.long t3), .second, .val (.long t4), .second, .val (.long (2000000 : Int64)), .second, .val (.int vm), .val (.ref b54), .val (.int (1 : Int32)), .val (.int (own_bI false)), .val (.int (own_bI false)), .val (.long (t3 - t2)), .second, .val (.int (0 : Int32)), .val (.int (own_bI false)), .val (.long ((t3 - t2) + (t4 - t3))), .second, .val (.int (1 : Int32)), .val (.int (own_bI true))] []))
            refine Goes.st (fun t_ k_ => XS.iconst X70.here hx rfl (hb hby at_339) k_) ?_
            show Goes p e below s _ _ _ (T70.setTop (mkF m 340 #[.val (.long qa), .second, .val (.long qb), .second, .val (.long qc), .second, .val (.long qd), .second, .val (.int md), .val (.long t1), .second, .val (.long t2), .second, .val (.long t3), .second, .val (.long t4), .second, .val (.long (2000000 : Int64)), .second, .val (.int vm), .val (.ref b54), .val (.int (1 : Int32)), .val (.int (own_bI false)), .val (.int (own_bI false)), .val (.long (t3 - t2)), .second, .val (.int (0 : Int32)), .val (.int (own_bI false)), .val (.long ((t3 - t2) + (t4 - t3))), .second, .val (.int (1 : Int32)), .val (.int (own_bI true))] [(.int (1 : Int32))]))
            refine Goes.st (fun t_ k_ => XS.goto X70.here hx rfl (pc0 := 340) (pc' := 344) rfl (hb hby at_340) (by decide) (by decide) k_) ?_
            show Goes p e below s _ _ _ (T70.setTop (mkF m 344 #[.val (.long qa), .second, .val (.long qb), .second, .val (.long qc), .second, .val (.long qd), .second, .val (.int md), .val (.long t1), .second, .val (.long t2), .second, .val (.long t3), .second, .val (.long t4), .second, .val (.long (2000000 : Int64)), .second, .val (.int vm), .val (.ref b54), .val (.int (1 : Int32)), .val (.int (own_bI false)), .val (.int (own_bI false)), .val (.long (t3 - t2)), .second, .val (.int (0 : Int32)), .val (.int (own_bI false)), .val (.long ((t3 - t2) + (t4 - t3))), .second, .val (.int (1 : Int32)), .val (.int (own_bI true))] [(.int (1 : Int32))]))
            exact Goes.retN X70 hx (t := .boolean) hret hlk (by simp) (hb hby at_344) (by decide) (by decide) (⟨rfl, N70⟩)
    · refine Goes.st (fun t_ k_ => XS.ifNo X63.here hx rfl (hb hby at_184) rfl ((if0 _ _).trans (flt (mt (lw_lt _ _).mp hc3)).1) k_) ?_
      have hs3 : ¬ (0 + (t3 - t2)) < 2000000 := by simpa using hc3
      show Goes p e below s _ _ _ (T63.setTop (mkF m 187 #[.val (.long qa), .second, .val (.long qb), .second, .val (.long qc), .second, .val (.long qd), .second, .val (.int md), .val (.long t1), .second, .val (.long t2), .second, .val (.long t3), .second, .val (.long t4), .second, .val (.long (2000000 : Int64)), .second, .val (.int vm), .val (.ref b54), .val (.int (1 : Int32)), .val (.int (own_bI false)), .val (.int (own_bI false)), .val (.long (t3 - t2)), .second, .unset, .unset, .unset, .unset, .unset, .unset] []))
      refine Goes.st (fun t_ k_ => XS.iconst X63.here hx rfl (hb hby at_187) k_) ?_
      show Goes p e below s _ _ _ (T63.setTop (mkF m 188 #[.val (.long qa), .second, .val (.long qb), .second, .val (.long qc), .second, .val (.long qd), .second, .val (.int md), .val (.long t1), .second, .val (.long t2), .second, .val (.long t3), .second, .val (.long t4), .second, .val (.long (2000000 : Int64)), .second, .val (.int vm), .val (.ref b54), .val (.int (1 : Int32)), .val (.int (own_bI false)), .val (.int (own_bI false)), .val (.long (t3 - t2)), .second, .unset, .unset, .unset, .unset, .unset, .unset] [(.int (1 : Int32))]))
      refine Goes.st (fun t_ k_ => XS.goto X63.here hx rfl (pc0 := 188) (pc' := 192) rfl (hb hby at_188) (by decide) (by decide) k_) ?_
      show Goes p e below s _ _ _ (T63.setTop (mkF m 192 #[.val (.long qa), .second, .val (.long qb), .second, .val (.long qc), .second, .val (.long qd), .second, .val (.int md), .val (.long t1), .second, .val (.long t2), .second, .val (.long t3), .second, .val (.long t4), .second, .val (.long (2000000 : Int64)), .second, .val (.int vm), .val (.ref b54), .val (.int (1 : Int32)), .val (.int (own_bI false)), .val (.int (own_bI false)), .val (.long (t3 - t2)), .second, .unset, .unset, .unset, .unset, .unset, .unset] [(.int (1 : Int32))]))
      refine Goes.st (fun t_ k_ => XS.istore X63.here hx rfl (hb hby at_192) rfl  (l' := #[.val (.long qa), .second, .val (.long qb), .second, .val (.long qc), .second, .val (.long qd), .second, .val (.int md), .val (.long t1), .second, .val (.long t2), .second, .val (.long t3), .second, .val (.long t4), .second, .val (.long (2000000 : Int64)), .second, .val (.int vm), .val (.ref b54), .val (.int (1 : Int32)), .val (.int (own_bI false)), .val (.int (own_bI false)), .val (.long (t3 - t2)), .second, .val (.int (1 : Int32)), .unset, .unset, .unset, .unset, .unset]) rfl k_) ?_
      show Goes p e below s _ _ _ (T63.setTop (mkF m 194 #[.val (.long qa), .second, .val (.long qb), .second, .val (.long qc), .second, .val (.long qd), .second, .val (.int md), .val (.long t1), .second, .val (.long t2), .second, .val (.long t3), .second, .val (.long t4), .second, .val (.long (2000000 : Int64)), .second, .val (.int vm), .val (.ref b54), .val (.int (1 : Int32)), .val (.int (own_bI false)), .val (.int (own_bI false)), .val (.long (t3 - t2)), .second, .val (.int (1 : Int32)), .unset, .unset, .unset, .unset, .unset] []))
      refine Goes.st (fun t_ k_ => XS.aload X63.here hx rfl (hb hby at_194) rfl rfl k_) ?_
      show Goes p e below s _ _ _ (T63.setTop (mkF m 196 #[.val (.long qa), .second, .val (.long qb), .second, .val (.long qc), .second, .val (.long qd), .second, .val (.int md), .val (.long t1), .second, .val (.long t2), .second, .val (.long t3), .second, .val (.long t4), .second, .val (.long (2000000 : Int64)), .second, .val (.int vm), .val (.ref b54), .val (.int (1 : Int32)), .val (.int (own_bI false)), .val (.int (own_bI false)), .val (.long (t3 - t2)), .second, .val (.int (1 : Int32)), .unset, .unset, .unset, .unset, .unset] [(.ref b54)]))
      obtain ⟨cq71, kq71, q71a, q71b, q71c⟩ := isOf hZ rfl E_b54
      obtain ⟨_, _, ⟨T71, L71, k71, n71⟩, -, X71, ⟨Lc71, hQ71, l71, y71, z71⟩, st71⟩ := X63.virtualBack hx (y := (⟨"com/example/delaunet/delaunet/core/sim/Pace", "complete", "()Z"⟩ : MethodName)) (z := (⟨"com/example/delaunet/delaunet/core/sim/Pace", "complete", "()Z"⟩ : MethodName)) hown (mvT hZ (hw _ (List.mem_of_getElem? (i := 19) rfl))) (mvT hZ (hw _ (List.mem_of_getElem? (i := 20) rfl))) (notFace_of_selects (args := #[]) (mvT hZ (hw _ (List.mem_of_getElem? (i := 22) rfl)))) (mvT hZ (hw _ (List.mem_of_getElem? (i := 22) rfl))) (mvT hZ (hw _ (List.mem_of_getElem? (i := 21) rfl))) (by decide) (backOf (W := 0) (own_rmC l Z a0 hw [] b54 3 (0 + (t3 - t2)) true T63.heap n0 Z0''''' Fs_b54 Fd_b54 Fp_b54 (by exact own_dT (by decide) hs3)) hZ (hw _ (List.mem_of_getElem? (i := 23) rfl)) (hw _ (List.mem_of_getElem? (i := 4) rfl)) (by decide) (by decide)) q71a q71c (g := (mkF m 196 #[.val (.long qa), .second, .val (.long qb), .second, .val (.long qc), .second, .val (.long qd), .second, .val (.int md), .val (.long t1), .second, .val (.long t2), .second, .val (.long t3), .second, .val (.long t4), .second, .val (.long (2000000 : Int64)), .second, .val (.int vm), .val (.ref b54), .val (.int (1 : Int32)), .val (.int (own_bI false)), .val (.int (own_bI false)), .val (.long (t3 - t2)), .second, .val (.int (1 : Int32)), .unset, .unset, .unset, .unset, .unset] [(.ref b54)])) rfl (by rw [hml]; rfl) (Steps.refl _) (argsL := []) (rest := []) (lenOf own_pd60 rfl) rfl (by show 2 * 0 + _ ≤ _; exact Nat.le_of_eq rfl) (hb hby at_196) (fun _ _ => ⟨rfl, rfl, (by decide : 3 + 0 ≤ _), (by decide : 21 + 0 ≤ _)⟩)
      dsimp only [Pt.U, Pt.locs, Pt.cells, Pt.slots] at X71 l71 y71 z71 st71 hQ71
      subst l71 y71 z71
      obtain ⟨rfl, N71q, EQ10⟩ := hQ71
      have N71 := Fr.app N63 N71q
      refine Goes.tr st71 ?_
      show Goes p e below s _ _ _ (T71.setTop (mkF m 199 #[.val (.long qa), .second, .val (.long qb), .second, .val (.long qc), .second, .val (.long qd), .second, .val (.int md), .val (.long t1), .second, .val (.long t2), .second, .val (.long t3), .second, .val (.long t4), .second, .val (.long (2000000 : Int64)), .second, .val (.int vm), .val (.ref b54), .val (.int (1 : Int32)), .val (.int (own_bI false)), .val (.int (own_bI false)), .val (.long (t3 - t2)), .second, .val (.int (1 : Int32)), .unset, .unset, .unset, .unset, .unset] [(.int (own_bI true))]))
      refine Goes.st (fun t_ k_ => XS.istore X71.here hx rfl (hb hby at_199) rfl  (l' := #[.val (.long qa), .second, .val (.long qb), .second, .val (.long qc), .second, .val (.long qd), .second, .val (.int md), .val (.long t1), .second, .val (.long t2), .second, .val (.long t3), .second, .val (.long t4), .second, .val (.long (2000000 : Int64)), .second, .val (.int vm), .val (.ref b54), .val (.int (1 : Int32)), .val (.int (own_bI false)), .val (.int (own_bI false)), .val (.long (t3 - t2)), .second, .val (.int (1 : Int32)), .val (.int (own_bI true)), .unset, .unset, .unset, .unset]) rfl k_) ?_
      show Goes p e below s _ _ _ (T71.setTop (mkF m 201 #[.val (.long qa), .second, .val (.long qb), .second, .val (.long qc), .second, .val (.long qd), .second, .val (.int md), .val (.long t1), .second, .val (.long t2), .second, .val (.long t3), .second, .val (.long t4), .second, .val (.long (2000000 : Int64)), .second, .val (.int vm), .val (.ref b54), .val (.int (1 : Int32)), .val (.int (own_bI false)), .val (.int (own_bI false)), .val (.long (t3 - t2)), .second, .val (.int (1 : Int32)), .val (.int (own_bI true)), .unset, .unset, .unset, .unset] []))
      refine Goes.st (fun t_ k_ => XS.iload X71.here hx rfl (hb hby at_201) rfl  k_) ?_
      show Goes p e below s _ _ _ (T71.setTop (mkF m 203 #[.val (.long qa), .second, .val (.long qb), .second, .val (.long qc), .second, .val (.long qd), .second, .val (.int md), .val (.long t1), .second, .val (.long t2), .second, .val (.long t3), .second, .val (.long t4), .second, .val (.long (2000000 : Int64)), .second, .val (.int vm), .val (.ref b54), .val (.int (1 : Int32)), .val (.int (own_bI false)), .val (.int (own_bI false)), .val (.long (t3 - t2)), .second, .val (.int (1 : Int32)), .val (.int (own_bI true)), .unset, .unset, .unset, .unset] [(.int (1 : Int32))]))
      refine Goes.st (fun t_ k_ => XS.ifNo X71.here hx rfl (hb hby at_203) rfl ((if0 _ _).trans (feq (by decide)).1) k_) ?_
      show Goes p e below s _ _ _ (T71.setTop (mkF m 206 #[.val (.long qa), .second, .val (.long qb), .second, .val (.long qc), .second, .val (.long qd), .second, .val (.int md), .val (.long t1), .second, .val (.long t2), .second, .val (.long t3), .second, .val (.long t4), .second, .val (.long (2000000 : Int64)), .second, .val (.int vm), .val (.ref b54), .val (.int (1 : Int32)), .val (.int (own_bI false)), .val (.int (own_bI false)), .val (.long (t3 - t2)), .second, .val (.int (1 : Int32)), .val (.int (own_bI true)), .unset, .unset, .unset, .unset] []))
      refine Goes.st (fun t_ k_ => XS.iload X71.here hx rfl (hb hby at_206) rfl  k_) ?_
      show Goes p e below s _ _ _ (T71.setTop (mkF m 208 #[.val (.long qa), .second, .val (.long qb), .second, .val (.long qc), .second, .val (.long qd), .second, .val (.int md), .val (.long t1), .second, .val (.long t2), .second, .val (.long t3), .second, .val (.long t4), .second, .val (.long (2000000 : Int64)), .second, .val (.int vm), .val (.ref b54), .val (.int (1 : Int32)), .val (.int (own_bI false)), .val (.int (own_bI false)), .val (.long (t3 - t2)), .second, .val (.int (1 : Int32)), .val (.int (own_bI true)), .unset, .unset, .unset, .unset] [(.int (own_bI true))]))
      refine Goes.st (fun t_ k_ => XS.iload X71.here hx rfl (hb hby at_208) rfl  k_) ?_
      show Goes p e below s _ _ _ (T71.setTop (mkF m 210 #[.val (.long qa), .second, .val (.long qb), .second, .val (.long qc), .second, .val (.long qd), .second, .val (.int md), .val (.long t1), .second, .val (.long t2), .second, .val (.long t3), .second, .val (.long t4), .second, .val (.long (2000000 : Int64)), .second, .val (.int vm), .val (.ref b54), .val (.int (1 : Int32)), .val (.int (own_bI false)), .val (.int (own_bI false)), .val (.long (t3 - t2)), .second, .val (.int (1 : Int32)), .val (.int (own_bI true)), .unset, .unset, .unset, .unset] [(.int (1 : Int32)), (.int (own_bI true))]))
      refine Goes.st (fun t_ k_ => XS.icmpNo X71.here hx rfl (hb hby at_210) rfl (teq (rfl : own_bI true = 1)).2 k_) ?_
      show Goes p e below s _ _ _ (T71.setTop (mkF m 213 #[.val (.long qa), .second, .val (.long qb), .second, .val (.long qc), .second, .val (.long qd), .second, .val (.int md), .val (.long t1), .second, .val (.long t2), .second, .val (.long t3), .second, .val (.long t4), .second, .val (.long (2000000 : Int64)), .second, .val (.int vm), .val (.ref b54), .val (.int (1 : Int32)), .val (.int (own_bI false)), .val (.int (own_bI false)), .val (.long (t3 - t2)), .second, .val (.int (1 : Int32)), .val (.int (own_bI true)), .unset, .unset, .unset, .unset] []))
      refine Goes.st (fun t_ k_ => XS.iconst X71.here hx rfl (hb hby at_213) k_) ?_
      show Goes p e below s _ _ _ (T71.setTop (mkF m 214 #[.val (.long qa), .second, .val (.long qb), .second, .val (.long qc), .second, .val (.long qd), .second, .val (.int md), .val (.long t1), .second, .val (.long t2), .second, .val (.long t3), .second, .val (.long t4), .second, .val (.long (2000000 : Int64)), .second, .val (.int vm), .val (.ref b54), .val (.int (1 : Int32)), .val (.int (own_bI false)), .val (.int (own_bI false)), .val (.long (t3 - t2)), .second, .val (.int (1 : Int32)), .val (.int (own_bI true)), .unset, .unset, .unset, .unset] [(.int (1 : Int32))]))
      refine Goes.st (fun t_ k_ => XS.goto X71.here hx rfl (pc0 := 214) (pc' := 218) rfl (hb hby at_214) (by decide) (by decide) k_) ?_
      show Goes p e below s _ _ _ (T71.setTop (mkF m 218 #[.val (.long qa), .second, .val (.long qb), .second, .val (.long qc), .second, .val (.long qd), .second, .val (.int md), .val (.long t1), .second, .val (.long t2), .second, .val (.long t3), .second, .val (.long t4), .second, .val (.long (2000000 : Int64)), .second, .val (.int vm), .val (.ref b54), .val (.int (1 : Int32)), .val (.int (own_bI false)), .val (.int (own_bI false)), .val (.long (t3 - t2)), .second, .val (.int (1 : Int32)), .val (.int (own_bI true)), .unset, .unset, .unset, .unset] [(.int (1 : Int32))]))
      refine Goes.st (fun t_ k_ => XS.istore X71.here hx rfl (hb hby at_218) rfl  (l' := #[.val (.long qa), .second, .val (.long qb), .second, .val (.long qc), .second, .val (.long qd), .second, .val (.int md), .val (.long t1), .second, .val (.long t2), .second, .val (.long t3), .second, .val (.long t4), .second, .val (.long (2000000 : Int64)), .second, .val (.int vm), .val (.ref b54), .val (.int (1 : Int32)), .val (.int (own_bI false)), .val (.int (own_bI false)), .val (.long (t3 - t2)), .second, .val (.int (1 : Int32)), .val (.int (own_bI true)), .unset, .unset, .unset, .unset]) rfl k_) ?_
      show Goes p e below s _ _ _ (T71.setTop (mkF m 220 #[.val (.long qa), .second, .val (.long qb), .second, .val (.long qc), .second, .val (.long qd), .second, .val (.int md), .val (.long t1), .second, .val (.long t2), .second, .val (.long t3), .second, .val (.long t4), .second, .val (.long (2000000 : Int64)), .second, .val (.int vm), .val (.ref b54), .val (.int (1 : Int32)), .val (.int (own_bI false)), .val (.int (own_bI false)), .val (.long (t3 - t2)), .second, .val (.int (1 : Int32)), .val (.int (own_bI true)), .unset, .unset, .unset, .unset] []))
      refine Goes.st (fun t_ k_ => XS.iload X71.here hx rfl (hb hby at_220) rfl  k_) ?_
      show Goes p e below s _ _ _ (T71.setTop (mkF m 222 #[.val (.long qa), .second, .val (.long qb), .second, .val (.long qc), .second, .val (.long qd), .second, .val (.int md), .val (.long t1), .second, .val (.long t2), .second, .val (.long t3), .second, .val (.long t4), .second, .val (.long (2000000 : Int64)), .second, .val (.int vm), .val (.ref b54), .val (.int (1 : Int32)), .val (.int (own_bI false)), .val (.int (own_bI false)), .val (.long (t3 - t2)), .second, .val (.int (1 : Int32)), .val (.int (own_bI true)), .unset, .unset, .unset, .unset] [(.int vm)]))
      refine Goes.st (fun t_ k_ => XS.iconst X71.here hx rfl (hb hby at_222) k_) ?_
      show Goes p e below s _ _ _ (T71.setTop (mkF m 223 #[.val (.long qa), .second, .val (.long qb), .second, .val (.long qc), .second, .val (.long qd), .second, .val (.int md), .val (.long t1), .second, .val (.long t2), .second, .val (.long t3), .second, .val (.long t4), .second, .val (.long (2000000 : Int64)), .second, .val (.int vm), .val (.ref b54), .val (.int (1 : Int32)), .val (.int (own_bI false)), .val (.int (own_bI false)), .val (.long (t3 - t2)), .second, .val (.int (1 : Int32)), .val (.int (own_bI true)), .unset, .unset, .unset, .unset] [(.int (1 : Int32)), (.int vm)]))
      by_cases hv1 : vm = (1 : Int32)
      · refine Goes.st (fun t_ k_ => XS.icmpNo X71.here hx rfl (hb hby at_223) rfl (teq hv1).2 k_) ?_
        show Goes p e below s _ _ _ (T71.setTop (mkF m 226 #[.val (.long qa), .second, .val (.long qb), .second, .val (.long qc), .second, .val (.long qd), .second, .val (.int md), .val (.long t1), .second, .val (.long t2), .second, .val (.long t3), .second, .val (.long t4), .second, .val (.long (2000000 : Int64)), .second, .val (.int vm), .val (.ref b54), .val (.int (1 : Int32)), .val (.int (own_bI false)), .val (.int (own_bI false)), .val (.long (t3 - t2)), .second, .val (.int (1 : Int32)), .val (.int (own_bI true)), .unset, .unset, .unset, .unset] []))
        refine Goes.st (fun t_ k_ => XS.iload X71.here hx rfl (hb hby at_226) rfl  k_) ?_
        show Goes p e below s _ _ _ (T71.setTop (mkF m 228 #[.val (.long qa), .second, .val (.long qb), .second, .val (.long qc), .second, .val (.long qd), .second, .val (.int md), .val (.long t1), .second, .val (.long t2), .second, .val (.long t3), .second, .val (.long t4), .second, .val (.long (2000000 : Int64)), .second, .val (.int vm), .val (.ref b54), .val (.int (1 : Int32)), .val (.int (own_bI false)), .val (.int (own_bI false)), .val (.long (t3 - t2)), .second, .val (.int (1 : Int32)), .val (.int (own_bI true)), .unset, .unset, .unset, .unset] [(.int (1 : Int32))]))
        exact Goes.retN X71 hx (t := .boolean) hret hlk (by simp) (hb hby at_228) (by decide) (by decide) (⟨rfl, N71⟩)
      · refine Goes.st (fun t_ k_ => XS.icmpYes X71.here hx rfl (pc0 := 223) (pc' := 229) rfl (hb hby at_223) rfl (feq hv1).2 (by decide) (by decide) k_) ?_
        show Goes p e below s _ _ _ (T71.setTop (mkF m 229 #[.val (.long qa), .second, .val (.long qb), .second, .val (.long qc), .second, .val (.long qd), .second, .val (.int md), .val (.long t1), .second, .val (.long t2), .second, .val (.long t3), .second, .val (.long t4), .second, .val (.long (2000000 : Int64)), .second, .val (.int vm), .val (.ref b54), .val (.int (1 : Int32)), .val (.int (own_bI false)), .val (.int (own_bI false)), .val (.long (t3 - t2)), .second, .val (.int (1 : Int32)), .val (.int (own_bI true)), .unset, .unset, .unset, .unset] []))
        refine Goes.st (fun t_ k_ => XS.lload X71.here hx rfl (hb hby at_229) rfl  k_) ?_
        show Goes p e below s _ _ _ (T71.setTop (mkF m 231 #[.val (.long qa), .second, .val (.long qb), .second, .val (.long qc), .second, .val (.long qd), .second, .val (.int md), .val (.long t1), .second, .val (.long t2), .second, .val (.long t3), .second, .val (.long t4), .second, .val (.long (2000000 : Int64)), .second, .val (.int vm), .val (.ref b54), .val (.int (1 : Int32)), .val (.int (own_bI false)), .val (.int (own_bI false)), .val (.long (t3 - t2)), .second, .val (.int (1 : Int32)), .val (.int (own_bI true)), .unset, .unset, .unset, .unset] [(.long (t3 - t2))]))
        refine Goes.st (fun t_ k_ => XS.lload X71.here hx rfl (hb hby at_231) rfl  k_) ?_
        show Goes p e below s _ _ _ (T71.setTop (mkF m 233 #[.val (.long qa), .second, .val (.long qb), .second, .val (.long qc), .second, .val (.long qd), .second, .val (.int md), .val (.long t1), .second, .val (.long t2), .second, .val (.long t3), .second, .val (.long t4), .second, .val (.long (2000000 : Int64)), .second, .val (.int vm), .val (.ref b54), .val (.int (1 : Int32)), .val (.int (own_bI false)), .val (.int (own_bI false)), .val (.long (t3 - t2)), .second, .val (.int (1 : Int32)), .val (.int (own_bI true)), .unset, .unset, .unset, .unset] [(.long t4), (.long (t3 - t2))]))
        refine Goes.st (fun t_ k_ => XS.lload X71.here hx rfl (hb hby at_233) rfl  k_) ?_
        show Goes p e below s _ _ _ (T71.setTop (mkF m 235 #[.val (.long qa), .second, .val (.long qb), .second, .val (.long qc), .second, .val (.long qd), .second, .val (.int md), .val (.long t1), .second, .val (.long t2), .second, .val (.long t3), .second, .val (.long t4), .second, .val (.long (2000000 : Int64)), .second, .val (.int vm), .val (.ref b54), .val (.int (1 : Int32)), .val (.int (own_bI false)), .val (.int (own_bI false)), .val (.long (t3 - t2)), .second, .val (.int (1 : Int32)), .val (.int (own_bI true)), .unset, .unset, .unset, .unset] [(.long t3), (.long t4), (.long (t3 - t2))]))
        refine Goes.st (fun t_ k_ => XS.lsub X71.here hx rfl (hb hby at_235) rfl k_) ?_
        show Goes p e below s _ _ _ (T71.setTop (mkF m 236 #[.val (.long qa), .second, .val (.long qb), .second, .val (.long qc), .second, .val (.long qd), .second, .val (.int md), .val (.long t1), .second, .val (.long t2), .second, .val (.long t3), .second, .val (.long t4), .second, .val (.long (2000000 : Int64)), .second, .val (.int vm), .val (.ref b54), .val (.int (1 : Int32)), .val (.int (own_bI false)), .val (.int (own_bI false)), .val (.long (t3 - t2)), .second, .val (.int (1 : Int32)), .val (.int (own_bI true)), .unset, .unset, .unset, .unset] [(.long (t4 - t3)), (.long (t3 - t2))]))
        refine Goes.st (fun t_ k_ => XS.ladd X71.here hx rfl (hb hby at_236) rfl k_) ?_
        show Goes p e below s _ _ _ (T71.setTop (mkF m 237 #[.val (.long qa), .second, .val (.long qb), .second, .val (.long qc), .second, .val (.long qd), .second, .val (.int md), .val (.long t1), .second, .val (.long t2), .second, .val (.long t3), .second, .val (.long t4), .second, .val (.long (2000000 : Int64)), .second, .val (.int vm), .val (.ref b54), .val (.int (1 : Int32)), .val (.int (own_bI false)), .val (.int (own_bI false)), .val (.long (t3 - t2)), .second, .val (.int (1 : Int32)), .val (.int (own_bI true)), .unset, .unset, .unset, .unset] [(.long ((t3 - t2) + (t4 - t3)))]))
        refine Goes.st (fun t_ k_ => XS.lstore X71.here hx rfl (hb hby at_237) rfl  (l' := #[.val (.long qa), .second, .val (.long qb), .second, .val (.long qc), .second, .val (.long qd), .second, .val (.int md), .val (.long t1), .second, .val (.long t2), .second, .val (.long t3), .second, .val (.long t4), .second, .val (.long (2000000 : Int64)), .second, .val (.int vm), .val (.ref b54), .val (.int (1 : Int32)), .val (.int (own_bI false)), .val (.int (own_bI false)), .val (.long (t3 - t2)), .second, .val (.int (1 : Int32)), .val (.int (own_bI true)), .val (.long ((t3 - t2) + (t4 - t3))), .second, .unset, .unset]) rfl k_) ?_
        show Goes p e below s _ _ _ (T71.setTop (mkF m 239 #[.val (.long qa), .second, .val (.long qb), .second, .val (.long qc), .second, .val (.long qd), .second, .val (.int md), .val (.long t1), .second, .val (.long t2), .second, .val (.long t3), .second, .val (.long t4), .second, .val (.long (2000000 : Int64)), .second, .val (.int vm), .val (.ref b54), .val (.int (1 : Int32)), .val (.int (own_bI false)), .val (.int (own_bI false)), .val (.long (t3 - t2)), .second, .val (.int (1 : Int32)), .val (.int (own_bI true)), .val (.long ((t3 - t2) + (t4 - t3))), .second, .unset, .unset] []))
        refine Goes.st (fun t_ k_ => XS.iload X71.here hx rfl (hb hby at_239) rfl  k_) ?_
        show Goes p e below s _ _ _ (T71.setTop (mkF m 241 #[.val (.long qa), .second, .val (.long qb), .second, .val (.long qc), .second, .val (.long qd), .second, .val (.int md), .val (.long t1), .second, .val (.long t2), .second, .val (.long t3), .second, .val (.long t4), .second, .val (.long (2000000 : Int64)), .second, .val (.int vm), .val (.ref b54), .val (.int (1 : Int32)), .val (.int (own_bI false)), .val (.int (own_bI false)), .val (.long (t3 - t2)), .second, .val (.int (1 : Int32)), .val (.int (own_bI true)), .val (.long ((t3 - t2) + (t4 - t3))), .second, .unset, .unset] [(.int vm)]))
        refine Goes.st (fun t_ k_ => XS.iconst X71.here hx rfl (hb hby at_241) k_) ?_
        show Goes p e below s _ _ _ (T71.setTop (mkF m 242 #[.val (.long qa), .second, .val (.long qb), .second, .val (.long qc), .second, .val (.long qd), .second, .val (.int md), .val (.long t1), .second, .val (.long t2), .second, .val (.long t3), .second, .val (.long t4), .second, .val (.long (2000000 : Int64)), .second, .val (.int vm), .val (.ref b54), .val (.int (1 : Int32)), .val (.int (own_bI false)), .val (.int (own_bI false)), .val (.long (t3 - t2)), .second, .val (.int (1 : Int32)), .val (.int (own_bI true)), .val (.long ((t3 - t2) + (t4 - t3))), .second, .unset, .unset] [(.int (2 : Int32)), (.int vm)]))
        by_cases hv2 : vm = (2 : Int32)
        · refine Goes.st (fun t_ k_ => XS.icmpNo X71.here hx rfl (hb hby at_242) rfl (teq hv2).2 k_) ?_
          show Goes p e below s _ _ _ (T71.setTop (mkF m 245 #[.val (.long qa), .second, .val (.long qb), .second, .val (.long qc), .second, .val (.long qd), .second, .val (.int md), .val (.long t1), .second, .val (.long t2), .second, .val (.long t3), .second, .val (.long t4), .second, .val (.long (2000000 : Int64)), .second, .val (.int vm), .val (.ref b54), .val (.int (1 : Int32)), .val (.int (own_bI false)), .val (.int (own_bI false)), .val (.long (t3 - t2)), .second, .val (.int (1 : Int32)), .val (.int (own_bI true)), .val (.long ((t3 - t2) + (t4 - t3))), .second, .unset, .unset] []))
          refine Goes.st (fun t_ k_ => XS.aload X71.here hx rfl (hb hby at_245) rfl rfl k_) ?_
          show Goes p e below s _ _ _ (T71.setTop (mkF m 247 #[.val (.long qa), .second, .val (.long qb), .second, .val (.long qc), .second, .val (.long qd), .second, .val (.int md), .val (.long t1), .second, .val (.long t2), .second, .val (.long t3), .second, .val (.long t4), .second, .val (.long (2000000 : Int64)), .second, .val (.int vm), .val (.ref b54), .val (.int (1 : Int32)), .val (.int (own_bI false)), .val (.int (own_bI false)), .val (.long (t3 - t2)), .second, .val (.int (1 : Int32)), .val (.int (own_bI true)), .val (.long ((t3 - t2) + (t4 - t3))), .second, .unset, .unset] [(.ref b54)]))
          refine Goes.st (fun t_ k_ => XS.lload X71.here hx rfl (hb hby at_247) rfl  k_) ?_
          show Goes p e below s _ _ _ (T71.setTop (mkF m 249 #[.val (.long qa), .second, .val (.long qb), .second, .val (.long qc), .second, .val (.long qd), .second, .val (.int md), .val (.long t1), .second, .val (.long t2), .second, .val (.long t3), .second, .val (.long t4), .second, .val (.long (2000000 : Int64)), .second, .val (.int vm), .val (.ref b54), .val (.int (1 : Int32)), .val (.int (own_bI false)), .val (.int (own_bI false)), .val (.long (t3 - t2)), .second, .val (.int (1 : Int32)), .val (.int (own_bI true)), .val (.long ((t3 - t2) + (t4 - t3))), .second, .unset, .unset] [(.long t4), (.ref b54)]))
          obtain ⟨cq72, kq72, q72a, q72b, q72c⟩ := isOf hZ EQ10 E_b54
          obtain ⟨_, _, ⟨T72, L72, k72, n72⟩, -, X72, ⟨Lc72, hQ72, l72, y72, z72⟩, st72⟩ := X71.virtualBack hx (y := (⟨"com/example/delaunet/delaunet/core/sim/Pace", "end", "(J)V"⟩ : MethodName)) (z := (⟨"com/example/delaunet/delaunet/core/sim/Pace", "end", "(J)V"⟩ : MethodName)) hown (mvT hZ (hw _ (List.mem_of_getElem? (i := 56) rfl))) (mvT hZ (hw _ (List.mem_of_getElem? (i := 35) rfl))) (notFace_of_selects (args := #[]) (mvT hZ (hw _ (List.mem_of_getElem? (i := 37) rfl)))) (mvT hZ (hw _ (List.mem_of_getElem? (i := 37) rfl))) (mvT hZ (hw _ (List.mem_of_getElem? (i := 36) rfl))) (by decide) (backOf (W := 0) (own_rmE l Z a0 hw [] b54 t4 ah 3 (0 + (t3 - t2)) t3 ((0 + (t3 - t2)) + (t4 - t3)) T63.heap n0 Z0''''' HP (by simp [own_sp, hb_t3]) gn_b54) hZ (hw _ (List.mem_of_getElem? (i := 38) rfl)) (hw _ (List.mem_of_getElem? (i := 4) rfl)) (by decide) (by decide)) q72a q72c (g := (mkF m 249 #[.val (.long qa), .second, .val (.long qb), .second, .val (.long qc), .second, .val (.long qd), .second, .val (.int md), .val (.long t1), .second, .val (.long t2), .second, .val (.long t3), .second, .val (.long t4), .second, .val (.long (2000000 : Int64)), .second, .val (.int vm), .val (.ref b54), .val (.int (1 : Int32)), .val (.int (own_bI false)), .val (.int (own_bI false)), .val (.long (t3 - t2)), .second, .val (.int (1 : Int32)), .val (.int (own_bI true)), .val (.long ((t3 - t2) + (t4 - t3))), .second, .unset, .unset] [(.long t4), (.ref b54)])) rfl (by rw [hml]; rfl) (Steps.refl _) (argsL := [(.long t4)]) (rest := []) (lenOf own_pd65 rfl) rfl (by show 2 * 0 + _ ≤ _; exact Nat.le_of_eq rfl) (hb hby at_249) (fun _ _ => ⟨rfl, EQ10, (by decide : 3 + 0 ≤ _), (by decide : 21 + 0 ≤ _)⟩)
          dsimp only [Pt.U, Pt.locs, Pt.cells, Pt.slots] at X72 l72 y72 z72 st72 hQ72
          subst l72 y72 z72
          obtain ⟨rfl, N72q, KE, HP⟩ := hQ72
          have N72 := Fr.app N71 N72q
          refine Goes.tr st72 ?_
          have V_ah := V_ah.keep KE (ninS (Ne.symm nah) nin0)
          have Z0'''''' := Nat.le_trans Z0''''' KE.1
          have HP' := HP
          obtain ⟨E_b54, Fs_b54, Fa_b54, Fd_b54, Fp_b54, Fi_b54, Fh_b54, Ft_b54, Fr_b54⟩ := HP'
          show Goes p e below s _ _ _ (T72.setTop (mkF m 252 #[.val (.long qa), .second, .val (.long qb), .second, .val (.long qc), .second, .val (.long qd), .second, .val (.int md), .val (.long t1), .second, .val (.long t2), .second, .val (.long t3), .second, .val (.long t4), .second, .val (.long (2000000 : Int64)), .second, .val (.int vm), .val (.ref b54), .val (.int (1 : Int32)), .val (.int (own_bI false)), .val (.int (own_bI false)), .val (.long (t3 - t2)), .second, .val (.int (1 : Int32)), .val (.int (own_bI true)), .val (.long ((t3 - t2) + (t4 - t3))), .second, .unset, .unset] []))
          refine Goes.st (fun t_ k_ => XS.aload X72.here hx rfl (hb hby at_252) rfl rfl k_) ?_
          show Goes p e below s _ _ _ (T72.setTop (mkF m 254 #[.val (.long qa), .second, .val (.long qb), .second, .val (.long qc), .second, .val (.long qd), .second, .val (.int md), .val (.long t1), .second, .val (.long t2), .second, .val (.long t3), .second, .val (.long t4), .second, .val (.long (2000000 : Int64)), .second, .val (.int vm), .val (.ref b54), .val (.int (1 : Int32)), .val (.int (own_bI false)), .val (.int (own_bI false)), .val (.long (t3 - t2)), .second, .val (.int (1 : Int32)), .val (.int (own_bI true)), .val (.long ((t3 - t2) + (t4 - t3))), .second, .unset, .unset] [(.ref b54)]))
          have e4 : ((t3 - t2) + (t4 - t3)) = ((0 + (t3 - t2)) + (t4 - t3)) := by simp
          by_cases h4 : ((0 + (t3 - t2)) + (t4 - t3)) < 2000000
          · obtain ⟨cq73, kq73, q73a, q73b, q73c⟩ := isOf hZ rfl E_b54
            obtain ⟨_, _, ⟨T73, L73, k73, n73⟩, -, X73, ⟨Lc73, hQ73, l73, y73, z73⟩, st73⟩ := X72.virtualBack hx (y := (⟨"com/example/delaunet/delaunet/core/sim/Pace", "complete", "()Z"⟩ : MethodName)) (z := (⟨"com/example/delaunet/delaunet/core/sim/Pace", "complete", "()Z"⟩ : MethodName)) hown (mvT hZ (hw _ (List.mem_of_getElem? (i := 19) rfl))) (mvT hZ (hw _ (List.mem_of_getElem? (i := 20) rfl))) (notFace_of_selects (args := #[]) (mvT hZ (hw _ (List.mem_of_getElem? (i := 22) rfl)))) (mvT hZ (hw _ (List.mem_of_getElem? (i := 22) rfl))) (mvT hZ (hw _ (List.mem_of_getElem? (i := 21) rfl))) (by decide) (backOf (W := 0) (own_rmC l Z a0 hw [] b54 3 ((0 + (t3 - t2)) + (t4 - t3)) false T72.heap n0 Z0'''''' Fs_b54 Fd_b54 Fp_b54 (by exact own_dN (by decide) h4)) hZ (hw _ (List.mem_of_getElem? (i := 23) rfl)) (hw _ (List.mem_of_getElem? (i := 4) rfl)) (by decide) (by decide)) q73a q73c (g := (mkF m 254 #[.val (.long qa), .second, .val (.long qb), .second, .val (.long qc), .second, .val (.long qd), .second, .val (.int md), .val (.long t1), .second, .val (.long t2), .second, .val (.long t3), .second, .val (.long t4), .second, .val (.long (2000000 : Int64)), .second, .val (.int vm), .val (.ref b54), .val (.int (1 : Int32)), .val (.int (own_bI false)), .val (.int (own_bI false)), .val (.long (t3 - t2)), .second, .val (.int (1 : Int32)), .val (.int (own_bI true)), .val (.long ((t3 - t2) + (t4 - t3))), .second, .unset, .unset] [(.ref b54)])) rfl (by rw [hml]; rfl) (Steps.refl _) (argsL := []) (rest := []) (lenOf own_pd60 rfl) rfl (by show 2 * 0 + _ ≤ _; exact Nat.le_of_eq rfl) (hb hby at_254) (fun _ _ => ⟨rfl, rfl, (by decide : 3 + 0 ≤ _), (by decide : 21 + 0 ≤ _)⟩)
            dsimp only [Pt.U, Pt.locs, Pt.cells, Pt.slots] at X73 l73 y73 z73 st73 hQ73
            subst l73 y73 z73
            obtain ⟨rfl, N73q, EQ11⟩ := hQ73
            have N73 := Fr.app N72 N73q
            refine Goes.tr st73 ?_
            show Goes p e below s _ _ _ (T73.setTop (mkF m 257 #[.val (.long qa), .second, .val (.long qb), .second, .val (.long qc), .second, .val (.long qd), .second, .val (.int md), .val (.long t1), .second, .val (.long t2), .second, .val (.long t3), .second, .val (.long t4), .second, .val (.long (2000000 : Int64)), .second, .val (.int vm), .val (.ref b54), .val (.int (1 : Int32)), .val (.int (own_bI false)), .val (.int (own_bI false)), .val (.long (t3 - t2)), .second, .val (.int (1 : Int32)), .val (.int (own_bI true)), .val (.long ((t3 - t2) + (t4 - t3))), .second, .unset, .unset] [(.int (own_bI false))]))
            refine Goes.st (fun t_ k_ => XS.istore X73.here hx rfl (hb hby at_257) rfl  (l' := #[.val (.long qa), .second, .val (.long qb), .second, .val (.long qc), .second, .val (.long qd), .second, .val (.int md), .val (.long t1), .second, .val (.long t2), .second, .val (.long t3), .second, .val (.long t4), .second, .val (.long (2000000 : Int64)), .second, .val (.int vm), .val (.ref b54), .val (.int (1 : Int32)), .val (.int (own_bI false)), .val (.int (own_bI false)), .val (.long (t3 - t2)), .second, .val (.int (1 : Int32)), .val (.int (own_bI true)), .val (.long ((t3 - t2) + (t4 - t3))), .second, .val (.int (own_bI false)), .unset]) rfl k_) ?_
            show Goes p e below s _ _ _ (T73.setTop (mkF m 259 #[.val (.long qa), .second, .val (.long qb), .second, .val (.long qc), .second, .val (.long qd), .second, .val (.int md), .val (.long t1), .second, .val (.long t2), .second, .val (.long t3), .second, .val (.long t4), .second, .val (.long (2000000 : Int64)), .second, .val (.int vm), .val (.ref b54), .val (.int (1 : Int32)), .val (.int (own_bI false)), .val (.int (own_bI false)), .val (.long (t3 - t2)), .second, .val (.int (1 : Int32)), .val (.int (own_bI true)), .val (.long ((t3 - t2) + (t4 - t3))), .second, .val (.int (own_bI false)), .unset] []))
            refine Goes.st (fun t_ k_ => XS.iload X73.here hx rfl (hb hby at_259) rfl  k_) ?_
            show Goes p e below s _ _ _ (T73.setTop (mkF m 261 #[.val (.long qa), .second, .val (.long qb), .second, .val (.long qc), .second, .val (.long qd), .second, .val (.int md), .val (.long t1), .second, .val (.long t2), .second, .val (.long t3), .second, .val (.long t4), .second, .val (.long (2000000 : Int64)), .second, .val (.int vm), .val (.ref b54), .val (.int (1 : Int32)), .val (.int (own_bI false)), .val (.int (own_bI false)), .val (.long (t3 - t2)), .second, .val (.int (1 : Int32)), .val (.int (own_bI true)), .val (.long ((t3 - t2) + (t4 - t3))), .second, .val (.int (own_bI false)), .unset] [(.int (1 : Int32))]))
            refine Goes.st (fun t_ k_ => XS.ifNo X73.here hx rfl (hb hby at_261) rfl ((if0 _ _).trans (feq (by decide)).1) k_) ?_
            show Goes p e below s _ _ _ (T73.setTop (mkF m 264 #[.val (.long qa), .second, .val (.long qb), .second, .val (.long qc), .second, .val (.long qd), .second, .val (.int md), .val (.long t1), .second, .val (.long t2), .second, .val (.long t3), .second, .val (.long t4), .second, .val (.long (2000000 : Int64)), .second, .val (.int vm), .val (.ref b54), .val (.int (1 : Int32)), .val (.int (own_bI false)), .val (.int (own_bI false)), .val (.long (t3 - t2)), .second, .val (.int (1 : Int32)), .val (.int (own_bI true)), .val (.long ((t3 - t2) + (t4 - t3))), .second, .val (.int (own_bI false)), .unset] []))
            refine Goes.st (fun t_ k_ => XS.iload X73.here hx rfl (hb hby at_264) rfl  k_) ?_
            show Goes p e below s _ _ _ (T73.setTop (mkF m 266 #[.val (.long qa), .second, .val (.long qb), .second, .val (.long qc), .second, .val (.long qd), .second, .val (.int md), .val (.long t1), .second, .val (.long t2), .second, .val (.long t3), .second, .val (.long t4), .second, .val (.long (2000000 : Int64)), .second, .val (.int vm), .val (.ref b54), .val (.int (1 : Int32)), .val (.int (own_bI false)), .val (.int (own_bI false)), .val (.long (t3 - t2)), .second, .val (.int (1 : Int32)), .val (.int (own_bI true)), .val (.long ((t3 - t2) + (t4 - t3))), .second, .val (.int (own_bI false)), .unset] [(.int (own_bI false))]))
            refine Goes.st (fun t_ k_ => XS.lload X73.here hx rfl (hb hby at_266) rfl  k_) ?_
            show Goes p e below s _ _ _ (T73.setTop (mkF m 268 #[.val (.long qa), .second, .val (.long qb), .second, .val (.long qc), .second, .val (.long qd), .second, .val (.int md), .val (.long t1), .second, .val (.long t2), .second, .val (.long t3), .second, .val (.long t4), .second, .val (.long (2000000 : Int64)), .second, .val (.int vm), .val (.ref b54), .val (.int (1 : Int32)), .val (.int (own_bI false)), .val (.int (own_bI false)), .val (.long (t3 - t2)), .second, .val (.int (1 : Int32)), .val (.int (own_bI true)), .val (.long ((t3 - t2) + (t4 - t3))), .second, .val (.int (own_bI false)), .unset] [(.long ((t3 - t2) + (t4 - t3))), (.int (own_bI false))]))
            refine Goes.st (fun t_ k_ => XS.lload X73.here hx rfl (hb hby at_268) rfl  k_) ?_
            show Goes p e below s _ _ _ (T73.setTop (mkF m 270 #[.val (.long qa), .second, .val (.long qb), .second, .val (.long qc), .second, .val (.long qd), .second, .val (.int md), .val (.long t1), .second, .val (.long t2), .second, .val (.long t3), .second, .val (.long t4), .second, .val (.long (2000000 : Int64)), .second, .val (.int vm), .val (.ref b54), .val (.int (1 : Int32)), .val (.int (own_bI false)), .val (.int (own_bI false)), .val (.long (t3 - t2)), .second, .val (.int (1 : Int32)), .val (.int (own_bI true)), .val (.long ((t3 - t2) + (t4 - t3))), .second, .val (.int (own_bI false)), .unset] [(.long (2000000 : Int64)), (.long ((t3 - t2) + (t4 - t3))), (.int (own_bI false))]))
            refine Goes.st (fun t_ k_ => XS.lcmp X73.here hx rfl (hb hby at_270) rfl k_) ?_
            show Goes p e below s _ _ _ (T73.setTop (mkF m 271 #[.val (.long qa), .second, .val (.long qb), .second, .val (.long qc), .second, .val (.long qd), .second, .val (.int md), .val (.long t1), .second, .val (.long t2), .second, .val (.long t3), .second, .val (.long t4), .second, .val (.long (2000000 : Int64)), .second, .val (.int vm), .val (.ref b54), .val (.int (1 : Int32)), .val (.int (own_bI false)), .val (.int (own_bI false)), .val (.long (t3 - t2)), .second, .val (.int (1 : Int32)), .val (.int (own_bI true)), .val (.long ((t3 - t2) + (t4 - t3))), .second, .val (.int (own_bI false)), .unset] [(.int (lcmpW ((t3 - t2) + (t4 - t3)) (2000000 : Int64))), (.int (own_bI false))]))
            refine Goes.st (fun t_ k_ => XS.ifYes X73.here hx rfl (pc0 := 271) (pc' := 278) rfl (hb hby at_271) rfl ((if0 _ _).trans (tlt ((lw_lt _ _).mpr (by rw [e4]; exact h4))).1) (by decide) (by decide) k_) ?_
            show Goes p e below s _ _ _ (T73.setTop (mkF m 278 #[.val (.long qa), .second, .val (.long qb), .second, .val (.long qc), .second, .val (.long qd), .second, .val (.int md), .val (.long t1), .second, .val (.long t2), .second, .val (.long t3), .second, .val (.long t4), .second, .val (.long (2000000 : Int64)), .second, .val (.int vm), .val (.ref b54), .val (.int (1 : Int32)), .val (.int (own_bI false)), .val (.int (own_bI false)), .val (.long (t3 - t2)), .second, .val (.int (1 : Int32)), .val (.int (own_bI true)), .val (.long ((t3 - t2) + (t4 - t3))), .second, .val (.int (own_bI false)), .unset] [(.int (own_bI false))]))
            refine Goes.st (fun t_ k_ => XS.iconst X73.here hx rfl (hb hby at_278) k_) ?_
            show Goes p e below s _ _ _ (T73.setTop (mkF m 279 #[.val (.long qa), .second, .val (.long qb), .second, .val (.long qc), .second, .val (.long qd), .second, .val (.int md), .val (.long t1), .second, .val (.long t2), .second, .val (.long t3), .second, .val (.long t4), .second, .val (.long (2000000 : Int64)), .second, .val (.int vm), .val (.ref b54), .val (.int (1 : Int32)), .val (.int (own_bI false)), .val (.int (own_bI false)), .val (.long (t3 - t2)), .second, .val (.int (1 : Int32)), .val (.int (own_bI true)), .val (.long ((t3 - t2) + (t4 - t3))), .second, .val (.int (own_bI false)), .unset] [(.int (0 : Int32)), (.int (own_bI false))]))
            refine Goes.st (fun t_ k_ => XS.icmpNo X73.here hx rfl (hb hby at_279) rfl (teq (rfl : own_bI false = 0)).2 k_) ?_
            show Goes p e below s _ _ _ (T73.setTop (mkF m 282 #[.val (.long qa), .second, .val (.long qb), .second, .val (.long qc), .second, .val (.long qd), .second, .val (.int md), .val (.long t1), .second, .val (.long t2), .second, .val (.long t3), .second, .val (.long t4), .second, .val (.long (2000000 : Int64)), .second, .val (.int vm), .val (.ref b54), .val (.int (1 : Int32)), .val (.int (own_bI false)), .val (.int (own_bI false)), .val (.long (t3 - t2)), .second, .val (.int (1 : Int32)), .val (.int (own_bI true)), .val (.long ((t3 - t2) + (t4 - t3))), .second, .val (.int (own_bI false)), .unset] []))
            refine Goes.st (fun t_ k_ => XS.iconst X73.here hx rfl (hb hby at_282) k_) ?_
            show Goes p e below s _ _ _ (T73.setTop (mkF m 283 #[.val (.long qa), .second, .val (.long qb), .second, .val (.long qc), .second, .val (.long qd), .second, .val (.int md), .val (.long t1), .second, .val (.long t2), .second, .val (.long t3), .second, .val (.long t4), .second, .val (.long (2000000 : Int64)), .second, .val (.int vm), .val (.ref b54), .val (.int (1 : Int32)), .val (.int (own_bI false)), .val (.int (own_bI false)), .val (.long (t3 - t2)), .second, .val (.int (1 : Int32)), .val (.int (own_bI true)), .val (.long ((t3 - t2) + (t4 - t3))), .second, .val (.int (own_bI false)), .unset] [(.int (1 : Int32))]))
            refine Goes.st (fun t_ k_ => XS.goto X73.here hx rfl (pc0 := 283) (pc' := 287) rfl (hb hby at_283) (by decide) (by decide) k_) ?_
            show Goes p e below s _ _ _ (T73.setTop (mkF m 287 #[.val (.long qa), .second, .val (.long qb), .second, .val (.long qc), .second, .val (.long qd), .second, .val (.int md), .val (.long t1), .second, .val (.long t2), .second, .val (.long t3), .second, .val (.long t4), .second, .val (.long (2000000 : Int64)), .second, .val (.int vm), .val (.ref b54), .val (.int (1 : Int32)), .val (.int (own_bI false)), .val (.int (own_bI false)), .val (.long (t3 - t2)), .second, .val (.int (1 : Int32)), .val (.int (own_bI true)), .val (.long ((t3 - t2) + (t4 - t3))), .second, .val (.int (own_bI false)), .unset] [(.int (1 : Int32))]))
            exact Goes.retN X73 hx (t := .boolean) hret hlk (by simp) (hb hby at_287) (by decide) (by decide) (⟨rfl, N73⟩)
          · obtain ⟨cq74, kq74, q74a, q74b, q74c⟩ := isOf hZ rfl E_b54
            obtain ⟨_, _, ⟨T74, L74, k74, n74⟩, -, X74, ⟨Lc74, hQ74, l74, y74, z74⟩, st74⟩ := X72.virtualBack hx (y := (⟨"com/example/delaunet/delaunet/core/sim/Pace", "complete", "()Z"⟩ : MethodName)) (z := (⟨"com/example/delaunet/delaunet/core/sim/Pace", "complete", "()Z"⟩ : MethodName)) hown (mvT hZ (hw _ (List.mem_of_getElem? (i := 19) rfl))) (mvT hZ (hw _ (List.mem_of_getElem? (i := 20) rfl))) (notFace_of_selects (args := #[]) (mvT hZ (hw _ (List.mem_of_getElem? (i := 22) rfl)))) (mvT hZ (hw _ (List.mem_of_getElem? (i := 22) rfl))) (mvT hZ (hw _ (List.mem_of_getElem? (i := 21) rfl))) (by decide) (backOf (W := 0) (own_rmC l Z a0 hw [] b54 3 ((0 + (t3 - t2)) + (t4 - t3)) true T72.heap n0 Z0'''''' Fs_b54 Fd_b54 Fp_b54 (by exact own_dT (by decide) h4)) hZ (hw _ (List.mem_of_getElem? (i := 23) rfl)) (hw _ (List.mem_of_getElem? (i := 4) rfl)) (by decide) (by decide)) q74a q74c (g := (mkF m 254 #[.val (.long qa), .second, .val (.long qb), .second, .val (.long qc), .second, .val (.long qd), .second, .val (.int md), .val (.long t1), .second, .val (.long t2), .second, .val (.long t3), .second, .val (.long t4), .second, .val (.long (2000000 : Int64)), .second, .val (.int vm), .val (.ref b54), .val (.int (1 : Int32)), .val (.int (own_bI false)), .val (.int (own_bI false)), .val (.long (t3 - t2)), .second, .val (.int (1 : Int32)), .val (.int (own_bI true)), .val (.long ((t3 - t2) + (t4 - t3))), .second, .unset, .unset] [(.ref b54)])) rfl (by rw [hml]; rfl) (Steps.refl _) (argsL := []) (rest := []) (lenOf own_pd60 rfl) rfl (by show 2 * 0 + _ ≤ _; exact Nat.le_of_eq rfl) (hb hby at_254) (fun _ _ => ⟨rfl, rfl, (by decide : 3 + 0 ≤ _), (by decide : 21 + 0 ≤ _)⟩)
            dsimp only [Pt.U, Pt.locs, Pt.cells, Pt.slots] at X74 l74 y74 z74 st74 hQ74
            subst l74 y74 z74
            obtain ⟨rfl, N74q, EQ12⟩ := hQ74
            have N74 := Fr.app N72 N74q
            refine Goes.tr st74 ?_
            show Goes p e below s _ _ _ (T74.setTop (mkF m 257 #[.val (.long qa), .second, .val (.long qb), .second, .val (.long qc), .second, .val (.long qd), .second, .val (.int md), .val (.long t1), .second, .val (.long t2), .second, .val (.long t3), .second, .val (.long t4), .second, .val (.long (2000000 : Int64)), .second, .val (.int vm), .val (.ref b54), .val (.int (1 : Int32)), .val (.int (own_bI false)), .val (.int (own_bI false)), .val (.long (t3 - t2)), .second, .val (.int (1 : Int32)), .val (.int (own_bI true)), .val (.long ((t3 - t2) + (t4 - t3))), .second, .unset, .unset] [(.int (own_bI true))]))
            refine Goes.st (fun t_ k_ => XS.istore X74.here hx rfl (hb hby at_257) rfl  (l' := #[.val (.long qa), .second, .val (.long qb), .second, .val (.long qc), .second, .val (.long qd), .second, .val (.int md), .val (.long t1), .second, .val (.long t2), .second, .val (.long t3), .second, .val (.long t4), .second, .val (.long (2000000 : Int64)), .second, .val (.int vm), .val (.ref b54), .val (.int (1 : Int32)), .val (.int (own_bI false)), .val (.int (own_bI false)), .val (.long (t3 - t2)), .second, .val (.int (1 : Int32)), .val (.int (own_bI true)), .val (.long ((t3 - t2) + (t4 - t3))), .second, .val (.int (own_bI true)), .unset]) rfl k_) ?_
            show Goes p e below s _ _ _ (T74.setTop (mkF m 259 #[.val (.long qa), .second, .val (.long qb), .second, .val (.long qc), .second, .val (.long qd), .second, .val (.int md), .val (.long t1), .second, .val (.long t2), .second, .val (.long t3), .second, .val (.long t4), .second, .val (.long (2000000 : Int64)), .second, .val (.int vm), .val (.ref b54), .val (.int (1 : Int32)), .val (.int (own_bI false)), .val (.int (own_bI false)), .val (.long (t3 - t2)), .second, .val (.int (1 : Int32)), .val (.int (own_bI true)), .val (.long ((t3 - t2) + (t4 - t3))), .second, .val (.int (own_bI true)), .unset] []))
            refine Goes.st (fun t_ k_ => XS.iload X74.here hx rfl (hb hby at_259) rfl  k_) ?_
            show Goes p e below s _ _ _ (T74.setTop (mkF m 261 #[.val (.long qa), .second, .val (.long qb), .second, .val (.long qc), .second, .val (.long qd), .second, .val (.int md), .val (.long t1), .second, .val (.long t2), .second, .val (.long t3), .second, .val (.long t4), .second, .val (.long (2000000 : Int64)), .second, .val (.int vm), .val (.ref b54), .val (.int (1 : Int32)), .val (.int (own_bI false)), .val (.int (own_bI false)), .val (.long (t3 - t2)), .second, .val (.int (1 : Int32)), .val (.int (own_bI true)), .val (.long ((t3 - t2) + (t4 - t3))), .second, .val (.int (own_bI true)), .unset] [(.int (1 : Int32))]))
            refine Goes.st (fun t_ k_ => XS.ifNo X74.here hx rfl (hb hby at_261) rfl ((if0 _ _).trans (feq (by decide)).1) k_) ?_
            show Goes p e below s _ _ _ (T74.setTop (mkF m 264 #[.val (.long qa), .second, .val (.long qb), .second, .val (.long qc), .second, .val (.long qd), .second, .val (.int md), .val (.long t1), .second, .val (.long t2), .second, .val (.long t3), .second, .val (.long t4), .second, .val (.long (2000000 : Int64)), .second, .val (.int vm), .val (.ref b54), .val (.int (1 : Int32)), .val (.int (own_bI false)), .val (.int (own_bI false)), .val (.long (t3 - t2)), .second, .val (.int (1 : Int32)), .val (.int (own_bI true)), .val (.long ((t3 - t2) + (t4 - t3))), .second, .val (.int (own_bI true)), .unset] []))
            refine Goes.st (fun t_ k_ => XS.iload X74.here hx rfl (hb hby at_264) rfl  k_) ?_
            show Goes p e below s _ _ _ (T74.setTop (mkF m 266 #[.val (.long qa), .second, .val (.long qb), .second, .val (.long qc), .second, .val (.long qd), .second, .val (.int md), .val (.long t1), .second, .val (.long t2), .second, .val (.long t3), .second, .val (.long t4), .second, .val (.long (2000000 : Int64)), .second, .val (.int vm), .val (.ref b54), .val (.int (1 : Int32)), .val (.int (own_bI false)), .val (.int (own_bI false)), .val (.long (t3 - t2)), .second, .val (.int (1 : Int32)), .val (.int (own_bI true)), .val (.long ((t3 - t2) + (t4 - t3))), .second, .val (.int (own_bI true)), .unset] [(.int (own_bI true))]))
            refine Goes.st (fun t_ k_ => XS.lload X74.here hx rfl (hb hby at_266) rfl  k_) ?_
            show Goes p e below s _ _ _ (T74.setTop (mkF m 268 #[.val (.long qa), .second, .val (.long qb), .second, .val (.long qc), .second, .val (.long qd), .second, .val (.int md), .val (.long t1), .second, .val (.long t2), .second, .val (.long t3), .second, .val (.long t4), .second, .val (.long (2000000 : Int64)), .second, .val (.int vm), .val (.ref b54), .val (.int (1 : Int32)), .val (.int (own_bI false)), .val (.int (own_bI false)), .val (.long (t3 - t2)), .second, .val (.int (1 : Int32)), .val (.int (own_bI true)), .val (.long ((t3 - t2) + (t4 - t3))), .second, .val (.int (own_bI true)), .unset] [(.long ((t3 - t2) + (t4 - t3))), (.int (own_bI true))]))
            refine Goes.st (fun t_ k_ => XS.lload X74.here hx rfl (hb hby at_268) rfl  k_) ?_
            show Goes p e below s _ _ _ (T74.setTop (mkF m 270 #[.val (.long qa), .second, .val (.long qb), .second, .val (.long qc), .second, .val (.long qd), .second, .val (.int md), .val (.long t1), .second, .val (.long t2), .second, .val (.long t3), .second, .val (.long t4), .second, .val (.long (2000000 : Int64)), .second, .val (.int vm), .val (.ref b54), .val (.int (1 : Int32)), .val (.int (own_bI false)), .val (.int (own_bI false)), .val (.long (t3 - t2)), .second, .val (.int (1 : Int32)), .val (.int (own_bI true)), .val (.long ((t3 - t2) + (t4 - t3))), .second, .val (.int (own_bI true)), .unset] [(.long (2000000 : Int64)), (.long ((t3 - t2) + (t4 - t3))), (.int (own_bI true))]))
            refine Goes.st (fun t_ k_ => XS.lcmp X74.here hx rfl (hb hby at_270) rfl k_) ?_
            show Goes p e below s _ _ _ (T74.setTop (mkF m 271 #[.val (.long qa), .second, .val (.long qb), .second, .val (.long qc), .second, .val (.long qd), .second, .val (.int md), .val (.long t1), .second, .val (.long t2), .second, .val (.long t3), .second, .val (.long t4), .second, .val (.long (2000000 : Int64)), .second, .val (.int vm), .val (.ref b54), .val (.int (1 : Int32)), .val (.int (own_bI false)), .val (.int (own_bI false)), .val (.long (t3 - t2)), .second, .val (.int (1 : Int32)), .val (.int (own_bI true)), .val (.long ((t3 - t2) + (t4 - t3))), .second, .val (.int (own_bI true)), .unset] [(.int (lcmpW ((t3 - t2) + (t4 - t3)) (2000000 : Int64))), (.int (own_bI true))]))
            refine Goes.st (fun t_ k_ => XS.ifNo X74.here hx rfl (hb hby at_271) rfl ((if0 _ _).trans (flt (mt (lw_lt _ _).mp (by rw [e4]; exact h4))).1) k_) ?_
            show Goes p e below s _ _ _ (T74.setTop (mkF m 274 #[.val (.long qa), .second, .val (.long qb), .second, .val (.long qc), .second, .val (.long qd), .second, .val (.int md), .val (.long t1), .second, .val (.long t2), .second, .val (.long t3), .second, .val (.long t4), .second, .val (.long (2000000 : Int64)), .second, .val (.int vm), .val (.ref b54), .val (.int (1 : Int32)), .val (.int (own_bI false)), .val (.int (own_bI false)), .val (.long (t3 - t2)), .second, .val (.int (1 : Int32)), .val (.int (own_bI true)), .val (.long ((t3 - t2) + (t4 - t3))), .second, .val (.int (own_bI true)), .unset] [(.int (own_bI true))]))
            refine Goes.st (fun t_ k_ => XS.iconst X74.here hx rfl (hb hby at_274) k_) ?_
            show Goes p e below s _ _ _ (T74.setTop (mkF m 275 #[.val (.long qa), .second, .val (.long qb), .second, .val (.long qc), .second, .val (.long qd), .second, .val (.int md), .val (.long t1), .second, .val (.long t2), .second, .val (.long t3), .second, .val (.long t4), .second, .val (.long (2000000 : Int64)), .second, .val (.int vm), .val (.ref b54), .val (.int (1 : Int32)), .val (.int (own_bI false)), .val (.int (own_bI false)), .val (.long (t3 - t2)), .second, .val (.int (1 : Int32)), .val (.int (own_bI true)), .val (.long ((t3 - t2) + (t4 - t3))), .second, .val (.int (own_bI true)), .unset] [(.int (1 : Int32)), (.int (own_bI true))]))
            refine Goes.st (fun t_ k_ => XS.goto X74.here hx rfl (pc0 := 275) (pc' := 279) rfl (hb hby at_275) (by decide) (by decide) k_) ?_
            show Goes p e below s _ _ _ (T74.setTop (mkF m 279 #[.val (.long qa), .second, .val (.long qb), .second, .val (.long qc), .second, .val (.long qd), .second, .val (.int md), .val (.long t1), .second, .val (.long t2), .second, .val (.long t3), .second, .val (.long t4), .second, .val (.long (2000000 : Int64)), .second, .val (.int vm), .val (.ref b54), .val (.int (1 : Int32)), .val (.int (own_bI false)), .val (.int (own_bI false)), .val (.long (t3 - t2)), .second, .val (.int (1 : Int32)), .val (.int (own_bI true)), .val (.long ((t3 - t2) + (t4 - t3))), .second, .val (.int (own_bI true)), .unset] [(.int (1 : Int32)), (.int (own_bI true))]))
            refine Goes.st (fun t_ k_ => XS.icmpNo X74.here hx rfl (hb hby at_279) rfl (teq (rfl : own_bI true = 1)).2 k_) ?_
            show Goes p e below s _ _ _ (T74.setTop (mkF m 282 #[.val (.long qa), .second, .val (.long qb), .second, .val (.long qc), .second, .val (.long qd), .second, .val (.int md), .val (.long t1), .second, .val (.long t2), .second, .val (.long t3), .second, .val (.long t4), .second, .val (.long (2000000 : Int64)), .second, .val (.int vm), .val (.ref b54), .val (.int (1 : Int32)), .val (.int (own_bI false)), .val (.int (own_bI false)), .val (.long (t3 - t2)), .second, .val (.int (1 : Int32)), .val (.int (own_bI true)), .val (.long ((t3 - t2) + (t4 - t3))), .second, .val (.int (own_bI true)), .unset] []))
            refine Goes.st (fun t_ k_ => XS.iconst X74.here hx rfl (hb hby at_282) k_) ?_
            show Goes p e below s _ _ _ (T74.setTop (mkF m 283 #[.val (.long qa), .second, .val (.long qb), .second, .val (.long qc), .second, .val (.long qd), .second, .val (.int md), .val (.long t1), .second, .val (.long t2), .second, .val (.long t3), .second, .val (.long t4), .second, .val (.long (2000000 : Int64)), .second, .val (.int vm), .val (.ref b54), .val (.int (1 : Int32)), .val (.int (own_bI false)), .val (.int (own_bI false)), .val (.long (t3 - t2)), .second, .val (.int (1 : Int32)), .val (.int (own_bI true)), .val (.long ((t3 - t2) + (t4 - t3))), .second, .val (.int (own_bI true)), .unset] [(.int (1 : Int32))]))
            refine Goes.st (fun t_ k_ => XS.goto X74.here hx rfl (pc0 := 283) (pc' := 287) rfl (hb hby at_283) (by decide) (by decide) k_) ?_
            show Goes p e below s _ _ _ (T74.setTop (mkF m 287 #[.val (.long qa), .second, .val (.long qb), .second, .val (.long qc), .second, .val (.long qd), .second, .val (.int md), .val (.long t1), .second, .val (.long t2), .second, .val (.long t3), .second, .val (.long t4), .second, .val (.long (2000000 : Int64)), .second, .val (.int vm), .val (.ref b54), .val (.int (1 : Int32)), .val (.int (own_bI false)), .val (.int (own_bI false)), .val (.long (t3 - t2)), .second, .val (.int (1 : Int32)), .val (.int (own_bI true)), .val (.long ((t3 - t2) + (t4 - t3))), .second, .val (.int (own_bI true)), .unset] [(.int (1 : Int32))]))
            exact Goes.retN X74 hx (t := .boolean) hret hlk (by simp) (hb hby at_287) (by decide) (by decide) (⟨rfl, N74⟩)
        · refine Goes.st (fun t_ k_ => XS.icmpYes X71.here hx rfl (pc0 := 242) (pc' := 288) rfl (hb hby at_242) rfl (feq hv2).2 (by decide) (by decide) k_) ?_
          show Goes p e below s _ _ _ (T71.setTop (mkF m 288 #[.val (.long qa), .second, .val (.long qb), .second, .val (.long qc), .second, .val (.long qd), .second, .val (.int md), .val (.long t1), .second, .val (.long t2), .second, .val (.long t3), .second, .val (.long t4), .second, .val (.long (2000000 : Int64)), .second, .val (.int vm), .val (.ref b54), .val (.int (1 : Int32)), .val (.int (own_bI false)), .val (.int (own_bI false)), .val (.long (t3 - t2)), .second, .val (.int (1 : Int32)), .val (.int (own_bI true)), .val (.long ((t3 - t2) + (t4 - t3))), .second, .unset, .unset] []))
          refine Goes.st (fun t_ k_ => XS.aload X71.here hx rfl (hb hby at_288) rfl rfl k_) ?_
          show Goes p e below s _ _ _ (T71.setTop (mkF m 290 #[.val (.long qa), .second, .val (.long qb), .second, .val (.long qc), .second, .val (.long qd), .second, .val (.int md), .val (.long t1), .second, .val (.long t2), .second, .val (.long t3), .second, .val (.long t4), .second, .val (.long (2000000 : Int64)), .second, .val (.int vm), .val (.ref b54), .val (.int (1 : Int32)), .val (.int (own_bI false)), .val (.int (own_bI false)), .val (.long (t3 - t2)), .second, .val (.int (1 : Int32)), .val (.int (own_bI true)), .val (.long ((t3 - t2) + (t4 - t3))), .second, .unset, .unset] [(.ref b54)]))
          refine Goes.st (fun t_ k_ => XS.lload X71.here hx rfl (hb hby at_290) rfl  k_) ?_
          show Goes p e below s _ _ _ (T71.setTop (mkF m 292 #[.val (.long qa), .second, .val (.long qb), .second, .val (.long qc), .second, .val (.long qd), .second, .val (.int md), .val (.long t1), .second, .val (.long t2), .second, .val (.long t3), .second, .val (.long t4), .second, .val (.long (2000000 : Int64)), .second, .val (.int vm), .val (.ref b54), .val (.int (1 : Int32)), .val (.int (own_bI false)), .val (.int (own_bI false)), .val (.long (t3 - t2)), .second, .val (.int (1 : Int32)), .val (.int (own_bI true)), .val (.long ((t3 - t2) + (t4 - t3))), .second, .unset, .unset] [(.long t4), (.ref b54)]))
          obtain ⟨cq75, kq75, q75a, q75b, q75c⟩ := isOf hZ EQ10 E_b54
          obtain ⟨_, _, ⟨T75, L75, k75, n75⟩, -, X75, ⟨Lc75, hQ75, l75, y75, z75⟩, st75⟩ := X71.virtualBack hx (y := (⟨"com/example/delaunet/delaunet/core/sim/Pace", "start", "(J)Z"⟩ : MethodName)) (z := (⟨"com/example/delaunet/delaunet/core/sim/Pace", "start", "(J)Z"⟩ : MethodName)) hown (mvT hZ (hw _ (List.mem_of_getElem? (i := 28) rfl))) (mvT hZ (hw _ (List.mem_of_getElem? (i := 29) rfl))) (notFace_of_selects (args := #[]) (mvT hZ (hw _ (List.mem_of_getElem? (i := 31) rfl)))) (mvT hZ (hw _ (List.mem_of_getElem? (i := 31) rfl))) (mvT hZ (hw _ (List.mem_of_getElem? (i := 30) rfl))) (by decide) (backOf (W := 0) (own_rmU l Z a0 hw [] b54 t4 ah (0 + (t3 - t2)) t3 ((0 + (t3 - t2)) + (t4 - t3)) kc T63.heap n0 Z0''''' HP (own_dT (by decide) hs3) (by simp [own_sp, hb_t3]) V_ah nah gn_b54 g_ah) hZ (hw _ (List.mem_of_getElem? (i := 32) rfl)) (hw _ (List.mem_of_getElem? (i := 4) rfl)) (by decide) (by decide)) q75a q75c (g := (mkF m 292 #[.val (.long qa), .second, .val (.long qb), .second, .val (.long qc), .second, .val (.long qd), .second, .val (.int md), .val (.long t1), .second, .val (.long t2), .second, .val (.long t3), .second, .val (.long t4), .second, .val (.long (2000000 : Int64)), .second, .val (.int vm), .val (.ref b54), .val (.int (1 : Int32)), .val (.int (own_bI false)), .val (.int (own_bI false)), .val (.long (t3 - t2)), .second, .val (.int (1 : Int32)), .val (.int (own_bI true)), .val (.long ((t3 - t2) + (t4 - t3))), .second, .unset, .unset] [(.long t4), (.ref b54)])) rfl (by rw [hml]; rfl) (Steps.refl _) (argsL := [(.long t4)]) (rest := []) (lenOf own_pd145 rfl) rfl (by show 2 * 0 + _ ≤ _; exact Nat.le_of_eq rfl) (hb hby at_292) (fun _ _ => ⟨rfl, EQ10, (by decide : 3 + 0 ≤ _), (by decide : 21 + 0 ≤ _)⟩)
          dsimp only [Pt.U, Pt.locs, Pt.cells, Pt.slots] at X75 l75 y75 z75 st75 hQ75
          subst l75 y75 z75
          obtain ⟨rfl, N75q, KU, E_b54, Fs_b54, Fd_b54, Fp_b54⟩ := hQ75
          have N75 := Fr.app N71 N75q
          refine Goes.tr st75 ?_
          have Z0'''''' := Nat.le_trans Z0''''' KU.1
          show Goes p e below s _ _ _ (T75.setTop (mkF m 295 #[.val (.long qa), .second, .val (.long qb), .second, .val (.long qc), .second, .val (.long qd), .second, .val (.int md), .val (.long t1), .second, .val (.long t2), .second, .val (.long t3), .second, .val (.long t4), .second, .val (.long (2000000 : Int64)), .second, .val (.int vm), .val (.ref b54), .val (.int (1 : Int32)), .val (.int (own_bI false)), .val (.int (own_bI false)), .val (.long (t3 - t2)), .second, .val (.int (1 : Int32)), .val (.int (own_bI true)), .val (.long ((t3 - t2) + (t4 - t3))), .second, .unset, .unset] [(.int (1 : Int32))]))
          refine Goes.st (fun t_ k_ => XS.pop X75.here hx rfl (hb hby at_295) rfl rfl k_) ?_
          show Goes p e below s _ _ _ (T75.setTop (mkF m 296 #[.val (.long qa), .second, .val (.long qb), .second, .val (.long qc), .second, .val (.long qd), .second, .val (.int md), .val (.long t1), .second, .val (.long t2), .second, .val (.long t3), .second, .val (.long t4), .second, .val (.long (2000000 : Int64)), .second, .val (.int vm), .val (.ref b54), .val (.int (1 : Int32)), .val (.int (own_bI false)), .val (.int (own_bI false)), .val (.long (t3 - t2)), .second, .val (.int (1 : Int32)), .val (.int (own_bI true)), .val (.long ((t3 - t2) + (t4 - t3))), .second, .unset, .unset] []))
          refine Goes.st (fun t_ k_ => XS.iload X75.here hx rfl (hb hby at_296) rfl  k_) ?_
          show Goes p e below s _ _ _ (T75.setTop (mkF m 298 #[.val (.long qa), .second, .val (.long qb), .second, .val (.long qc), .second, .val (.long qd), .second, .val (.int md), .val (.long t1), .second, .val (.long t2), .second, .val (.long t3), .second, .val (.long t4), .second, .val (.long (2000000 : Int64)), .second, .val (.int vm), .val (.ref b54), .val (.int (1 : Int32)), .val (.int (own_bI false)), .val (.int (own_bI false)), .val (.long (t3 - t2)), .second, .val (.int (1 : Int32)), .val (.int (own_bI true)), .val (.long ((t3 - t2) + (t4 - t3))), .second, .unset, .unset] [(.int (1 : Int32))]))
          refine Goes.st (fun t_ k_ => XS.ifNo X75.here hx rfl (hb hby at_298) rfl ((if0 _ _).trans (feq (by decide)).1) k_) ?_
          show Goes p e below s _ _ _ (T75.setTop (mkF m 301 #[.val (.long qa), .second, .val (.long qb), .second, .val (.long qc), .second, .val (.long qd), .second, .val (.int md), .val (.long t1), .second, .val (.long t2), .second, .val (.long t3), .second, .val (.long t4), .second, .val (.long (2000000 : Int64)), .second, .val (.int vm), .val (.ref b54), .val (.int (1 : Int32)), .val (.int (own_bI false)), .val (.int (own_bI false)), .val (.long (t3 - t2)), .second, .val (.int (1 : Int32)), .val (.int (own_bI true)), .val (.long ((t3 - t2) + (t4 - t3))), .second, .unset, .unset] []))
          refine Goes.st (fun t_ k_ => XS.iconst X75.here hx rfl (hb hby at_301) k_) ?_
          show Goes p e below s _ _ _ (T75.setTop (mkF m 302 #[.val (.long qa), .second, .val (.long qb), .second, .val (.long qc), .second, .val (.long qd), .second, .val (.int md), .val (.long t1), .second, .val (.long t2), .second, .val (.long t3), .second, .val (.long t4), .second, .val (.long (2000000 : Int64)), .second, .val (.int vm), .val (.ref b54), .val (.int (1 : Int32)), .val (.int (own_bI false)), .val (.int (own_bI false)), .val (.long (t3 - t2)), .second, .val (.int (1 : Int32)), .val (.int (own_bI true)), .val (.long ((t3 - t2) + (t4 - t3))), .second, .unset, .unset] [(.int (0 : Int32))]))
          refine Goes.st (fun t_ k_ => XS.goto X75.here hx rfl (pc0 := 302) (pc' := 318) rfl (hb hby at_302) (by decide) (by decide) k_) ?_
          show Goes p e below s _ _ _ (T75.setTop (mkF m 318 #[.val (.long qa), .second, .val (.long qb), .second, .val (.long qc), .second, .val (.long qd), .second, .val (.int md), .val (.long t1), .second, .val (.long t2), .second, .val (.long t3), .second, .val (.long t4), .second, .val (.long (2000000 : Int64)), .second, .val (.int vm), .val (.ref b54), .val (.int (1 : Int32)), .val (.int (own_bI false)), .val (.int (own_bI false)), .val (.long (t3 - t2)), .second, .val (.int (1 : Int32)), .val (.int (own_bI true)), .val (.long ((t3 - t2) + (t4 - t3))), .second, .unset, .unset] [(.int (0 : Int32))]))
          refine Goes.st (fun t_ k_ => XS.istore X75.here hx rfl (hb hby at_318) rfl  (l' := #[.val (.long qa), .second, .val (.long qb), .second, .val (.long qc), .second, .val (.long qd), .second, .val (.int md), .val (.long t1), .second, .val (.long t2), .second, .val (.long t3), .second, .val (.long t4), .second, .val (.long (2000000 : Int64)), .second, .val (.int vm), .val (.ref b54), .val (.int (1 : Int32)), .val (.int (own_bI false)), .val (.int (own_bI false)), .val (.long (t3 - t2)), .second, .val (.int (1 : Int32)), .val (.int (own_bI true)), .val (.long ((t3 - t2) + (t4 - t3))), .second, .val (.int (0 : Int32)), .unset]) rfl k_) ?_
          show Goes p e below s _ _ _ (T75.setTop (mkF m 320 #[.val (.long qa), .second, .val (.long qb), .second, .val (.long qc), .second, .val (.long qd), .second, .val (.int md), .val (.long t1), .second, .val (.long t2), .second, .val (.long t3), .second, .val (.long t4), .second, .val (.long (2000000 : Int64)), .second, .val (.int vm), .val (.ref b54), .val (.int (1 : Int32)), .val (.int (own_bI false)), .val (.int (own_bI false)), .val (.long (t3 - t2)), .second, .val (.int (1 : Int32)), .val (.int (own_bI true)), .val (.long ((t3 - t2) + (t4 - t3))), .second, .val (.int (0 : Int32)), .unset] []))
          refine Goes.st (fun t_ k_ => XS.aload X75.here hx rfl (hb hby at_320) rfl rfl k_) ?_
          show Goes p e below s _ _ _ (T75.setTop (mkF m 322 #[.val (.long qa), .second, .val (.long qb), .second, .val (.long qc), .second, .val (.long qd), .second, .val (.int md), .val (.long t1), .second, .val (.long t2), .second, .val (.long t3), .second, .val (.long t4), .second, .val (.long (2000000 : Int64)), .second, .val (.int vm), .val (.ref b54), .val (.int (1 : Int32)), .val (.int (own_bI false)), .val (.int (own_bI false)), .val (.long (t3 - t2)), .second, .val (.int (1 : Int32)), .val (.int (own_bI true)), .val (.long ((t3 - t2) + (t4 - t3))), .second, .val (.int (0 : Int32)), .unset] [(.ref b54)]))
          obtain ⟨cq76, kq76, q76a, q76b, q76c⟩ := isOf hZ rfl E_b54
          obtain ⟨_, _, ⟨T76, L76, k76, n76⟩, -, X76, ⟨Lc76, hQ76, l76, y76, z76⟩, st76⟩ := X75.virtualBack hx (y := (⟨"com/example/delaunet/delaunet/core/sim/Pace", "complete", "()Z"⟩ : MethodName)) (z := (⟨"com/example/delaunet/delaunet/core/sim/Pace", "complete", "()Z"⟩ : MethodName)) hown (mvT hZ (hw _ (List.mem_of_getElem? (i := 19) rfl))) (mvT hZ (hw _ (List.mem_of_getElem? (i := 20) rfl))) (notFace_of_selects (args := #[]) (mvT hZ (hw _ (List.mem_of_getElem? (i := 22) rfl)))) (mvT hZ (hw _ (List.mem_of_getElem? (i := 22) rfl))) (mvT hZ (hw _ (List.mem_of_getElem? (i := 21) rfl))) (by decide) (backOf (W := 0) (own_rmC l Z a0 hw [] b54 1 0 false T75.heap n0 Z0'''''' Fs_b54 Fd_b54 Fp_b54 (by decide)) hZ (hw _ (List.mem_of_getElem? (i := 23) rfl)) (hw _ (List.mem_of_getElem? (i := 4) rfl)) (by decide) (by decide)) q76a q76c (g := (mkF m 322 #[.val (.long qa), .second, .val (.long qb), .second, .val (.long qc), .second, .val (.long qd), .second, .val (.int md), .val (.long t1), .second, .val (.long t2), .second, .val (.long t3), .second, .val (.long t4), .second, .val (.long (2000000 : Int64)), .second, .val (.int vm), .val (.ref b54), .val (.int (1 : Int32)), .val (.int (own_bI false)), .val (.int (own_bI false)), .val (.long (t3 - t2)), .second, .val (.int (1 : Int32)), .val (.int (own_bI true)), .val (.long ((t3 - t2) + (t4 - t3))), .second, .val (.int (0 : Int32)), .unset] [(.ref b54)])) rfl (by rw [hml]; rfl) (Steps.refl _) (argsL := []) (rest := []) (lenOf own_pd60 rfl) rfl (by show 2 * 0 + _ ≤ _; exact Nat.le_of_eq rfl) (hb hby at_322) (fun _ _ => ⟨rfl, rfl, (by decide : 3 + 0 ≤ _), (by decide : 21 + 0 ≤ _)⟩)
          dsimp only [Pt.U, Pt.locs, Pt.cells, Pt.slots] at X76 l76 y76 z76 st76 hQ76
          subst l76 y76 z76
          obtain ⟨rfl, N76q, EQ13⟩ := hQ76
          have N76 := Fr.app N75 N76q
          refine Goes.tr st76 ?_
          show Goes p e below s _ _ _ (T76.setTop (mkF m 325 #[.val (.long qa), .second, .val (.long qb), .second, .val (.long qc), .second, .val (.long qd), .second, .val (.int md), .val (.long t1), .second, .val (.long t2), .second, .val (.long t3), .second, .val (.long t4), .second, .val (.long (2000000 : Int64)), .second, .val (.int vm), .val (.ref b54), .val (.int (1 : Int32)), .val (.int (own_bI false)), .val (.int (own_bI false)), .val (.long (t3 - t2)), .second, .val (.int (1 : Int32)), .val (.int (own_bI true)), .val (.long ((t3 - t2) + (t4 - t3))), .second, .val (.int (0 : Int32)), .unset] [(.int (own_bI false))]))
          refine Goes.st (fun t_ k_ => XS.istore X76.here hx rfl (hb hby at_325) rfl  (l' := #[.val (.long qa), .second, .val (.long qb), .second, .val (.long qc), .second, .val (.long qd), .second, .val (.int md), .val (.long t1), .second, .val (.long t2), .second, .val (.long t3), .second, .val (.long t4), .second, .val (.long (2000000 : Int64)), .second, .val (.int vm), .val (.ref b54), .val (.int (1 : Int32)), .val (.int (own_bI false)), .val (.int (own_bI false)), .val (.long (t3 - t2)), .second, .val (.int (1 : Int32)), .val (.int (own_bI true)), .val (.long ((t3 - t2) + (t4 - t3))), .second, .val (.int (0 : Int32)), .val (.int (own_bI false))]) rfl k_) ?_
          show Goes p e below s _ _ _ (T76.setTop (mkF m 327 #[.val (.long qa), .second, .val (.long qb), .second, .val (.long qc), .second, .val (.long qd), .second, .val (.int md), .val (.long t1), .second, .val (.long t2), .second, .val (.long t3), .second, .val (.long t4), .second, .val (.long (2000000 : Int64)), .second, .val (.int vm), .val (.ref b54), .val (.int (1 : Int32)), .val (.int (own_bI false)), .val (.int (own_bI false)), .val (.long (t3 - t2)), .second, .val (.int (1 : Int32)), .val (.int (own_bI true)), .val (.long ((t3 - t2) + (t4 - t3))), .second, .val (.int (0 : Int32)), .val (.int (own_bI false))] []))
          refine Goes.st (fun t_ k_ => XS.iload X76.here hx rfl (hb hby at_327) rfl  k_) ?_
          show Goes p e below s _ _ _ (T76.setTop (mkF m 329 #[.val (.long qa), .second, .val (.long qb), .second, .val (.long qc), .second, .val (.long qd), .second, .val (.int md), .val (.long t1), .second, .val (.long t2), .second, .val (.long t3), .second, .val (.long t4), .second, .val (.long (2000000 : Int64)), .second, .val (.int vm), .val (.ref b54), .val (.int (1 : Int32)), .val (.int (own_bI false)), .val (.int (own_bI false)), .val (.long (t3 - t2)), .second, .val (.int (1 : Int32)), .val (.int (own_bI true)), .val (.long ((t3 - t2) + (t4 - t3))), .second, .val (.int (0 : Int32)), .val (.int (own_bI false))] [(.int (1 : Int32))]))
          refine Goes.st (fun t_ k_ => XS.ifNo X76.here hx rfl (hb hby at_329) rfl ((if0 _ _).trans (feq (by decide)).1) k_) ?_
          show Goes p e below s _ _ _ (T76.setTop (mkF m 332 #[.val (.long qa), .second, .val (.long qb), .second, .val (.long qc), .second, .val (.long qd), .second, .val (.int md), .val (.long t1), .second, .val (.long t2), .second, .val (.long t3), .second, .val (.long t4), .second, .val (.long (2000000 : Int64)), .second, .val (.int vm), .val (.ref b54), .val (.int (1 : Int32)), .val (.int (own_bI false)), .val (.int (own_bI false)), .val (.long (t3 - t2)), .second, .val (.int (1 : Int32)), .val (.int (own_bI true)), .val (.long ((t3 - t2) + (t4 - t3))), .second, .val (.int (0 : Int32)), .val (.int (own_bI false))] []))
          refine Goes.st (fun t_ k_ => XS.iload X76.here hx rfl (hb hby at_332) rfl  k_) ?_
          show Goes p e below s _ _ _ (T76.setTop (mkF m 334 #[.val (.long qa), .second, .val (.long qb), .second, .val (.long qc), .second, .val (.long qd), .second, .val (.int md), .val (.long t1), .second, .val (.long t2), .second, .val (.long t3), .second, .val (.long t4), .second, .val (.long (2000000 : Int64)), .second, .val (.int vm), .val (.ref b54), .val (.int (1 : Int32)), .val (.int (own_bI false)), .val (.int (own_bI false)), .val (.long (t3 - t2)), .second, .val (.int (1 : Int32)), .val (.int (own_bI true)), .val (.long ((t3 - t2) + (t4 - t3))), .second, .val (.int (0 : Int32)), .val (.int (own_bI false))] [(.int (own_bI false))]))
          refine Goes.st (fun t_ k_ => XS.iload X76.here hx rfl (hb hby at_334) rfl  k_) ?_
          show Goes p e below s _ _ _ (T76.setTop (mkF m 336 #[.val (.long qa), .second, .val (.long qb), .second, .val (.long qc), .second, .val (.long qd), .second, .val (.int md), .val (.long t1), .second, .val (.long t2), .second, .val (.long t3), .second, .val (.long t4), .second, .val (.long (2000000 : Int64)), .second, .val (.int vm), .val (.ref b54), .val (.int (1 : Int32)), .val (.int (own_bI false)), .val (.int (own_bI false)), .val (.long (t3 - t2)), .second, .val (.int (1 : Int32)), .val (.int (own_bI true)), .val (.long ((t3 - t2) + (t4 - t3))), .second, .val (.int (0 : Int32)), .val (.int (own_bI false))] [(.int (0 : Int32)), (.int (own_bI false))]))
          refine Goes.st (fun t_ k_ => XS.icmpNo X76.here hx rfl (hb hby at_336) rfl (teq (rfl : own_bI false = 0)).2 k_) ?_
          show Goes p e below s _ _ _ (T76.setTop (mkF m 339 #[.val (.long qa), .second, .val (.long qb), .second, .val (.long qc), .second, .val (.long qd), .second, .val (.int md), .val (.long t1), .second, .val (.long t2), .second, .val (.long t3), .second, .val (.long t4), .second, .val (.long (2000000 : Int64)), .second, .val (.int vm), .val (.ref b54), .val (.int (1 : Int32)), .val (.int (own_bI false)), .val (.int (own_bI false)), .val (.long (t3 - t2)), .second, .val (.int (1 : Int32)), .val (.int (own_bI true)), .val (.long ((t3 - t2) + (t4 - t3))), .second, .val (.int (0 : Int32)), .val (.int (own_bI false))] []))
          refine Goes.st (fun t_ k_ => XS.iconst X76.here hx rfl (hb hby at_339) k_) ?_
          show Goes p e below s _ _ _ (T76.setTop (mkF m 340 #[.val (.long qa), .second, .val (.long qb), .second, .val (.long qc), .second, .val (.long qd), .second, .val (.int md), .val (.long t1), .second, .val (.long t2), .second, .val (.long t3), .second, .val (.long t4), .second, .val (.long (2000000 : Int64)), .second, .val (.int vm), .val (.ref b54), .val (.int (1 : Int32)), .val (.int (own_bI false)), .val (.int (own_bI false)), .val (.long (t3 - t2)), .second, .val (.int (1 : Int32)), .val (.int (own_bI true)), .val (.long ((t3 - t2) + (t4 - t3))), .second, .val (.int (0 : Int32)), .val (.int (own_bI false))] [(.int (1 : Int32))]))
          refine Goes.st (fun t_ k_ => XS.goto X76.here hx rfl (pc0 := 340) (pc' := 344) rfl (hb hby at_340) (by decide) (by decide) k_) ?_
          show Goes p e below s _ _ _ (T76.setTop (mkF m 344 #[.val (.long qa), .second, .val (.long qb), .second, .val (.long qc), .second, .val (.long qd), .second, .val (.int md), .val (.long t1), .second, .val (.long t2), .second, .val (.long t3), .second, .val (.long t4), .second, .val (.long (2000000 : Int64)), .second, .val (.int vm), .val (.ref b54), .val (.int (1 : Int32)), .val (.int (own_bI false)), .val (.int (own_bI false)), .val (.long (t3 - t2)), .second, .val (.int (1 : Int32)), .val (.int (own_bI true)), .val (.long ((t3 - t2) + (t4 - t3))), .second, .val (.int (0 : Int32)), .val (.int (own_bI false))] [(.int (1 : Int32))]))
          exact Goes.retN X76 hx (t := .boolean) hret hlk (by simp) (hb hby at_344) (by decide) (by decide) (⟨rfl, N76⟩)
set_option maxRecDepth 65536 in
set_option maxHeartbeats 40000000 in
theorem comes_1 {Post : Tables → Env → Array Value → State → Outcome → State → Prop} (hpost : ∀ tb e args s v u, (limb_1_1.after args s (.returned v) u = true ∧ limb_1_2.after args s (.returned v) u = true ∧ True) → FrameEnd s (.returned v) u (Jvm.fieldLocs frame_1_writes args s ++ Jvm.arrayLocs frame_1_arrays args s ++ Jvm.staticLocs frame_1_statics s) 16 128 → Post tb e args s (.returned v) u) :
    ArmFor flags0 classFile x code maxLocals ret World_1 tables_1 room_1 Calls_1 rest_1 Pre_1 Post := by
  intro l hfl _ _ p e ha hc hk s m args below hf hA hF happ hP
  obtain ⟨hcalls, hrest, hpre⟩ := hP
  obtain ⟨-, -, -, hnamed, -, -, -, hat⟩ := (Spec.applies_iff hf).mp happ
  obtain ⟨hg, hn⟩ := and_e (Cond.before_iff.mp (show (Jvm.Cond.and given_1 narrow_1).before args s = true from hpre))
  obtain ⟨g0, gr0⟩ := and_e hg
  obtain ⟨ga0, gr1⟩ := and_e gr0
  obtain ⟨ga1, gr2⟩ := and_e gr1
  obtain ⟨ga2, gr3⟩ := and_e gr2
  obtain ⟨ga3, gr4⟩ := and_e gr3
  have ga4 := gr4
  obtain ⟨w0, w1, w2, w3, w4, rfl⟩ : ∃ w0 w1 w2 w3 w4 : Value, args = #[w0, w1, w2, w3, w4] := by
    have hs : args.size = 5 := by simpa [Cond.value, given_1] using g0
    obtain ⟨L⟩ := args
    match L, hs with
    | [w0, w1, w2, w3, w4], _ => exact ⟨w0, w1, w2, w3, w4, rfl⟩
  have hw := fun d (hd : d ∈ tables_1) => atoms_spec (ws := Jvm.Cond.code x code maxLocals ret :: tables_1) hat d (List.mem_cons_of_mem _ hd)
  have hfit : Fit s := fun {y c} hc i hi => by
    obtain ⟨ha, rfl⟩ := Array.getElem?_eq_some_iff.mp hc
    have q := List.all_eq_true.mp ((Array.all_eq_true_iff_forall_mem.mp hF) _ (Array.getElem_mem ha)) i (List.mem_range.mpr hi)
    simpa [Array.getElem?_eq_getElem hi] using q
  obtain ⟨i0, ei0⟩ := isL_v ga0
  obtain rfl : w0 = (.long i0) := Option.some.inj ei0
  obtain ⟨i1, ei1⟩ := isL_v ga1
  obtain rfl : w1 = (.long i1) := Option.some.inj ei1
  obtain ⟨i2, ei2⟩ := isL_v ga2
  obtain rfl : w2 = (.long i2) := Option.some.inj ei2
  obtain ⟨i3, ei3⟩ := isL_v ga3
  obtain rfl : w3 = (.long i3) := Option.some.inj ei3
  obtain ⟨i4, ei4⟩ := is_v ga4
  obtain rfl : w4 = (.int i4) := Option.some.inj ei4
  obtain ⟨n, o, h1, h2, h3, _, L, rfl, ⟨rfl, N⟩, hq⟩ := own_rm0 l s _ hw tables_1 i0 i1 i2 i3 i4  s.heap s.heap.size (Nat.le_refl _)  p e ha hc hk s m _ below hf ((Spec.applies_iff_loose hf).mp happ).1 ⟨rfl, State.Warmed39.refl s, rfl⟩ trivial
  refine ⟨n, _, h1, h2, h3, hpost _ _ _ _ _ _ ⟨Cond.after_iff.mpr rfl, Cond.after_iff.mpr (eq_i res_at (Term.int_eval (1)) rfl), trivial⟩ ⟨hq.1, hq.2.1, (hq.2.2.sift fun y hy => Or.inr (N y hy)).mono (by decide) (by decide)⟩⟩
theorem main_1_1 : Claimed_1_1 := comes_1 fun _ _ _ _ _ _ h hF => ⟨h.1, hF⟩
theorem main_1_2 : Claimed_1_2 := comes_1 fun _ _ _ _ _ _ h hF => ⟨h.2.1, hF⟩
end Jvm.Pilot.@@N@@
namespace Jvm.Pilot.@@N@@
open Jvm Jvm.ClassFile Sem Op Lib Jvm.Free Jvm.Stand Jvm.Pilot.@@N@@.Jvm.D
/-! MADE BY PROGRAM (witnessworld.py) out of the Statement's table words and the real class files: 9 classes; the members and pool entries that the words name. The judged class is class 1, her method 1. -/
namespace start1
open Jvm.ClassFile
def u (s : String) : CpInfo := .utf8 (stringToUtf16 s)
/-- a pool by its gaps: so many unusable entries, then the entry; so many at the end -/
def gap : Nat → List CpInfo → List CpInfo
  | 0, r => r
  | n + 1, r => .unusable :: gap n r
def poolList (es : List (Nat × CpInfo)) (last : Nat) : List CpInfo := es.foldr (fun e r => gap e.1 (e.2 :: r)) (gap last [])
def pool (es : List (Nat × CpInfo)) (last : Nat) : Array CpInfo := ⟨poolList es last⟩
def fileOf (pool : Array CpInfo) (this : Nat) (attrs : Array Attribute := #[]) (ms : Array MethodInfo := #[]) (fl : Nat := 33) (sup : Nat := 0) (ifs : Array Nat := #[]) (fds : Array FieldInfo := #[]) : ClassFile where
  minorVersion := 0
  majorVersion := 65
  constantPool := pool
  accessFlags := fl
  thisClass := this
  superClass := sup
  interfaces := ifs
  fields := fds
  methods := ms
  attributes := attrs
def plain (name : String) (sup : Option ClassId) : Class where
  name := name
  kind := .ordinary
  loader := none
  accessFlags := 33
  super := sup
  interfaces := #[]
  cf := none
  fields := #[]
  methods := #[]
  instanceTypes := #[]
  staticTypes := #[]
  resolved := #[]
  callSites := []
  init := .initialized
  statics := none
  mirror := none

def pool0 : Array CpInfo := pool [(5, u "<init>"), (0, u "()V"), (1, .class_ 10), (1, u "java/lang/Object")] 113

def k0c0 : Code := { maxStack := 0, maxLocals := 1, code := object_method_1_code, exceptionTable := #[], attributes := #[] }
def k0m0 : Method := { name := "<init>", desc := "()V", sig := { parameters := [], returnType := none }, accessFlags := 1, code := some k0c0 }
/-- java/lang/Object -/
def k0 : Class := { plain "java/lang/Object" none with
  accessFlags := 33
  interfaces := #[]
  cf := some (fileOf pool0 8 #[] #[{ accessFlags := 1, nameIndex := 5, descriptorIndex := 6, attributes := #[] }] 33 0 #[] #[])
  fields := #[]
  methods := #[k0m0]
  instanceTypes := #[]
  staticTypes := #[]
  resolved := Array.replicate 124 none
  statics := none }

def pool1 : Array CpInfo := pool [(2, .class_ 4), (0, .nameAndType 5 6), (0, u "java/lang/Object"), (0, u "<init>"), (0, u "()V"), (2, .long 9223372036854775807), (1, .long 2000000), (1, .class_ 14), (0, u "com/example/delaunet/delaunet/core/sim/Pace"), (0, .methodref 13 3), (0, .methodref 13 17), (0, .nameAndType 18 19), (0, u "complete"), (0, u "()Z"), (0, .methodref 13 21), (0, .nameAndType 22 23), (0, u "start"), (0, u "(J)Z"), (0, .methodref 13 25), (0, .nameAndType 26 27), (0, u "end"), (0, u "(J)V"), (0, .class_ 29), (0, u "com/example/delaunet/delaunet/core/sim/PaceCompletePinLaw"), (2, u "law"), (0, u "(JJJJI)Z")] 3

def k1m0 : Method := { name := "<init>", desc := "()V", sig := { parameters := [], returnType := none }, accessFlags := 1, code := none }
def k1c1 : Code := { maxStack := 6, maxLocals := 32, code := code, exceptionTable := #[], attributes := #[] }
def k1m1 : Method := { name := "law", desc := "(JJJJI)Z", sig := { parameters := [.long, .long, .long, .long, .int], returnType := some .boolean }, accessFlags := 9, code := some k1c1 }
/-- com/example/delaunet/delaunet/core/sim/PaceCompletePinLaw -/
def k1 : Class := { plain "com/example/delaunet/delaunet/core/sim/PaceCompletePinLaw" (some 0) with
  accessFlags := 49
  interfaces := #[]
  cf := some (fileOf pool1 28 #[] #[{ accessFlags := 1, nameIndex := 5, descriptorIndex := 6, attributes := #[] }, { accessFlags := 9, nameIndex := 32, descriptorIndex := 33, attributes := #[] }] 49 2 #[] #[])
  fields := #[]
  methods := #[k1m0, k1m1]
  instanceTypes := #[]
  staticTypes := #[]
  resolved := Array.replicate 37 none
  statics := none }

def pool2 : Array CpInfo := pool [(1, .methodref 2 3), (0, .class_ 4), (0, .nameAndType 5 6), (0, u "java/lang/Object"), (0, u "<init>"), (0, u "()V"), (0, .class_ 8), (0, u "com/example/delaunet/delaunet/core/sim/Pace"), (0, .fieldref 7 10), (0, .nameAndType 11 12), (0, u "here"), (0, u "[D"), (0, .fieldref 7 14), (0, .nameAndType 15 12), (0, u "away"), (0, .long 18446744073709551615), (1, .fieldref 7 19), (0, .nameAndType 20 21), (0, u "since"), (0, u "J"), (0, .fieldref 7 23), (0, .nameAndType 24 25), (0, u "staying"), (0, u "Z"), (0, .fieldref 7 27), (0, .nameAndType 28 29), (0, u "started"), (0, u "I"), (0, .fieldref 7 31), (0, .nameAndType 32 29), (0, u "stay"), (0, .fieldref 7 34), (0, .nameAndType 35 29), (0, u "tried"), (0, .fieldref 7 37), (0, .nameAndType 38 21), (0, u "spent"), (0, .long 2000000), (1, .methodref 7 42), (0, .nameAndType 43 44), (0, u "complete"), (0, u "()Z"), (0, .methodref 7 46), (0, .nameAndType 47 48), (0, u "end"), (0, u "(J)V"), (0, .fieldref 7 50), (0, .nameAndType 51 29), (0, u "trials"), (0, .methodref 7 53), (0, .nameAndType 54 55), (0, u "begin"), (0, u "(Z)V"), (0, .methodref 7 57), (0, .nameAndType 58 6), (0, u "endTrial"), (0, .fieldref 7 60), (0, .nameAndType 61 25), (0, u "awayNow"), (4, .fieldref 7 67), (0, .nameAndType 68 25), (0, u "stayedAway"), (17, u "TRIAL"), (2, u "TRIAL_NANOS"), (0, u "TRIALS"), (1, u "FIRST_STAY"), (0, u "LONGEST_STAY"), (4, u "start"), (0, u "(J)Z")] 2

def k2c0 : Code := { maxStack := 3, maxLocals := 1, code := prog_57_method_1_code, exceptionTable := #[], attributes := #[] }
def k2m0 : Method := { name := "<init>", desc := "()V", sig := { parameters := [], returnType := none }, accessFlags := 0, code := some k2c0 }
def k2c1 : Code := { maxStack := 4, maxLocals := 2, code := prog_57_method_2_code, exceptionTable := #[], attributes := #[] }
def k2m1 : Method := { name := "complete", desc := "()Z", sig := { parameters := [], returnType := some .boolean }, accessFlags := 0, code := some k2c1 }
def k2c2 : Code := { maxStack := 3, maxLocals := 4, code := prog_57_method_3_code, exceptionTable := #[], attributes := #[] }
def k2m2 : Method := { name := "start", desc := "(J)Z", sig := { parameters := [.long], returnType := some .boolean }, accessFlags := 0, code := some k2c2 }
def k2c3 : Code := { maxStack := 7, maxLocals := 3, code := prog_57_method_4_code, exceptionTable := #[], attributes := #[] }
def k2m3 : Method := { name := "end", desc := "(J)V", sig := { parameters := [.long], returnType := none }, accessFlags := 0, code := some k2c3 }
def k2c4 : Code := { maxStack := 6, maxLocals := 3, code := prog_57_method_5_code, exceptionTable := #[], attributes := #[] }
def k2m4 : Method := { name := "endTrial", desc := "()V", sig := { parameters := [], returnType := none }, accessFlags := 2, code := some k2c4 }
def k2c5 : Code := { maxStack := 3, maxLocals := 2, code := prog_57_method_6_code, exceptionTable := #[], attributes := #[] }
def k2m5 : Method := { name := "begin", desc := "(Z)V", sig := { parameters := [.boolean], returnType := none }, accessFlags := 2, code := some k2c5 }
/-- com/example/delaunet/delaunet/core/sim/Pace -/
def k2 : Class := { plain "com/example/delaunet/delaunet/core/sim/Pace" (some 0) with
  accessFlags := 48
  interfaces := #[]
  cf := some (fileOf pool2 7 #[] #[{ accessFlags := 0, nameIndex := 5, descriptorIndex := 6, attributes := #[] }, { accessFlags := 0, nameIndex := 43, descriptorIndex := 44, attributes := #[] }, { accessFlags := 0, nameIndex := 98, descriptorIndex := 99, attributes := #[] }, { accessFlags := 0, nameIndex := 47, descriptorIndex := 48, attributes := #[] }, { accessFlags := 2, nameIndex := 58, descriptorIndex := 6, attributes := #[] }, { accessFlags := 2, nameIndex := 54, descriptorIndex := 55, attributes := #[] }] 48 2 #[] #[{ accessFlags := 24, nameIndex := 86, descriptorIndex := 29, attributes := #[] }, { accessFlags := 24, nameIndex := 89, descriptorIndex := 21, attributes := #[] }, { accessFlags := 24, nameIndex := 90, descriptorIndex := 29, attributes := #[] }, { accessFlags := 24, nameIndex := 92, descriptorIndex := 29, attributes := #[] }, { accessFlags := 24, nameIndex := 93, descriptorIndex := 29, attributes := #[] }, { accessFlags := 18, nameIndex := 11, descriptorIndex := 12, attributes := #[] }, { accessFlags := 18, nameIndex := 15, descriptorIndex := 12, attributes := #[] }, { accessFlags := 2, nameIndex := 51, descriptorIndex := 29, attributes := #[] }, { accessFlags := 2, nameIndex := 35, descriptorIndex := 29, attributes := #[] }, { accessFlags := 2, nameIndex := 24, descriptorIndex := 25, attributes := #[] }, { accessFlags := 2, nameIndex := 61, descriptorIndex := 25, attributes := #[] }, { accessFlags := 2, nameIndex := 32, descriptorIndex := 29, attributes := #[] }, { accessFlags := 2, nameIndex := 68, descriptorIndex := 25, attributes := #[] }, { accessFlags := 2, nameIndex := 28, descriptorIndex := 29, attributes := #[] }, { accessFlags := 2, nameIndex := 38, descriptorIndex := 21, attributes := #[] }, { accessFlags := 2, nameIndex := 20, descriptorIndex := 21, attributes := #[] }])
  fields := #[{ name := "TRIAL", type := .int, accessFlags := 24, slot := 0, constantValue := 0 }, { name := "TRIAL_NANOS", type := .long, accessFlags := 24, slot := 1, constantValue := 0 }, { name := "TRIALS", type := .int, accessFlags := 24, slot := 2, constantValue := 0 }, { name := "FIRST_STAY", type := .int, accessFlags := 24, slot := 3, constantValue := 0 }, { name := "LONGEST_STAY", type := .int, accessFlags := 24, slot := 4, constantValue := 0 }, { name := "here", type := (.array .double), accessFlags := 18, slot := 0, constantValue := 0 }, { name := "away", type := (.array .double), accessFlags := 18, slot := 1, constantValue := 0 }, { name := "trials", type := .int, accessFlags := 2, slot := 2, constantValue := 0 }, { name := "tried", type := .int, accessFlags := 2, slot := 3, constantValue := 0 }, { name := "staying", type := .boolean, accessFlags := 2, slot := 4, constantValue := 0 }, { name := "awayNow", type := .boolean, accessFlags := 2, slot := 5, constantValue := 0 }, { name := "stay", type := .int, accessFlags := 2, slot := 6, constantValue := 0 }, { name := "stayedAway", type := .boolean, accessFlags := 2, slot := 7, constantValue := 0 }, { name := "started", type := .int, accessFlags := 2, slot := 8, constantValue := 0 }, { name := "spent", type := .long, accessFlags := 2, slot := 9, constantValue := 0 }, { name := "since", type := .long, accessFlags := 2, slot := 10, constantValue := 0 }]
  methods := #[k2m0, k2m1, k2m2, k2m3, k2m4, k2m5]
  instanceTypes := #[(.array .double), (.array .double), .int, .int, .boolean, .boolean, .int, .boolean, .int, .long, .long]
  staticTypes := #[.int, .long, .int, .int, .int]
  resolved := Array.replicate 102 none
  statics := none }

def pool3 : Array CpInfo := pool [(1, u "java/lang/Cloneable"), (0, .class_ 1), (0, u "java/lang/Object"), (0, .class_ 3)] 3

/-- java/lang/Cloneable -/
def k3 : Class := { plain "java/lang/Cloneable" (some 0) with
  accessFlags := 1537
  interfaces := #[]
  cf := some (fileOf pool3 2 #[] #[] 1537 4 #[] #[])
  fields := #[]
  methods := #[]
  instanceTypes := #[]
  staticTypes := #[]
  resolved := Array.replicate 8 none
  statics := none }

def pool4 : Array CpInfo := pool [(1, u "java/io/Serializable"), (0, .class_ 1), (0, u "java/lang/Object"), (0, .class_ 3)] 3

/-- java/io/Serializable -/
def k4 : Class := { plain "java/io/Serializable" (some 0) with
  accessFlags := 1537
  interfaces := #[]
  cf := some (fileOf pool4 2 #[] #[] 1537 4 #[] #[])
  fields := #[]
  methods := #[]
  instanceTypes := #[]
  staticTypes := #[]
  resolved := Array.replicate 8 none
  statics := none }

/-- the primitive byte -/
def k5 : Class := { plain "byte" none with kind := .primitive 'B', accessFlags := 0x411 }
/-- [B -/
def k6 : Class := { plain "[B" (some 0) with kind := .array 5 .byte, interfaces := #[3, 4], accessFlags := 1041 }

/-- the primitive int -/
def k7 : Class := { plain "int" none with kind := .primitive 'I', accessFlags := 0x411 }
/-- [I -/
def k8 : Class := { plain "[I" (some 0) with kind := .array 7 .int, interfaces := #[3, 4], accessFlags := 1041 }

/-- the primitive double, and its arrays -/
def kdbl : Class := { plain "double" none with kind := .primitive 'D', accessFlags := 0x411 }
def kdbls : Class := { plain "[D" (some 0) with kind := .array 9 .double, interfaces := #[3, 4], accessFlags := 1041 }
def heap : Heap := #[]
def classes : Array Class := #[k0, k1, k2, k3, k4, k5, k6, k7, k8, kdbl, kdbls]
def interned : List (Array UInt16 × Addr) := []
def slotsUsed : Nat := 0
def theMethod : MethodId := ⟨1, 1⟩
def args0 : Array Value := #[.long 1000, .long 2000, .long 3002000, .long 3003000, .int 3]
def aboutOver (below : List Frame) : State where
  vm := { classes := classes, interned := interned.toArray }
  heap := heap
  slotsUsed := slotsUsed
  threads := #[{ frames := .invoking theMethod args0 :: below }]
def below0 : List Frame := [.native { method := ⟨0, 0⟩, args := #[] }]
def about1 : State := aboutOver below0
def p0 : Program := .bare "" "" ""
def e0 : Env := launch0.env 0 0 0
theorem w_frames : about1.frames = Frame.invoking theMethod args0 :: below0 := rfl
set_option maxRecDepth 65536 in
theorem w_args : argsFit about1.vm theMethod args0 = true := by decide +kernel
set_option maxRecDepth 65536 in
theorem w_heap : heapFits about1 = true := by decide +kernel
set_option maxRecDepth 65536 in
theorem w_runnable : about1.curStatus? = some .runnable := by decide +kernel
set_option maxRecDepth 65536 in
theorem w_alone : about1.alone = true := by decide +kernel
set_option maxRecDepth 65536 in
theorem w_named : about1.methodNamed? x = some theMethod := by decide +kernel
set_option maxRecDepth 65536 in
theorem w_hears : about1.hears theMethod below0 = true := by decide +kernel
set_option maxRecDepth 65536 in
theorem w_ripe : about1.ripe theMethod args0 below0 = true := by decide +kernel
theorem w_running : about1.status = .running := rfl
set_option maxRecDepth 65536 in
theorem w_room : about1.hasRoom e0.platform room_1 = true :=
  launch0.hasRoom_least _ room_1 (by decide +kernel) (by decide +kernel) (by decide +kernel) (by decide +kernel) (by decide +kernel) (by decide +kernel)
theorem allAtoms_all (ts : List Jvm.Cond) (a : Array Jvm.Value) (st : Jvm.State) : (allAtoms ts).before a st = ts.all (fun c => c.before a st) := by
  induction ts with
  | nil => rfl
  | cons c t ih =>
    show (Jvm.Cond.and c (allAtoms t)).before a st = _
    rw [Jvm.Cond.before_and, ih, List.all_cons]
def words1 : List Jvm.Cond := Jvm.Cond.code x code maxLocals ret :: tables_1
/-- a 'code' word, met by the world's own term for the bytes: nothing is compared byte by byte -/
theorem code_word {y : MethodName} {bytes : ByteArray} {mx : Nat} {rt : Option FieldType} {a : Array Value} {s : State} {m : MethodId} {meth : Method} {c : Code} (h1 : s.methodNamed? y = some m) (h2 : s.vm.method? m = some meth) (h3 : meth.code = some c) (h4 : c.code = bytes)
    (h5 : (c.maxLocals == mx && c.exceptionTable.isEmpty && decide (c.maxStack ≤ mostOperands) && decide (meth.sig.returnType = rt) && !meth.locks && decide (parseMethodDescriptor y.desc = some meth.sig)) = true) : (Jvm.Cond.code y bytes mx rt).before a s = true := by
  simp only [Bool.and_eq_true, beq_iff_eq, Bool.not_eq_true', decide_eq_true_eq] at h5
  obtain ⟨⟨⟨⟨⟨g1, g2⟩, g3⟩, g4⟩, g5⟩, g6⟩ := h5
  simp [Cond.before, Cond.holds, Cond.value, h1, h2, h3, h4, g1, g2, g3, g4, g5, g6]
def isCode : Jvm.Cond → Bool
  | .code _ _ _ _ => true
  | _ => false
theorem all_split {L : List Jvm.Cond} {P : Jvm.Cond → Bool} (h1 : L.all (fun c => isCode c || P c) = true) (h2 : ∀ c ∈ L.filter isCode, P c = true) : L.all P = true := by
  refine List.all_eq_true.mpr fun c hc => ?_
  have h := List.all_eq_true.mp h1 c hc
  rcases Bool.eq_false_or_eq_true (isCode c) with hi | hi
  · exact h2 c (List.mem_filter.mpr ⟨hc, hi⟩)
  · simpa [hi] using h
set_option maxRecDepth 65536 in
theorem w_c0 : (Jvm.Cond.code x code maxLocals ret).before args0 about1 = true := code_word (m := ⟨1, 1⟩) (meth := k1m1) (c := k1c1) (by decide +kernel) rfl rfl rfl (by decide +kernel)
set_option maxRecDepth 65536 in
theorem w_c1 : (Jvm.Cond.code ({ cls := "com/example/delaunet/delaunet/core/sim/Pace", name := "<init>", desc := "()V" } : Jvm.MethodName) prog_57_method_1_code (1 : Nat) (Option.none : Option Jvm.ClassFile.FieldType)).before args0 about1 = true := code_word (m := ⟨2, 0⟩) (meth := k2m0) (c := k2c0) (by decide +kernel) rfl rfl rfl (by decide +kernel)
set_option maxRecDepth 65536 in
theorem w_c2 : (Jvm.Cond.code ({ cls := "java/lang/Object", name := "<init>", desc := "()V" } : Jvm.MethodName) object_method_1_code (1 : Nat) (Option.none : Option Jvm.ClassFile.FieldType)).before args0 about1 = true := code_word (m := ⟨0, 0⟩) (meth := k0m0) (c := k0c0) (by decide +kernel) rfl rfl rfl (by decide +kernel)
set_option maxRecDepth 65536 in
theorem w_c3 : (Jvm.Cond.code ({ cls := "com/example/delaunet/delaunet/core/sim/Pace", name := "complete", desc := "()Z" } : Jvm.MethodName) prog_57_method_2_code (2 : Nat) (Option.some Jvm.ClassFile.FieldType.boolean)).before args0 about1 = true := code_word (m := ⟨2, 1⟩) (meth := k2m1) (c := k2c1) (by decide +kernel) rfl rfl rfl (by decide +kernel)
set_option maxRecDepth 65536 in
theorem w_c4 : (Jvm.Cond.code ({ cls := "com/example/delaunet/delaunet/core/sim/Pace", name := "start", desc := "(J)Z" } : Jvm.MethodName) prog_57_method_3_code (4 : Nat) (Option.some Jvm.ClassFile.FieldType.boolean)).before args0 about1 = true := code_word (m := ⟨2, 2⟩) (meth := k2m2) (c := k2c2) (by decide +kernel) rfl rfl rfl (by decide +kernel)
set_option maxRecDepth 65536 in
theorem w_c5 : (Jvm.Cond.code ({ cls := "com/example/delaunet/delaunet/core/sim/Pace", name := "end", desc := "(J)V" } : Jvm.MethodName) prog_57_method_4_code (3 : Nat) (Option.none : Option Jvm.ClassFile.FieldType)).before args0 about1 = true := code_word (m := ⟨2, 3⟩) (meth := k2m3) (c := k2c3) (by decide +kernel) rfl rfl rfl (by decide +kernel)
set_option maxRecDepth 65536 in
theorem w_c6 : (Jvm.Cond.code ({ cls := "com/example/delaunet/delaunet/core/sim/Pace", name := "endTrial", desc := "()V" } : Jvm.MethodName) prog_57_method_5_code (3 : Nat) (Option.none : Option Jvm.ClassFile.FieldType)).before args0 about1 = true := code_word (m := ⟨2, 4⟩) (meth := k2m4) (c := k2c4) (by decide +kernel) rfl rfl rfl (by decide +kernel)
set_option maxRecDepth 65536 in
theorem w_c7 : (Jvm.Cond.code ({ cls := "com/example/delaunet/delaunet/core/sim/Pace", name := "begin", desc := "(Z)V" } : Jvm.MethodName) prog_57_method_6_code (2 : Nat) (Option.none : Option Jvm.ClassFile.FieldType)).before args0 about1 = true := code_word (m := ⟨2, 5⟩) (meth := k2m5) (c := k2c5) (by decide +kernel) rfl rfl rfl (by decide +kernel)
def codes1 : List Jvm.Cond := [Jvm.Cond.code x code maxLocals ret, Jvm.Cond.code ({ cls := "com/example/delaunet/delaunet/core/sim/Pace", name := "<init>", desc := "()V" } : Jvm.MethodName) prog_57_method_1_code (1 : Nat) (Option.none : Option Jvm.ClassFile.FieldType), Jvm.Cond.code ({ cls := "java/lang/Object", name := "<init>", desc := "()V" } : Jvm.MethodName) object_method_1_code (1 : Nat) (Option.none : Option Jvm.ClassFile.FieldType), Jvm.Cond.code ({ cls := "com/example/delaunet/delaunet/core/sim/Pace", name := "complete", desc := "()Z" } : Jvm.MethodName) prog_57_method_2_code (2 : Nat) (Option.some Jvm.ClassFile.FieldType.boolean), Jvm.Cond.code ({ cls := "com/example/delaunet/delaunet/core/sim/Pace", name := "start", desc := "(J)Z" } : Jvm.MethodName) prog_57_method_3_code (4 : Nat) (Option.some Jvm.ClassFile.FieldType.boolean), Jvm.Cond.code ({ cls := "com/example/delaunet/delaunet/core/sim/Pace", name := "end", desc := "(J)V" } : Jvm.MethodName) prog_57_method_4_code (3 : Nat) (Option.none : Option Jvm.ClassFile.FieldType), Jvm.Cond.code ({ cls := "com/example/delaunet/delaunet/core/sim/Pace", name := "endTrial", desc := "()V" } : Jvm.MethodName) prog_57_method_5_code (3 : Nat) (Option.none : Option Jvm.ClassFile.FieldType), Jvm.Cond.code ({ cls := "com/example/delaunet/delaunet/core/sim/Pace", name := "begin", desc := "(Z)V" } : Jvm.MethodName) prog_57_method_6_code (2 : Nat) (Option.none : Option Jvm.ClassFile.FieldType)]
set_option maxRecDepth 65536 in
theorem codes_eq : words1.filter isCode = codes1 := rfl
theorem w_codes : ∀ c ∈ words1.filter isCode, c.before args0 about1 = true := by
  rw [codes_eq]
  intro c hc
  simp only [codes1, List.mem_cons, List.not_mem_nil, or_false] at hc
  rcases hc with rfl | rfl | rfl | rfl | rfl | rfl | rfl | rfl
  · exact w_c0
  · exact w_c1
  · exact w_c2
  · exact w_c3
  · exact w_c4
  · exact w_c5
  · exact w_c6
  · exact w_c7
set_option maxRecDepth 65536 in
theorem w_t1 : (words1.take 24).all (fun c => isCode c || c.before args0 about1) = true := by decide +kernel
set_option maxRecDepth 65536 in
theorem w_t2 : ((words1.drop 24).take 24).all (fun c => isCode c || c.before args0 about1) = true := by decide +kernel
set_option maxRecDepth 65536 in
theorem w_t3 : ((words1.drop 24).drop 24).all (fun c => isCode c || c.before args0 about1) = true := by decide +kernel
theorem w_tables : (allAtoms (Jvm.Cond.code x code maxLocals ret :: tables_1)).before args0 about1 = true := by
  rw [allAtoms_all]
  show words1.all (fun c => c.before args0 about1) = true
  refine all_split ?_ w_codes
  rw [← List.take_append_drop 24 words1, List.all_append, w_t1, ← List.take_append_drop 24 (words1.drop 24), List.all_append, w_t2, w_t3]
  rfl
set_option maxRecDepth 65536 in
theorem w_case : (Jvm.Cond.and given_1 narrow_1).before args0 about1 = true := by decide +kernel
theorem w_applies : (headSpec (Jvm.Cond.code x code maxLocals ret :: tables_1) room_1).applies x e0.platform about1 = true :=
  (Spec.applies_iff w_frames).mpr ⟨w_running, w_runnable, w_alone, w_named, w_hears, w_ripe, w_room, w_tables⟩
theorem atStart : AtStart classFile x code maxLocals ret World_1 tables_1 room_1 Calls_1 rest_1 Pre_1 launch0 p0 e0 about1 theMethod args0 below0 :=
  ⟨lists_1, trivial, launch0.admits_env _ _ _, launch0.least_env, fairChoices_fair.cas, fairChoices_fair.clock, w_frames, w_args, w_heap, w_applies, trivial, trivial, w_case⟩
end start1
theorem witness_1 : WitnessClaimed_1 := ⟨start1.p0, start1.e0, start1.about1, start1.theMethod, start1.args0, start1.below0, start1.atStart⟩
end Jvm.Pilot.@@N@@
