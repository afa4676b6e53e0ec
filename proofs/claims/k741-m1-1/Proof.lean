import JvmDerived
import JvmDerived.Pilot.@@N@@Statement
import JvmDerived.Pilot.@@N@@Code
set_option linter.unusedVariables false
set_option linter.unusedSimpArgs false
namespace Jvm.RoadKit
open Sem ClassFile Op Lib Jvm.Stand Jvm.Free Jvm.LawKit
section OwnGo
variable {p : Program} {l : Launch} {e : Env} {R : Room} {s : State} {m : MethodId} {args : Array Value} {below : List Frame} {meth : Method} {c : Code} {T U V : State} {locs : List Loc} {cells slots : Nat} {Q : Option Value → Heap → List Loc → Prop} {k n : Nat}
/-- from the state U the run ends within the frame, by a return of which Q holds -/
def Goes (p : Program) (e : Env) (below : List Frame) (s : State) (Q : Option Value → Heap → List Loc → Prop) (k n : Nat) (U : State) : Prop :=
  ∃ s₂ o, Steps p.tables e below U s₂ ∧ s₂.status = .running ∧ Ended s₂ below o ∧ ∃ v L, o = .returned v ∧ Q v s₂.heap L ∧ FrameEnd s o s₂ L k n
theorem Goes.st (st : ∀ t, Steps p.tables e below V t → Steps p.tables e below U t) (h : Goes p e below s Q k n V) : Goes p e below s Q k n U := by
  obtain ⟨s₂, o, h1, h2⟩ := h
  exact ⟨s₂, o, st _ h1, h2⟩
theorem Goes.tr (st : Steps p.tables e below U V) (h : Goes p e below s Q k n V) : Goes p e below s Q k n U := Goes.st (fun _ q => st.trans q) h
theorem Goes.cast {g g' : JFrame} (q : g = g') (h : Goes p e below s Q k n (T.setTop g')) : Goes p e below s Q k n (T.setTop g) := q ▸ h
theorem Goes.retN (X : Stand p l e R s m args below meth c T locs cells slots) (hx : p.tables.exec = Jvm.exec) {pc : Nat} {Ls : Array Slot} {z : Int32} {t : FieldType} {rest : List Value} (hret : meth.sig.returnType = some t) (hlk : meth.locks = false) (ht : t = .boolean ∨ t = .byte ∨ t = .char ∨ t = .short)
    (hd : decode c.code pc = .ok (.ireturn, 1)) (hc : cells ≤ k) (hs : slots ≤ n) (hq : Q (some (.int (nar t z))) T.heap locs) : Goes p e below s Q k n (T.setTop (mkF m pc Ls (.int z :: rest))) := by
  obtain ⟨fs, hr, hrun, hended, hW, hsame⟩ := X.leave (v := some (.int (nar t z))) (fun h => by rw [hret] at h; cases h) hlk
  exact ⟨_, _, Jvm.RoadKit.retN X hx hret ht hd hr, hrun, hended, _, _, rfl, hq, ⟨_, rfl⟩, hW, hsame.mono hc hs⟩
theorem Goes.retO (X : Stand p l e R s m args below meth c T locs cells slots) (hx : p.tables.exec = Jvm.exec) {pc : Nat} {Ls : Array Slot} {w : Value} {t : FieldType} {i : Instr} {rest : List Value} (hret : meth.sig.returnType = some t) (hlk : meth.locks = false) (hn : narrow t w = w)
    (hi : (i = .ireturn ∧ (t = .int ∨ t = .boolean ∨ t = .byte ∨ t = .char ∨ t = .short) ∧ ∃ z, w = .int z) ∨ (i = .lreturn ∧ t = .long ∧ ∃ z, w = .long z) ∨ (i = .dreturn ∧ t = .double ∧ ∃ z, w = .double z) ∨ (i = .freturn ∧ t = .float ∧ ∃ z, w = .float z) ∨ (i = .areturn ∧ t.isReference = true ∧ w.isRef = true))
    (hd : decode c.code pc = .ok (i, 1)) (hc : cells ≤ k) (hs : slots ≤ n) (hq : Q (some w) T.heap locs) : Goes p e below s Q k n (T.setTop (mkF m pc Ls (w :: rest))) := by
  obtain ⟨fs, hr, hrun, hended, hW, hsame⟩ := X.leave (v := some w) (fun h => by rw [hret] at h; cases h) hlk
  exact ⟨_, _, Jvm.RoadKit.retOut X hx hret hn hi hd hr, hrun, hended, _, _, rfl, hq, ⟨_, rfl⟩, hW, hsame.mono hc hs⟩
theorem Goes.ret0 (X : Stand p l e R s m args below meth c T locs cells slots) (hx : p.tables.exec = Jvm.exec) {pc : Nat} {Ls : Array Slot} (hret : meth.sig.returnType = none) (hlk : meth.locks = false)
    (hd : decode c.code pc = .ok (.return_, 1)) (hc : cells ≤ k) (hs : slots ≤ n) (hq : Q none T.heap locs) : Goes p e below s Q k n (T.setTop (mkF m pc Ls [])) := by
  obtain ⟨fs, hr, hrun, hended, hW, hsame⟩ := X.leave (v := none) (fun _ => rfl) hlk
  exact ⟨_, _, X.returnOut hx hret hd hr, hrun, hended, _, _, rfl, hq, ⟨_, rfl⟩, hW, hsame.mono hc hs⟩
end OwnGo
end Jvm.RoadKit
namespace Jvm.Pilot.@@N@@
open Jvm Jvm.ClassFile Sem Op Lib Jvm.Free Jvm.Stand Jvm.LawKit Jvm.RoadKit Bundle Jvm.Pilot.@@N@@.Jvm.D
theorem own_selp {Z s : State} {a0 args : Array Value} {y : MethodName} {n : Nat} (hZ : Z.Warmed39 s.vm) (wi : (Jvm.Cond.instantiable y.cls n).before a0 Z = true) (wm : (Jvm.Cond.instanceMethod y).before a0 Z = true) (wp : (Jvm.Cond.privateMethod y).before a0 Z = true) (hy : y.cls ≠ "java/lang/invoke/MethodHandle" ∧ y.cls ≠ "java/lang/invoke/VarHandle") : (Jvm.Cond.selects y.cls y y).before args s = true := by
  obtain ⟨c, k, h1, h2, h3, h4, -⟩ := Cond.instantiable_spec (mvT hZ wi (args := args))
  have h5 : k.isInterface = false := by cases hi : k.isInterface <;> simp [hi] at h4 ⊢
  exact selects_self_of_private h1 h2 h5 (Cond.privateMethod_at (mvP hZ wp (args := args))) (mvT hZ wm) hy
def own_bI (b : Bool) : Int32 := bif b then 1 else 0
theorem own_cat {v : Value} (h : v.isRef = true) : v.category = 1 := by cases v <;> simp [Value.isRef, Value.category] at h ⊢
theorem own_feq {args : Array Value} {s : State} {t u : Term} {C n d : String} {a w : Addr} (h : (Jvm.Cond.eq (.field t C n d) u).value args s none s [] = some true) (ht : t.eval args s none [] s = some (.ref a)) (hu : u.eval args s none [] s = some (.ref w)) : Fld s s.heap a C n d (.ref w) := by
  obtain ⟨x, y, e1, e2, k1, k2⟩ := cmp_v (Or.inl h)
  cases hu.symm.trans e2
  have hx : x.isRef = true := k2.2
  have q := gotT (eq_R e1 hu hx rfl) h
  subst q
  rw [fld_at ht] at e1
  exact Fld.start e1
theorem own_oeq {args : Array Value} {s : State} {t : Term} {C n d : String} {a : Addr} {k : Int32} (h : (Jvm.Cond.eq (.field t C n d) (.int k)).value args s none s [] = some true) (ht : t.eval args s none [] s = some (.ref a)) : Fld s s.heap a C n d (.int k) := by
  obtain ⟨x, y, e1, e2, k1, k2⟩ := cmp_v (Or.inl h)
  cases (Term.int_eval k).symm.trans e2
  obtain ⟨z, rfl⟩ := k2
  have q : z = k := by simpa [Jvm.Cond.value, e1, e2] using h
  subst q
  rw [fld_at ht] at e1
  exact Fld.start e1
theorem own_nsroot {Z : State} {a0 : Array Value} {O K : String} {n : Nat} (w : (Jvm.Cond.noSuperclass O).before a0 Z = true) (wk : (Jvm.Cond.instantiable K n).before a0 Z = true) (hn : O ≠ K) : NS Z O K := by
  obtain ⟨c, k, h1, h2, h3, -, -⟩ := Cond.noSuperclass_spec w
  obtain ⟨t, kt, g1, -⟩ := Cond.instantiable_spec wk
  have ne := ids_ne h1 g1 hn
  refine ⟨c, t, h1, g1, fun fuel => ?_⟩
  cases fuel with
  | zero => rfl
  | succ f => simp [Vm.isSubclassAux, ne, h2, h3]
theorem own_nsno {Z : State} {a0 : Array Value} {C S K : String} {n : Nat} (w : (Jvm.Cond.superclass C S).before a0 Z = true) (wk : (Jvm.Cond.instantiable K n).before a0 Z = true) (q : NS Z C K) (hn : C ≠ K) : ∃ c t, Z.vm.findClass C = some c ∧ Z.vm.findClass K = some t ∧ Z.vm.assignable c t = false := by
  obtain ⟨c, t, h0, g0, n3⟩ := q
  obtain ⟨p, k, kp, h1, h2, h3, h4, h5, -, h7⟩ := Cond.superclass_spec h0 w
  obtain ⟨t', kt, g1, g2, g3, g4, -⟩ := Cond.instantiable_spec wk
  cases g0.symm.trans g1
  have g7 : kt.isInterface = false := by cases hi : kt.isInterface <;> simp [hi] at g4 ⊢
  have ne := ids_ne h0 g0 hn
  refine ⟨c, t, h0, g0, ?_⟩
  show Z.vm.assignableAux (255 + 1) c t = false
  simp [Vm.assignableAux, ne, h2, g2, h5, g3, g7, Vm.isSubclass, n3]
def own_QI (Z : State) (a : Addr) (o t : Int64) (h0 : Heap) (n0 : Nat) (v : Option Value) (h : Heap) (L : List Loc) : Prop := v = none ∧ Fr n0 L ∧ Keep h0 h [a] ∧ Exa Z h a "com/example/nestor/nestor/protocol/TimestampedOffset" ∧ Fld Z h a "com/example/nestor/nestor/protocol/TimestampedOffset" "offset" "J" (.long o) ∧ Fld Z h a "com/example/nestor/nestor/protocol/TimestampedOffset" "timestamp" "J" (.long t)
def own_QN (Z : State) (h0 : Heap) (n0 : Nat) (v : Option Value) (h : Heap) (L : List Loc) : Prop := v = none ∧ Fr n0 L ∧ h = h0
def own_QB (Z : State) (b : Bool) (h0 : Heap) (n0 : Nat) (v : Option Value) (h : Heap) (L : List Loc) : Prop := v = some (.int (own_bI b)) ∧ Fr n0 L ∧ h = h0
def own_QL (Z : State) (a : Addr) (h0 : Heap) (n0 : Nat) (v : Option Value) (h : Heap) (L : List Loc) : Prop := v = none ∧ Fr n0 L ∧ Keep h0 h [a] ∧ Exa Z h a "java/lang/Long"
def own_QV (Z : State) (h0 : Heap) (n0 : Nat) (v : Option Value) (h : Heap) (L : List Loc) : Prop := ∃ x : Addr, v = some (.ref x) ∧ Fr n0 L ∧ Keep h0 h [] ∧ Exa Z h x "java/lang/Long"
def own_Q0 (Z : State) (h0 : Heap) (n0 : Nat) (v : Option Value) (h : Heap) (L : List Loc) : Prop := v = some (.int 1) ∧ Fr n0 L
open Jvm.Free.LongBox in
theorem own_cache {args : Array Value} {s : State} (at_ : ∀ d ∈ longClinit, d.before args s = true) : ∃ (arr : Addr) (cl : Cell), Sta s s.heap "java/lang/Long$LongCache" "cache" "[Ljava/lang/Long;" (.ref arr) ∧ Arr s s.heap arr cl (.object "java/lang/Long") ∧
    ∀ w : Int64, ¬ w < -128 → ¬ 127 < w → ∃ b : Addr, ¬ ((w.toInt32 + 128) < 0 ∨ cl.slots.size ≤ (w.toInt32 + 128).toNatClampNeg) ∧ cl.slots[(w.toInt32 + 128).toNatClampNeg]? = some (.ref b) ∧ Exa s s.heap b "java/lang/Long" := by
  have hX : (Jvm.Cond.exactly cacheT "[Ljava/lang/Long;").value args s none s [] = some true := Cond.before_iff.mp (at_ (.exactly cacheT "[Ljava/lang/Long;") (by simp [longClinit, LAD]))
  obtain ⟨arr, ev⟩ := exa_v hX
  have hS : Sta s s.heap "java/lang/Long$LongCache" "cache" "[Ljava/lang/Long;" (.ref arr) := Sta.start ev (Or.inl (at_ (.initializedFor LCC "cache" LAD) (by simp [longClinit])))
  obtain ⟨cl, hA⟩ := Arr.start ev (Cond.before_iff.mp (at_ (.arrayOf cacheT (.object LC)) (by simp [longClinit])))
  refine ⟨arr, cl, hS, hA, fun w h1 h2 => ?_⟩
  have hat := IntBox.arrayAt_of hA.1 hA.2.1 hA.2.2
  obtain ⟨hsz, hsize⟩ := IntBox.length_fwd (at_ (.eq (.length cacheT) (.int 256)) (by simp [longClinit])) ev hA.1 hA.2.1 hA.2.2
  have hsz256 : cl.slots.size = 256 := by
    have e := len_toInt hsz
    rw [hsize] at e
    have : ((256 : Int32)).toInt = 256 := by decide
    omega
  have hall := Cond.all_elim (c := .and (.exactly (.elem cacheT (.index 0)) LC) (.eq (.field (.elem cacheT (.index 0)) LC "value" "J") (.op1 .i2l (.sub (.index 0) (.int 128))))) ev hat
    (Cond.before_iff.mp (at_ (Jvm.Cond.all cacheT (.and (.exactly (.elem cacheT (.index 0)) LC) (.eq (.field (.elem cacheT (.index 0)) LC "value" "J") (.op1 .i2l (.sub (.index 0) (.int 128)))))) (by simp [longClinit])))
  obtain ⟨hbnd, hlt⟩ := place_okL w h1 h2
  obtain ⟨hex, -⟩ := and_e (hall _ (by rw [hsz256]; exact hlt))
  obtain ⟨b, eb⟩ := exa_v hex
  have E := exa_at eb hex
  obtain ⟨hnn, hback⟩ := IntBox.place_nonneg _ hlt
  have evi : cacheT.eval args s none [(w.toInt32 + 128).toNatClampNeg] s = some (.ref arr) := ev
  have ee := eb
  simp [Term.eval, evi, hnn, hat, hback] at ee
  exact ⟨b, by rw [hsz256]; exact hbnd, ee, E⟩
theorem own_d_prog_28_1_0 : decode prog_28_method_1_code 0 = .ok (.aload_n 0, 1) := by decide +kernel
theorem own_d_prog_28_1_1 : decode prog_28_method_1_code 1 = .ok (.invokespecial 1, 3) := by decide +kernel
theorem own_d_prog_28_1_4 : decode prog_28_method_1_code 4 = .ok (.aload_n 0, 1) := by decide +kernel
theorem own_d_prog_28_1_5 : decode prog_28_method_1_code 5 = .ok (.lload_n 1, 1) := by decide +kernel
theorem own_d_prog_28_1_6 : decode prog_28_method_1_code 6 = .ok (.putfield 7, 3) := by decide +kernel
theorem own_d_prog_28_1_9 : decode prog_28_method_1_code 9 = .ok (.aload_n 0, 1) := by decide +kernel
theorem own_d_prog_28_1_10 : decode prog_28_method_1_code 10 = .ok (.lload_n 3, 1) := by decide +kernel
theorem own_d_prog_28_1_11 : decode prog_28_method_1_code 11 = .ok (.putfield 13, 3) := by decide +kernel
theorem own_d_prog_28_1_14 : decode prog_28_method_1_code 14 = .ok (.return_, 1) := by decide +kernel
theorem own_pn9 : plainName "com/example/nestor/nestor/protocol/TimestampedOffset" = true := by first | (simp [plainName, overriddenIn]; done) | decide +kernel
theorem own_d_jdk_18_1_0 : decode jdk_18_method_1_code 0 = .ok (.aload_n 0, 1) := by decide +kernel
theorem own_d_jdk_18_1_1 : decode jdk_18_method_1_code 1 = .ok (.invokespecial 1, 3) := by decide +kernel
theorem own_d_jdk_18_1_4 : decode jdk_18_method_1_code 4 = .ok (.return_, 1) := by decide +kernel
theorem own_pn13 : plainName "java/lang/Number" = true := by first | (simp [plainName, overriddenIn]; done) | decide +kernel
theorem own_d_jdk_35_26_0 : decode jdk_35_method_26_code 0 = .ok (.aload_n 0, 1) := by decide +kernel
theorem own_pd15 : parseMethodDescriptor "()V" = some ⟨[], none⟩ := by decide +kernel
theorem own_d_jdk_35_26_1 : decode jdk_35_method_26_code 1 = .ok (.invokespecial 270, 3) := by decide +kernel
theorem own_d_jdk_35_26_4 : decode jdk_35_method_26_code 4 = .ok (.aload_n 0, 1) := by decide +kernel
theorem own_d_jdk_35_26_5 : decode jdk_35_method_26_code 5 = .ok (.lload_n 1, 1) := by decide +kernel
theorem own_d_jdk_35_26_6 : decode jdk_35_method_26_code 6 = .ok (.putfield 273, 3) := by decide +kernel
theorem own_d_jdk_35_26_9 : decode jdk_35_method_26_code 9 = .ok (.return_, 1) := by decide +kernel
theorem own_pn21 : plainName "java/lang/Long" = true := by first | (simp [plainName, overriddenIn]; done) | decide +kernel
theorem own_d_jdk_35_24_0 : decode jdk_35_method_24_code 0 = .ok (.sipush 128, 3) := by decide +kernel
theorem own_d_jdk_35_24_3 : decode jdk_35_method_24_code 3 = .ok (.istore_n 2, 1) := by decide +kernel
theorem own_d_jdk_35_24_4 : decode jdk_35_method_24_code 4 = .ok (.lload_n 0, 1) := by decide +kernel
theorem own_d_jdk_35_24_5 : decode jdk_35_method_24_code 5 = .ok (.ldc2_w 230, 3) := by decide +kernel
theorem own_d_jdk_35_24_8 : decode jdk_35_method_24_code 8 = .ok (.lcmp, 1) := by decide +kernel
theorem own_d_jdk_35_24_9 : decode jdk_35_method_24_code 9 = .ok (.ifCond .lt 22, 3) := by decide +kernel
theorem own_d_jdk_35_24_31 : decode jdk_35_method_24_code 31 = .ok (.new 1, 3) := by decide +kernel
theorem own_d_jdk_35_24_34 : decode jdk_35_method_24_code 34 = .ok (.dup, 1) := by decide +kernel
theorem own_d_jdk_35_24_35 : decode jdk_35_method_24_code 35 = .ok (.lload_n 0, 1) := by decide +kernel
theorem own_pd31 : parseMethodDescriptor "(J)V" = some ⟨[.long], none⟩ := by decide +kernel
theorem own_d_jdk_35_24_36 : decode jdk_35_method_24_code 36 = .ok (.invokespecial 240, 3) := by decide +kernel
theorem own_d_jdk_35_24_39 : decode jdk_35_method_24_code 39 = .ok (.areturn, 1) := by decide +kernel
theorem own_d_jdk_35_24_12 : decode jdk_35_method_24_code 12 = .ok (.lload_n 0, 1) := by decide +kernel
theorem own_d_jdk_35_24_13 : decode jdk_35_method_24_code 13 = .ok (.ldc2_w 232, 3) := by decide +kernel
theorem own_d_jdk_35_24_16 : decode jdk_35_method_24_code 16 = .ok (.lcmp, 1) := by decide +kernel
theorem own_d_jdk_35_24_17 : decode jdk_35_method_24_code 17 = .ok (.ifCond .gt 14, 3) := by decide +kernel
theorem own_d_jdk_35_24_20 : decode jdk_35_method_24_code 20 = .ok (.getstatic 234, 3) := by decide +kernel
theorem own_d_jdk_35_24_23 : decode jdk_35_method_24_code 23 = .ok (.lload_n 0, 1) := by decide +kernel
theorem own_d_jdk_35_24_24 : decode jdk_35_method_24_code 24 = .ok (.l2i, 1) := by decide +kernel
theorem own_d_jdk_35_24_25 : decode jdk_35_method_24_code 25 = .ok (.sipush 128, 3) := by decide +kernel
theorem own_d_jdk_35_24_28 : decode jdk_35_method_24_code 28 = .ok (.iadd, 1) := by decide +kernel
theorem own_d_jdk_35_24_29 : decode jdk_35_method_24_code 29 = .ok (.aaload, 1) := by decide +kernel
theorem own_d_jdk_35_24_30 : decode jdk_35_method_24_code 30 = .ok (.areturn, 1) := by decide +kernel
theorem own_d_prog_28_4_0 : decode prog_28_method_4_code 0 = .ok (.aload_n 1, 1) := by decide +kernel
theorem own_d_prog_28_4_1 : decode prog_28_method_4_code 1 = .ok (.instanceof 8, 3) := by decide +kernel
theorem own_d_prog_28_4_4 : decode prog_28_method_4_code 4 = .ok (.ifCond .eq 36, 3) := by decide +kernel
theorem own_d_prog_28_4_7 : decode prog_28_method_4_code 7 = .ok (.aload_n 1, 1) := by decide +kernel
theorem own_d_prog_28_4_8 : decode prog_28_method_4_code 8 = .ok (.checkcast 8, 3) := by decide +kernel
theorem own_d_prog_28_4_11 : decode prog_28_method_4_code 11 = .ok (.astore_n 2, 1) := by decide +kernel
theorem own_d_prog_28_4_12 : decode prog_28_method_4_code 12 = .ok (.aload_n 0, 1) := by decide +kernel
theorem own_d_prog_28_4_13 : decode prog_28_method_4_code 13 = .ok (.getfield 7, 3) := by decide +kernel
theorem own_d_prog_28_4_16 : decode prog_28_method_4_code 16 = .ok (.aload_n 2, 1) := by decide +kernel
theorem own_d_prog_28_4_17 : decode prog_28_method_4_code 17 = .ok (.getfield 7, 3) := by decide +kernel
theorem own_d_prog_28_4_20 : decode prog_28_method_4_code 20 = .ok (.lcmp, 1) := by decide +kernel
theorem own_d_prog_28_4_21 : decode prog_28_method_4_code 21 = .ok (.ifCond .ne 19, 3) := by decide +kernel
theorem own_d_prog_28_4_24 : decode prog_28_method_4_code 24 = .ok (.aload_n 0, 1) := by decide +kernel
theorem own_d_prog_28_4_25 : decode prog_28_method_4_code 25 = .ok (.getfield 13, 3) := by decide +kernel
theorem own_d_prog_28_4_28 : decode prog_28_method_4_code 28 = .ok (.aload_n 2, 1) := by decide +kernel
theorem own_d_prog_28_4_29 : decode prog_28_method_4_code 29 = .ok (.getfield 13, 3) := by decide +kernel
theorem own_d_prog_28_4_32 : decode prog_28_method_4_code 32 = .ok (.lcmp, 1) := by decide +kernel
theorem own_d_prog_28_4_33 : decode prog_28_method_4_code 33 = .ok (.ifCond .ne 7, 3) := by decide +kernel
theorem own_d_prog_28_4_36 : decode prog_28_method_4_code 36 = .ok (.iconst 1, 1) := by decide +kernel
theorem own_d_prog_28_4_37 : decode prog_28_method_4_code 37 = .ok (.goto 4, 3) := by decide +kernel
theorem own_d_prog_28_4_41 : decode prog_28_method_4_code 41 = .ok (.ireturn, 1) := by decide +kernel
theorem own_d_prog_28_4_40 : decode prog_28_method_4_code 40 = .ok (.iconst 0, 1) := by decide +kernel
theorem own_pd67 : parseMethodDescriptor "(JJ)V" = some ⟨[.long, .long], none⟩ := by decide +kernel
theorem own_pd68 : parseMethodDescriptor "(Ljava/lang/Object;)Z" = some ⟨[(.object "java/lang/Object")], some .boolean⟩ := by decide +kernel
theorem own_pd69 : parseMethodDescriptor "(J)Ljava/lang/Long;" = some ⟨[.long], some (.object "java/lang/Long")⟩ := by decide +kernel
theorem own_pn70 : plainName "com/example/nestor/nestor/protocol/TimestampedOffsetEqualsPinLaw" = true := by first | (simp [plainName, overriddenIn]; done) | decide +kernel
theorem own_rmI_ef (m : MethodId) (a : Addr) (o : Int64) (t : Int64) : entryFrame m #[(.ref a), (.long o), (.long t)] 5 = mkF m 0 #[.val (.ref a), .val (.long o), .second, .val (.long t), .second] [] := by first | (simp [entryFrame, mkF, argsToLocals, Value.category]; done) | rfl
set_option maxRecDepth 65536 in
set_option maxHeartbeats 40000000 in
theorem own_rmI (l : Launch) (Z : State) (a0 : Array Value) (hw : ∀ d ∈ tables_1, d.before a0 Z = true) (ws : List Jvm.Cond) (a : Addr) (o t : Int64) (h0 : Heap) (n0 : Nat) (Z0 : n0 ≤ h0.size) (E_a : Exa Z h0 a "com/example/nestor/nestor/protocol/TimestampedOffset") (Fo : Fld Z h0 a "com/example/nestor/nestor/protocol/TimestampedOffset" "offset" "J" (.long (0 : Int64))) (Ft : Fld Z h0 a "com/example/nestor/nestor/protocol/TimestampedOffset" "timestamp" "J" (.long (0 : Int64))) (g_a : n0 ≤ a) :
    MetFree l (⟨"com/example/nestor/nestor/protocol/TimestampedOffset", "<init>", "(JJ)V"⟩ : MethodName) (head1 (Jvm.Cond.code (⟨"com/example/nestor/nestor/protocol/TimestampedOffset", "<init>", "(JJ)V"⟩ : MethodName) prog_28_method_1_code 5 none :: ws) ({ frames := 1, cells := 0, slots := 0, locals := 12 } : Room)) (fun aa_ U => aa_ = #[(.ref a), (.long o), (.long t)] ∧ Z.Warmed39 U.vm ∧ U.heap = h0) (fun _ _ _ _ _ => True) (fun _ U oo_ U' => ∃ vv_ LL_, oo_ = .returned vv_ ∧ own_QI Z a o t h0 n0 vv_ U'.heap LL_ ∧ FrameEnd U oo_ U' LL_ ({ frames := 1, cells := 0, slots := 0, locals := 12 } : Room).cells ({ frames := 1, cells := 0, slots := 0, locals := 12 } : Room).slots) := by
  refine MetFree.of_bodySF (plainFor_of_name own_pn9) hisR ?_
  intro p e s m args below meth c s₁ Bd hml0 hP hK
  obtain ⟨rfl, hZ, hh⟩ := hP
  have hx := Bd.exec
  have hby := Bd.bytes
  have hml : c.maxLocals = 5 := hml0
  have hown : s.vm.findClass "com/example/nestor/nestor/protocol/TimestampedOffset" = some m.cls := findClass_of_methodNamed Bd.named
  have hnm := (name_of_methodNamed Bd.named Bd.method).1
  have hlk := Bd.notSynchronized
  have hret := Bd.returns
  have X0 : Stand p l e ({ frames := 1, cells := 0, slots := 0, locals := 12 } : Room) s m #[(.ref a), (.long o), (.long t)] below meth c s₁ [] 0 0 := Stand.of_body Bd
  have e0 : s₁.heap = h0 := by rw [← hh, Bd.state]; rfl
  have N0 := Fr.nil n0
  show Goes p e below s (own_QI Z a o t h0 n0) ({ frames := 1, cells := 0, slots := 0, locals := 12 } : Room).cells ({ frames := 1, cells := 0, slots := 0, locals := 12 } : Room).slots _
  refine Goes.cast (own_rmI_ef m a o t) ?_
  have K0 := Keep.refl h0 [a]
  show Goes p e below s _ _ _ (s₁.setTop (mkF m 0 #[.val (.ref a), .val (.long o), .second, .val (.long t), .second] []))
  refine Goes.st (fun t k => XS.aloadN X0.here hx rfl (hb hby own_d_prog_28_1_0) rfl rfl k) ?_
  show Goes p e below s _ _ _ (s₁.setTop (mkF m 1 #[.val (.ref a), .val (.long o), .second, .val (.long t), .second] [(.ref a)]))
  obtain ⟨T1, X1, e1, st1⟩ := initO X0 hx hZ hown (hw _ (List.mem_of_getElem? (i := 6) rfl)) (hw _ (List.mem_of_getElem? (i := 7) rfl)) (hw _ (List.mem_of_getElem? (i := 8) rfl)) e0 (g := (mkF m 1 #[.val (.ref a), .val (.long o), .second, .val (.long t), .second] [(.ref a)])) rfl (by rw [hml]; rfl) rfl (hb hby own_d_prog_28_1_1) (by decide) (W := 0) (by show 2 * 0 + _ ≤ _; exact Nat.le_of_eq rfl) (by decide)
  refine Goes.st st1 ?_
  show Goes p e below s _ _ _ (T1.setTop (mkF m 4 #[.val (.ref a), .val (.long o), .second, .val (.long t), .second] []))
  refine Goes.st (fun t k => XS.aloadN X1.here hx rfl (hb hby own_d_prog_28_1_4) rfl rfl k) ?_
  show Goes p e below s _ _ _ (T1.setTop (mkF m 5 #[.val (.ref a), .val (.long o), .second, .val (.long t), .second] [(.ref a)]))
  refine Goes.st (fun t k => XS.lloadN X1.here hx rfl (hb hby own_d_prog_28_1_5) rfl  k) ?_
  show Goes p e below s _ _ _ (T1.setTop (mkF m 6 #[.val (.ref a), .val (.long o), .second, .val (.long t), .second] [(.long o), (.ref a)]))
  obtain ⟨T2, h2, X2, e2, W2, st2⟩ := putF X1 hx hZ hown (host := "") (Or.inl (hw _ (List.mem_of_getElem? (i := 9) rfl))) Via.refl e1 Fo E_a (Or.inr ⟨(hw _ (List.mem_of_getElem? (i := 10) rfl)), rfl, hnm⟩) (hw _ (List.mem_of_getElem? (i := 1) rfl)) (ty := .long) (by decide) rfl rfl (g := (mkF m 6 #[.val (.ref a), .val (.long o), .second, .val (.long t), .second] [(.long o), (.ref a)])) rfl rfl (hb hby own_d_prog_28_1_6)
  refine Goes.st st2 ?_
  have E_a := E_a.wr W2
  have Fo := Fo.same W2
  have Ft := Ft.other W2 (Or.inr (slot_ne (Or.inr (hw _ (List.mem_of_getElem? (i := 12) rfl))) (Or.inr (hw _ (List.mem_of_getElem? (i := 10) rfl))) (by decide) (t := .long) (t' := .long) (by decide) (by decide)))
  have N2 := Fr.snoc X2 N0 g_a
  have Z0' := Nat.le_trans Z0 (Keep.of_wr W2).1
  have K0 := K0.wr W2 (Or.inl (List.mem_of_getElem? (i := 0) rfl))
  show Goes p e below s _ _ _ (T2.setTop (mkF m 9 #[.val (.ref a), .val (.long o), .second, .val (.long t), .second] []))
  refine Goes.st (fun t k => XS.aloadN X2.here hx rfl (hb hby own_d_prog_28_1_9) rfl rfl k) ?_
  show Goes p e below s _ _ _ (T2.setTop (mkF m 10 #[.val (.ref a), .val (.long o), .second, .val (.long t), .second] [(.ref a)]))
  refine Goes.st (fun t k => XS.lloadN X2.here hx rfl (hb hby own_d_prog_28_1_10) rfl  k) ?_
  show Goes p e below s _ _ _ (T2.setTop (mkF m 11 #[.val (.ref a), .val (.long o), .second, .val (.long t), .second] [(.long t), (.ref a)]))
  obtain ⟨T3, h3, X3, e3, W3, st3⟩ := putF X2 hx hZ hown (host := "") (Or.inl (hw _ (List.mem_of_getElem? (i := 11) rfl))) Via.refl e2 Ft E_a (Or.inr ⟨(hw _ (List.mem_of_getElem? (i := 12) rfl)), rfl, hnm⟩) (hw _ (List.mem_of_getElem? (i := 1) rfl)) (ty := .long) (by decide) rfl rfl (g := (mkF m 11 #[.val (.ref a), .val (.long o), .second, .val (.long t), .second] [(.long t), (.ref a)])) rfl rfl (hb hby own_d_prog_28_1_11)
  refine Goes.st st3 ?_
  have E_a := E_a.wr W3
  have Fo := Fo.other W3 (Or.inr (slot_ne (Or.inr (hw _ (List.mem_of_getElem? (i := 10) rfl))) (Or.inr (hw _ (List.mem_of_getElem? (i := 12) rfl))) (by decide) (t := .long) (t' := .long) (by decide) (by decide)))
  have Ft := Ft.same W3
  have N3 := Fr.snoc X3 N2 g_a
  have Z0'' := Nat.le_trans Z0' (Keep.of_wr W3).1
  have K0 := K0.wr W3 (Or.inl (List.mem_of_getElem? (i := 0) rfl))
  show Goes p e below s _ _ _ (T3.setTop (mkF m 14 #[.val (.ref a), .val (.long o), .second, .val (.long t), .second] []))
  rw [← e3] at K0 E_a Fo Ft
  exact Goes.ret0 X3 hx hret hlk (hb hby own_d_prog_28_1_14) (by decide) (by decide) (⟨rfl, N3, K0, E_a, Fo, Ft⟩)
theorem own_rmN_ef (m : MethodId) (a : Addr) : entryFrame m #[(.ref a)] 1 = mkF m 0 #[.val (.ref a)] [] := by first | (simp [entryFrame, mkF, argsToLocals, Value.category]; done) | rfl
set_option maxRecDepth 65536 in
set_option maxHeartbeats 40000000 in
theorem own_rmN (l : Launch) (Z : State) (a0 : Array Value) (hw : ∀ d ∈ tables_1, d.before a0 Z = true) (ws : List Jvm.Cond) (a : Addr) (h0 : Heap) (n0 : Nat) (Z0 : n0 ≤ h0.size)  :
    MetFree l (⟨"java/lang/Number", "<init>", "()V"⟩ : MethodName) (head1 (Jvm.Cond.code (⟨"java/lang/Number", "<init>", "()V"⟩ : MethodName) jdk_18_method_1_code 1 none :: ws) ({ frames := 1, cells := 0, slots := 0, locals := 12 } : Room)) (fun aa_ U => aa_ = #[(.ref a)] ∧ Z.Warmed39 U.vm ∧ U.heap = h0) (fun _ _ _ _ _ => True) (fun _ U oo_ U' => ∃ vv_ LL_, oo_ = .returned vv_ ∧ own_QN Z  h0 n0 vv_ U'.heap LL_ ∧ FrameEnd U oo_ U' LL_ ({ frames := 1, cells := 0, slots := 0, locals := 12 } : Room).cells ({ frames := 1, cells := 0, slots := 0, locals := 12 } : Room).slots) := by
  refine MetFree.of_bodySF (plainFor_of_name own_pn13) hisR ?_
  intro p e s m args below meth c s₁ Bd hml0 hP hK
  obtain ⟨rfl, hZ, hh⟩ := hP
  have hx := Bd.exec
  have hby := Bd.bytes
  have hml : c.maxLocals = 1 := hml0
  have hown : s.vm.findClass "java/lang/Number" = some m.cls := findClass_of_methodNamed Bd.named
  have hnm := (name_of_methodNamed Bd.named Bd.method).1
  have hlk := Bd.notSynchronized
  have hret := Bd.returns
  have X0 : Stand p l e ({ frames := 1, cells := 0, slots := 0, locals := 12 } : Room) s m #[(.ref a)] below meth c s₁ [] 0 0 := Stand.of_body Bd
  have e0 : s₁.heap = h0 := by rw [← hh, Bd.state]; rfl
  have N0 := Fr.nil n0
  show Goes p e below s (own_QN Z  h0 n0) ({ frames := 1, cells := 0, slots := 0, locals := 12 } : Room).cells ({ frames := 1, cells := 0, slots := 0, locals := 12 } : Room).slots _
  refine Goes.cast (own_rmN_ef m a) ?_
  show Goes p e below s _ _ _ (s₁.setTop (mkF m 0 #[.val (.ref a)] []))
  refine Goes.st (fun t k => XS.aloadN X0.here hx rfl (hb hby own_d_jdk_18_1_0) rfl rfl k) ?_
  show Goes p e below s _ _ _ (s₁.setTop (mkF m 1 #[.val (.ref a)] [(.ref a)]))
  obtain ⟨T4, X4, e4, st4⟩ := initO X0 hx hZ hown (hw _ (List.mem_of_getElem? (i := 37) rfl)) (hw _ (List.mem_of_getElem? (i := 7) rfl)) (hw _ (List.mem_of_getElem? (i := 8) rfl)) e0 (g := (mkF m 1 #[.val (.ref a)] [(.ref a)])) rfl (by rw [hml]; rfl) rfl (hb hby own_d_jdk_18_1_1) (by decide) (W := 0) (by show 2 * 0 + _ ≤ _; exact Nat.le_of_eq rfl) (by decide)
  refine Goes.st st4 ?_
  show Goes p e below s _ _ _ (T4.setTop (mkF m 4 #[.val (.ref a)] []))
  exact Goes.ret0 X4 hx hret hlk (hb hby own_d_jdk_18_1_4) (by decide) (by decide) (⟨rfl, N0, e4⟩)
theorem own_rmL_ef (m : MethodId) (a : Addr) (z : Int64) : entryFrame m #[(.ref a), (.long z)] 3 = mkF m 0 #[.val (.ref a), .val (.long z), .second] [] := by first | (simp [entryFrame, mkF, argsToLocals, Value.category]; done) | rfl
set_option maxRecDepth 65536 in
set_option maxHeartbeats 40000000 in
theorem own_rmL (l : Launch) (Z : State) (a0 : Array Value) (hw : ∀ d ∈ tables_1, d.before a0 Z = true) (ws : List Jvm.Cond) (a : Addr) (z : Int64) (h0 : Heap) (n0 : Nat) (Z0 : n0 ≤ h0.size) (E_a : Exa Z h0 a "java/lang/Long") (Fv : Fld Z h0 a "java/lang/Long" "value" "J" (.long (0 : Int64))) (g_a : n0 ≤ a) :
    MetFree l (⟨"java/lang/Long", "<init>", "(J)V"⟩ : MethodName) (head1 (Jvm.Cond.code (⟨"java/lang/Long", "<init>", "(J)V"⟩ : MethodName) jdk_35_method_26_code 3 none :: ws) ({ frames := 2, cells := 0, slots := 0, locals := 24 } : Room)) (fun aa_ U => aa_ = #[(.ref a), (.long z)] ∧ Z.Warmed39 U.vm ∧ U.heap = h0) (fun _ _ _ _ _ => True) (fun _ U oo_ U' => ∃ vv_ LL_, oo_ = .returned vv_ ∧ own_QL Z a h0 n0 vv_ U'.heap LL_ ∧ FrameEnd U oo_ U' LL_ ({ frames := 2, cells := 0, slots := 0, locals := 24 } : Room).cells ({ frames := 2, cells := 0, slots := 0, locals := 24 } : Room).slots) := by
  refine MetFree.of_bodySF (plainFor_of_name own_pn21) hisR ?_
  intro p e s m args below meth c s₁ Bd hml0 hP hK
  obtain ⟨rfl, hZ, hh⟩ := hP
  have hx := Bd.exec
  have hby := Bd.bytes
  have hml : c.maxLocals = 3 := hml0
  have hown : s.vm.findClass "java/lang/Long" = some m.cls := findClass_of_methodNamed Bd.named
  have hnm := (name_of_methodNamed Bd.named Bd.method).1
  have hlk := Bd.notSynchronized
  have hret := Bd.returns
  have X0 : Stand p l e ({ frames := 2, cells := 0, slots := 0, locals := 24 } : Room) s m #[(.ref a), (.long z)] below meth c s₁ [] 0 0 := Stand.of_body Bd
  have e0 : s₁.heap = h0 := by rw [← hh, Bd.state]; rfl
  have N0 := Fr.nil n0
  show Goes p e below s (own_QL Z a h0 n0) ({ frames := 2, cells := 0, slots := 0, locals := 24 } : Room).cells ({ frames := 2, cells := 0, slots := 0, locals := 24 } : Room).slots _
  refine Goes.cast (own_rmL_ef m a z) ?_
  have K0 := Keep.refl h0 [a]
  show Goes p e below s _ _ _ (s₁.setTop (mkF m 0 #[.val (.ref a), .val (.long z), .second] []))
  refine Goes.st (fun t k => XS.aloadN X0.here hx rfl (hb hby own_d_jdk_35_26_0) rfl rfl k) ?_
  show Goes p e below s _ _ _ (s₁.setTop (mkF m 1 #[.val (.ref a), .val (.long z), .second] [(.ref a)]))
  obtain ⟨_, _, ⟨T5, L5, k5, n5⟩, -, X5, ⟨Lc5, hQ5, l5, y5, z5⟩, st5⟩ := X0.specialBack hx (y := (⟨"java/lang/Number", "<init>", "()V"⟩ : MethodName)) rfl hown (mvT hZ (hw _ (List.mem_of_getElem? (i := 31) rfl))) (mvT hZ (hw _ (List.mem_of_getElem? (i := 32) rfl))) (mvT hZ (hw _ (List.mem_of_getElem? (i := 36) rfl))) (by decide) (backOf (W := 0) (own_rmN l Z a0 hw [] a h0 n0 Z0 ) hZ (hw _ (List.mem_of_getElem? (i := 36) rfl)) (hw _ (List.mem_of_getElem? (i := 35) rfl)) (by decide) (by decide)) (g := (mkF m 1 #[.val (.ref a), .val (.long z), .second] [(.ref a)])) rfl (by rw [hml]; rfl) (Steps.refl _) (a := a) (argsL := []) (rest := []) (lenOf own_pd15 rfl) rfl (by show 2 * 0 + _ ≤ _; exact Nat.le_of_eq rfl) (hb hby own_d_jdk_35_26_1) (fun _ _ => ⟨rfl, e0, (by decide : 0 + 0 ≤ _), (by decide : 0 + 0 ≤ _)⟩)
  dsimp only [Pt.U, Pt.locs, Pt.cells, Pt.slots] at X5 l5 y5 z5 st5 hQ5
  subst l5 y5 z5
  obtain ⟨rfl, N5q, EQ1⟩ := hQ5
  have N5 := Fr.app N0 N5q
  refine Goes.tr st5 ?_
  show Goes p e below s _ _ _ (T5.setTop (mkF m 4 #[.val (.ref a), .val (.long z), .second] []))
  refine Goes.st (fun t k => XS.aloadN X5.here hx rfl (hb hby own_d_jdk_35_26_4) rfl rfl k) ?_
  show Goes p e below s _ _ _ (T5.setTop (mkF m 5 #[.val (.ref a), .val (.long z), .second] [(.ref a)]))
  refine Goes.st (fun t k => XS.lloadN X5.here hx rfl (hb hby own_d_jdk_35_26_5) rfl  k) ?_
  show Goes p e below s _ _ _ (T5.setTop (mkF m 6 #[.val (.ref a), .val (.long z), .second] [(.long z), (.ref a)]))
  obtain ⟨T6, h6, X6, e6, W6, st6⟩ := putF X5 hx hZ hown (host := "") (Or.inl (hw _ (List.mem_of_getElem? (i := 38) rfl))) Via.refl EQ1 Fv E_a (Or.inr ⟨(hw _ (List.mem_of_getElem? (i := 39) rfl)), rfl, hnm⟩) (hw _ (List.mem_of_getElem? (i := 26) rfl)) (ty := .long) (by decide) rfl rfl (g := (mkF m 6 #[.val (.ref a), .val (.long z), .second] [(.long z), (.ref a)])) rfl rfl (hb hby own_d_jdk_35_26_6)
  refine Goes.st st6 ?_
  have E_a := E_a.wr W6
  have Fv := Fv.same W6
  have N6 := Fr.snoc X6 N5 g_a
  have Z0' := Nat.le_trans Z0 (Keep.of_wr W6).1
  have K0 := K0.wr W6 (Or.inl (List.mem_of_getElem? (i := 0) rfl))
  show Goes p e below s _ _ _ (T6.setTop (mkF m 9 #[.val (.ref a), .val (.long z), .second] []))
  rw [← e6] at K0 E_a
  exact Goes.ret0 X6 hx hret hlk (hb hby own_d_jdk_35_26_9) (by decide) (by decide) (⟨rfl, N6, K0, E_a⟩)
theorem own_rmV_ef (m : MethodId) (z : Int64) : entryFrame m #[(.long z)] 3 = mkF m 0 #[.val (.long z), .second, .unset] [] := by first | (simp [entryFrame, mkF, argsToLocals, Value.category]; done) | rfl
set_option maxRecDepth 65536 in
set_option maxHeartbeats 40000000 in
theorem own_rmV (l : Launch) (Z : State) (a0 : Array Value) (hw : ∀ d ∈ tables_1, d.before a0 Z = true) (ws : List Jvm.Cond) (z : Int64) (ca : Addr) (cl : Cell) (h0 : Heap) (n0 : Nat) (Z0 : n0 ≤ h0.size) (S_c : Sta Z h0 "java/lang/Long$LongCache" "cache" "[Ljava/lang/Long;" (.ref ca)) (Ac : Arr Z h0 ca cl (.object "java/lang/Long")) (HC : ∀ w : Int64, ¬ w < -128 → ¬ 127 < w → ∃ b : Addr, ¬ ((w.toInt32 + 128) < 0 ∨ cl.slots.size ≤ (w.toInt32 + 128).toNatClampNeg) ∧ cl.slots[(w.toInt32 + 128).toNatClampNeg]? = some (.ref b) ∧ Exa Z h0 b "java/lang/Long") :
    MetFree l (⟨"java/lang/Long", "valueOf", "(J)Ljava/lang/Long;"⟩ : MethodName) (head1 (Jvm.Cond.code (⟨"java/lang/Long", "valueOf", "(J)Ljava/lang/Long;"⟩ : MethodName) jdk_35_method_24_code 3 (some (.object "java/lang/Long")) :: ws) ({ frames := 3, cells := 1, slots := 1, locals := 39 } : Room)) (fun aa_ U => aa_ = #[(.long z)] ∧ Z.Warmed39 U.vm ∧ U.heap = h0) (fun _ _ _ _ _ => True) (fun _ U oo_ U' => ∃ vv_ LL_, oo_ = .returned vv_ ∧ own_QV Z  h0 n0 vv_ U'.heap LL_ ∧ FrameEnd U oo_ U' LL_ ({ frames := 3, cells := 1, slots := 1, locals := 39 } : Room).cells ({ frames := 3, cells := 1, slots := 1, locals := 39 } : Room).slots) := by
  refine MetFree.of_bodySF (plainFor_of_name own_pn21) hisR ?_
  intro p e s m args below meth c s₁ Bd hml0 hP hK
  obtain ⟨rfl, hZ, hh⟩ := hP
  have hx := Bd.exec
  have hby := Bd.bytes
  have hml : c.maxLocals = 3 := hml0
  have hown : s.vm.findClass "java/lang/Long" = some m.cls := findClass_of_methodNamed Bd.named
  have hnm := (name_of_methodNamed Bd.named Bd.method).1
  have hlk := Bd.notSynchronized
  have hret := Bd.returns
  have X0 : Stand p l e ({ frames := 3, cells := 1, slots := 1, locals := 39 } : Room) s m #[(.long z)] below meth c s₁ [] 0 0 := Stand.of_body Bd
  have e0 : s₁.heap = h0 := by rw [← hh, Bd.state]; rfl
  have N0 := Fr.nil n0
  show Goes p e below s (own_QV Z  h0 n0) ({ frames := 3, cells := 1, slots := 1, locals := 39 } : Room).cells ({ frames := 3, cells := 1, slots := 1, locals := 39 } : Room).slots _
  refine Goes.cast (own_rmV_ef m z) ?_
  show Goes p e below s _ _ _ (s₁.setTop (mkF m 0 #[.val (.long z), .second, .unset] []))
  refine Goes.st (fun t k => XS.sipush X0.here hx rfl (hb hby own_d_jdk_35_24_0) k) ?_
  show Goes p e below s _ _ _ (s₁.setTop (mkF m 3 #[.val (.long z), .second, .unset] [(.int (128 : Int32))]))
  refine Goes.st (fun t k => XS.istoreN X0.here hx rfl (hb hby own_d_jdk_35_24_3) rfl  (l' := #[.val (.long z), .second, .val (.int (128 : Int32))]) rfl k) ?_
  show Goes p e below s _ _ _ (s₁.setTop (mkF m 4 #[.val (.long z), .second, .val (.int (128 : Int32))] []))
  refine Goes.st (fun t k => XS.lloadN X0.here hx rfl (hb hby own_d_jdk_35_24_4) rfl  k) ?_
  show Goes p e below s _ _ _ (s₁.setTop (mkF m 5 #[.val (.long z), .second, .val (.int (128 : Int32))] [(.long z)]))
  refine Goes.st (fun t k => X0.ldc2Long hx hown (mvT hZ (hw _ (List.mem_of_getElem? (i := 24) rfl))) (g := (mkF m 5 #[.val (.long z), .second, .val (.int (128 : Int32))] [(.long z)])) rfl (hb hby own_d_jdk_35_24_5) _ k) ?_
  show Goes p e below s _ _ _ (s₁.setTop (mkF m 8 #[.val (.long z), .second, .val (.int (128 : Int32))] [(.long (-128 : Int64)), (.long z)]))
  refine Goes.st (fun t k => XS.lcmp X0.here hx rfl (hb hby own_d_jdk_35_24_8) rfl k) ?_
  show Goes p e below s _ _ _ (s₁.setTop (mkF m 9 #[.val (.long z), .second, .val (.int (128 : Int32))] [(.int (lcmpW z (-128 : Int64)))]))
  by_cases hc1 : z < (-128 : Int64)
  · refine Goes.st (fun t k => XS.ifYes X0.here hx rfl (pc0 := 9) (pc' := 31) rfl (hb hby own_d_jdk_35_24_9) rfl ((if0 _ _).trans (tlt ((lw_lt _ _).mpr hc1)).1) (by decide) (by decide) k) ?_
    have K0 := Keep.refl h0 []
    show Goes p e below s _ _ _ (s₁.setTop (mkF m 31 #[.val (.long z), .second, .val (.int (128 : Int32))] []))
    obtain ⟨T7, h7, X7, e7, E7, A7, D7, -, st7⟩ := newO X0 hx hZ hown (hw _ (List.mem_of_getElem? (i := 25) rfl)) (hw _ (List.mem_of_getElem? (i := 26) rfl)) (hw _ (List.mem_of_getElem? (i := 22) rfl)) e0 (g := (mkF m 31 #[.val (.long z), .second, .val (.int (128 : Int32))] [])) rfl (hb hby own_d_jdk_35_24_31) (by decide) (by decide)
    obtain ⟨b7, g7⟩ : ∃ z, z = h0.size := ⟨_, rfl⟩
    rw [← g7] at A7 D7 st7
    have gn_b7 : n0 ≤ b7 := Nat.le_trans Z0 (Nat.le_of_eq g7.symm)
    have kn_b7 : h0.size ≤ b7 := Nat.le_trans K0.1 (Nat.le_of_eq g7.symm)
    refine Goes.st st7 ?_
    have Z0' := Nat.le_trans Z0 E7.1
    have K0 := K0.ext E7
    have Ex_b7 := A7
    have F_value_b7 : Fld Z h7 b7 "java/lang/Long" "value" "J" (.long (0 : Int64)) := D7 (Or.inr (hw _ (List.mem_of_getElem? (i := 39) rfl))) (ty := .long) (by decide)
    show Goes p e below s _ _ _ (T7.setTop (mkF m 34 #[.val (.long z), .second, .val (.int (128 : Int32))] [(.ref b7)]))
    refine Goes.st (fun t k => XS.dup X7.here hx rfl (hb hby own_d_jdk_35_24_34) rfl rfl k) ?_
    show Goes p e below s _ _ _ (T7.setTop (mkF m 35 #[.val (.long z), .second, .val (.int (128 : Int32))] [(.ref b7), (.ref b7)]))
    refine Goes.st (fun t k => XS.lloadN X7.here hx rfl (hb hby own_d_jdk_35_24_35) rfl  k) ?_
    show Goes p e below s _ _ _ (T7.setTop (mkF m 36 #[.val (.long z), .second, .val (.int (128 : Int32))] [(.long z), (.ref b7), (.ref b7)]))
    obtain ⟨_, _, ⟨T8, L8, k8, n8⟩, -, X8, ⟨Lc8, hQ8, l8, y8, z8⟩, st8⟩ := X7.specialBack hx (y := (⟨"java/lang/Long", "<init>", "(J)V"⟩ : MethodName)) rfl hown (mvT hZ (hw _ (List.mem_of_getElem? (i := 27) rfl))) (mvT hZ (hw _ (List.mem_of_getElem? (i := 28) rfl))) (mvT hZ (hw _ (List.mem_of_getElem? (i := 30) rfl))) (by decide) (backOf (W := 1) (own_rmL l Z a0 hw [] b7 z h7 n0 Z0' Ex_b7 F_value_b7 gn_b7) hZ (hw _ (List.mem_of_getElem? (i := 30) rfl)) (hw _ (List.mem_of_getElem? (i := 22) rfl)) (by decide) (by decide)) (g := (mkF m 36 #[.val (.long z), .second, .val (.int (128 : Int32))] [(.long z), (.ref b7), (.ref b7)])) rfl (by rw [hml]; rfl) (Steps.refl _) (a := b7) (argsL := [(.long z)]) (rest := [(.ref b7)]) (lenOf own_pd31 rfl) rfl (by show 2 * 0 + _ ≤ _; exact Nat.le_of_eq rfl) (hb hby own_d_jdk_35_24_36) (fun _ _ => ⟨rfl, e7, (by decide : 1 + 0 ≤ _), (by decide : 1 + 0 ≤ _)⟩)
    dsimp only [Pt.U, Pt.locs, Pt.cells, Pt.slots] at X8 l8 y8 z8 st8 hQ8
    subst l8 y8 z8
    obtain ⟨rfl, N8q, KL, El⟩ := hQ8
    have N8 := Fr.app N0 N8q
    refine Goes.tr st8 ?_
    have Z0'' := Nat.le_trans Z0' KL.1
    have K0 : Keep h0 _ _ := K0.trans KL (allS (Or.inr kn_b7) all0)
    show Goes p e below s _ _ _ (T8.setTop (mkF m 39 #[.val (.long z), .second, .val (.int (128 : Int32))] [(.ref b7)]))
    exact Goes.retO X8 hx hret hlk rfl (Or.inr (Or.inr (Or.inr (Or.inr ⟨rfl, rfl, rfl⟩)))) (hb hby own_d_jdk_35_24_39) (by decide) (by decide) (⟨b7, rfl, N8, K0, El⟩)
  · refine Goes.st (fun t k => XS.ifNo X0.here hx rfl (hb hby own_d_jdk_35_24_9) rfl ((if0 _ _).trans (flt (mt (lw_lt _ _).mp hc1)).1) k) ?_
    show Goes p e below s _ _ _ (s₁.setTop (mkF m 12 #[.val (.long z), .second, .val (.int (128 : Int32))] []))
    refine Goes.st (fun t k => XS.lloadN X0.here hx rfl (hb hby own_d_jdk_35_24_12) rfl  k) ?_
    show Goes p e below s _ _ _ (s₁.setTop (mkF m 13 #[.val (.long z), .second, .val (.int (128 : Int32))] [(.long z)]))
    refine Goes.st (fun t k => X0.ldc2Long hx hown (mvT hZ (hw _ (List.mem_of_getElem? (i := 43) rfl))) (g := (mkF m 13 #[.val (.long z), .second, .val (.int (128 : Int32))] [(.long z)])) rfl (hb hby own_d_jdk_35_24_13) _ k) ?_
    show Goes p e below s _ _ _ (s₁.setTop (mkF m 16 #[.val (.long z), .second, .val (.int (128 : Int32))] [(.long (127 : Int64)), (.long z)]))
    refine Goes.st (fun t k => XS.lcmp X0.here hx rfl (hb hby own_d_jdk_35_24_16) rfl k) ?_
    show Goes p e below s _ _ _ (s₁.setTop (mkF m 17 #[.val (.long z), .second, .val (.int (128 : Int32))] [(.int (lcmpW z (127 : Int64)))]))
    by_cases hc2 : (127 : Int64) < z
    · refine Goes.st (fun t k => XS.ifYes X0.here hx rfl (pc0 := 17) (pc' := 31) rfl (hb hby own_d_jdk_35_24_17) rfl ((if0 _ _).trans (tlt ((lw_gt _ _).mpr hc2)).2.2.1) (by decide) (by decide) k) ?_
      have K0 := Keep.refl h0 []
      show Goes p e below s _ _ _ (s₁.setTop (mkF m 31 #[.val (.long z), .second, .val (.int (128 : Int32))] []))
      obtain ⟨T9, h9, X9, e9, E9, A9, D9, -, st9⟩ := newO X0 hx hZ hown (hw _ (List.mem_of_getElem? (i := 25) rfl)) (hw _ (List.mem_of_getElem? (i := 26) rfl)) (hw _ (List.mem_of_getElem? (i := 22) rfl)) e0 (g := (mkF m 31 #[.val (.long z), .second, .val (.int (128 : Int32))] [])) rfl (hb hby own_d_jdk_35_24_31) (by decide) (by decide)
      obtain ⟨b9, g9⟩ : ∃ z, z = h0.size := ⟨_, rfl⟩
      rw [← g9] at A9 D9 st9
      have gn_b9 : n0 ≤ b9 := Nat.le_trans Z0 (Nat.le_of_eq g9.symm)
      have kn_b9 : h0.size ≤ b9 := Nat.le_trans K0.1 (Nat.le_of_eq g9.symm)
      refine Goes.st st9 ?_
      have Z0' := Nat.le_trans Z0 E9.1
      have K0 := K0.ext E9
      have Ex_b9 := A9
      have F_value_b9 : Fld Z h9 b9 "java/lang/Long" "value" "J" (.long (0 : Int64)) := D9 (Or.inr (hw _ (List.mem_of_getElem? (i := 39) rfl))) (ty := .long) (by decide)
      show Goes p e below s _ _ _ (T9.setTop (mkF m 34 #[.val (.long z), .second, .val (.int (128 : Int32))] [(.ref b9)]))
      refine Goes.st (fun t k => XS.dup X9.here hx rfl (hb hby own_d_jdk_35_24_34) rfl rfl k) ?_
      show Goes p e below s _ _ _ (T9.setTop (mkF m 35 #[.val (.long z), .second, .val (.int (128 : Int32))] [(.ref b9), (.ref b9)]))
      refine Goes.st (fun t k => XS.lloadN X9.here hx rfl (hb hby own_d_jdk_35_24_35) rfl  k) ?_
      show Goes p e below s _ _ _ (T9.setTop (mkF m 36 #[.val (.long z), .second, .val (.int (128 : Int32))] [(.long z), (.ref b9), (.ref b9)]))
      obtain ⟨_, _, ⟨T10, L10, k10, n10⟩, -, X10, ⟨Lc10, hQ10, l10, y10, z10⟩, st10⟩ := X9.specialBack hx (y := (⟨"java/lang/Long", "<init>", "(J)V"⟩ : MethodName)) rfl hown (mvT hZ (hw _ (List.mem_of_getElem? (i := 27) rfl))) (mvT hZ (hw _ (List.mem_of_getElem? (i := 28) rfl))) (mvT hZ (hw _ (List.mem_of_getElem? (i := 30) rfl))) (by decide) (backOf (W := 1) (own_rmL l Z a0 hw [] b9 z h9 n0 Z0' Ex_b9 F_value_b9 gn_b9) hZ (hw _ (List.mem_of_getElem? (i := 30) rfl)) (hw _ (List.mem_of_getElem? (i := 22) rfl)) (by decide) (by decide)) (g := (mkF m 36 #[.val (.long z), .second, .val (.int (128 : Int32))] [(.long z), (.ref b9), (.ref b9)])) rfl (by rw [hml]; rfl) (Steps.refl _) (a := b9) (argsL := [(.long z)]) (rest := [(.ref b9)]) (lenOf own_pd31 rfl) rfl (by show 2 * 0 + _ ≤ _; exact Nat.le_of_eq rfl) (hb hby own_d_jdk_35_24_36) (fun _ _ => ⟨rfl, e9, (by decide : 1 + 0 ≤ _), (by decide : 1 + 0 ≤ _)⟩)
      dsimp only [Pt.U, Pt.locs, Pt.cells, Pt.slots] at X10 l10 y10 z10 st10 hQ10
      subst l10 y10 z10
      obtain ⟨rfl, N10q, KL, El⟩ := hQ10
      have N10 := Fr.app N0 N10q
      refine Goes.tr st10 ?_
      have Z0'' := Nat.le_trans Z0' KL.1
      have K0 : Keep h0 _ _ := K0.trans KL (allS (Or.inr kn_b9) all0)
      show Goes p e below s _ _ _ (T10.setTop (mkF m 39 #[.val (.long z), .second, .val (.int (128 : Int32))] [(.ref b9)]))
      exact Goes.retO X10 hx hret hlk rfl (Or.inr (Or.inr (Or.inr (Or.inr ⟨rfl, rfl, rfl⟩)))) (hb hby own_d_jdk_35_24_39) (by decide) (by decide) (⟨b9, rfl, N10, K0, El⟩)
    · refine Goes.st (fun t k => XS.ifNo X0.here hx rfl (hb hby own_d_jdk_35_24_17) rfl ((if0 _ _).trans (flt (mt (lw_gt _ _).mp hc2)).2.2.1) k) ?_
      show Goes p e below s _ _ _ (s₁.setTop (mkF m 20 #[.val (.long z), .second, .val (.int (128 : Int32))] []))
      obtain ⟨T11, X11, e11, st11⟩ := getS2 X0 hx hZ hown (host := "") (Or.inl (hw _ (List.mem_of_getElem? (i := 44) rfl))) Via.refl e0 S_c (g := (mkF m 20 #[.val (.long z), .second, .val (.int (128 : Int32))] [])) rfl (hb hby own_d_jdk_35_24_20)
      refine Goes.st st11 ?_
      show Goes p e below s _ _ _ (T11.setTop (mkF m 23 #[.val (.long z), .second, .val (.int (128 : Int32))] [(.ref ca)]))
      refine Goes.st (fun t k => XS.lloadN X11.here hx rfl (hb hby own_d_jdk_35_24_23) rfl  k) ?_
      show Goes p e below s _ _ _ (T11.setTop (mkF m 24 #[.val (.long z), .second, .val (.int (128 : Int32))] [(.long z), (.ref ca)]))
      refine Goes.st (fun t k => XS.l2i X11.here hx rfl (hb hby own_d_jdk_35_24_24) rfl k) ?_
      show Goes p e below s _ _ _ (T11.setTop (mkF m 25 #[.val (.long z), .second, .val (.int (128 : Int32))] [(.int (z.toInt32)), (.ref ca)]))
      refine Goes.st (fun t k => XS.sipush X11.here hx rfl (hb hby own_d_jdk_35_24_25) k) ?_
      show Goes p e below s _ _ _ (T11.setTop (mkF m 28 #[.val (.long z), .second, .val (.int (128 : Int32))] [(.int (128 : Int32)), (.int (z.toInt32)), (.ref ca)]))
      refine Goes.st (fun t k => XS.iadd X11.here hx rfl (hb hby own_d_jdk_35_24_28) rfl k) ?_
      show Goes p e below s _ _ _ (T11.setTop (mkF m 29 #[.val (.long z), .second, .val (.int (128 : Int32))] [(.int ((z.toInt32) + (128 : Int32))), (.ref ca)]))
      obtain ⟨bx, hin, hat, Eb⟩ := HC z hc1 hc2
      refine Goes.st (fun t k => X11.aaload hx (j := ((z.toInt32) + (128 : Int32))) (v := (.ref bx)) (by rw [e11]; exact Ac.1) (State.isArrayOf_alike hZ.alike Ac.2.1) rfl Ac.2.2 hin hat (g := (mkF m 29 #[.val (.long z), .second, .val (.int (128 : Int32))] [(.int ((z.toInt32) + (128 : Int32))), (.ref ca)])) rfl rfl (hb hby own_d_jdk_35_24_29) _ k) ?_
      rw [← e11] at Eb
      show Goes p e below s _ _ _ (T11.setTop (mkF m 30 #[.val (.long z), .second, .val (.int (128 : Int32))] [(.ref bx)]))
      exact Goes.retO X11 hx hret hlk rfl (Or.inr (Or.inr (Or.inr (Or.inr ⟨rfl, rfl, rfl⟩)))) (hb hby own_d_jdk_35_24_30) (by decide) (by decide) (⟨bx, rfl, N0, by rw [e11]; exact Keep.refl _ _, Eb⟩)
theorem own_rmE1_ef (m : MethodId) (a : Addr) (b : Addr) : entryFrame m #[(.ref a), (.ref b)] 3 = mkF m 0 #[.val (.ref a), .val (.ref b), .unset] [] := by first | (simp [entryFrame, mkF, argsToLocals, Value.category]; done) | rfl
set_option maxRecDepth 65536 in
set_option maxHeartbeats 40000000 in
theorem own_rmE1 (l : Launch) (Z : State) (a0 : Array Value) (hw : ∀ d ∈ tables_1, d.before a0 Z = true) (ws : List Jvm.Cond) (a b : Addr) (oa ta ob tb : Int64) (bb : Bool) (h0 : Heap) (n0 : Nat) (Z0 : n0 ≤ h0.size) (E_b : Exa Z h0 b "com/example/nestor/nestor/protocol/TimestampedOffset") (Foa : Fld Z h0 a "com/example/nestor/nestor/protocol/TimestampedOffset" "offset" "J" (.long oa)) (Fta : Fld Z h0 a "com/example/nestor/nestor/protocol/TimestampedOffset" "timestamp" "J" (.long ta)) (Fob : Fld Z h0 b "com/example/nestor/nestor/protocol/TimestampedOffset" "offset" "J" (.long ob)) (Ftb : Fld Z h0 b "com/example/nestor/nestor/protocol/TimestampedOffset" "timestamp" "J" (.long tb)) (hb1 : decide (oa = ob ∧ ta = tb) = bb) :
    MetFree l (⟨"com/example/nestor/nestor/protocol/TimestampedOffset", "equals", "(Ljava/lang/Object;)Z"⟩ : MethodName) (head1 (Jvm.Cond.code (⟨"com/example/nestor/nestor/protocol/TimestampedOffset", "equals", "(Ljava/lang/Object;)Z"⟩ : MethodName) prog_28_method_4_code 3 (some .boolean) :: ws) ({ frames := 0, cells := 0, slots := 0, locals := 0 } : Room)) (fun aa_ U => aa_ = #[(.ref a), (.ref b)] ∧ Z.Warmed39 U.vm ∧ U.heap = h0) (fun _ _ _ _ _ => True) (fun _ U oo_ U' => ∃ vv_ LL_, oo_ = .returned vv_ ∧ own_QB Z bb h0 n0 vv_ U'.heap LL_ ∧ FrameEnd U oo_ U' LL_ ({ frames := 0, cells := 0, slots := 0, locals := 0 } : Room).cells ({ frames := 0, cells := 0, slots := 0, locals := 0 } : Room).slots) := by
  refine MetFree.of_bodySF (plainFor_of_name own_pn9) hisR ?_
  intro p e s m args below meth c s₁ Bd hml0 hP hK
  obtain ⟨rfl, hZ, hh⟩ := hP
  have hx := Bd.exec
  have hby := Bd.bytes
  have hml : c.maxLocals = 3 := hml0
  have hown : s.vm.findClass "com/example/nestor/nestor/protocol/TimestampedOffset" = some m.cls := findClass_of_methodNamed Bd.named
  have hnm := (name_of_methodNamed Bd.named Bd.method).1
  have hlk := Bd.notSynchronized
  have hret := Bd.returns
  have X0 : Stand p l e ({ frames := 0, cells := 0, slots := 0, locals := 0 } : Room) s m #[(.ref a), (.ref b)] below meth c s₁ [] 0 0 := Stand.of_body Bd
  have e0 : s₁.heap = h0 := by rw [← hh, Bd.state]; rfl
  have N0 := Fr.nil n0
  show Goes p e below s (own_QB Z bb h0 n0) ({ frames := 0, cells := 0, slots := 0, locals := 0 } : Room).cells ({ frames := 0, cells := 0, slots := 0, locals := 0 } : Room).slots _
  refine Goes.cast (own_rmE1_ef m a b) ?_
  show Goes p e below s _ _ _ (s₁.setTop (mkF m 0 #[.val (.ref a), .val (.ref b), .unset] []))
  refine Goes.st (fun t k => XS.aloadN X0.here hx rfl (hb hby own_d_prog_28_4_0) rfl rfl k) ?_
  show Goes p e below s _ _ _ (s₁.setTop (mkF m 1 #[.val (.ref a), .val (.ref b), .unset] [(.ref b)]))
  obtain ⟨T12, X12, e12, st12⟩ := instY X0 hx hZ hown (hw _ (List.mem_of_getElem? (i := 18) rfl)) e0 (Ins.self E_b) (g := (mkF m 1 #[.val (.ref a), .val (.ref b), .unset] [(.ref b)])) rfl rfl (hb hby own_d_prog_28_4_1)
  refine Goes.st st12 ?_
  show Goes p e below s _ _ _ (T12.setTop (mkF m 4 #[.val (.ref a), .val (.ref b), .unset] [(.int (1 : Int32))]))
  refine Goes.st (fun t k => XS.ifNo X12.here hx rfl (hb hby own_d_prog_28_4_4) rfl ((if0 _ _).trans (feq (by decide)).1) k) ?_
  show Goes p e below s _ _ _ (T12.setTop (mkF m 7 #[.val (.ref a), .val (.ref b), .unset] []))
  refine Goes.st (fun t k => XS.aloadN X12.here hx rfl (hb hby own_d_prog_28_4_7) rfl rfl k) ?_
  show Goes p e below s _ _ _ (T12.setTop (mkF m 8 #[.val (.ref a), .val (.ref b), .unset] [(.ref b)]))
  obtain ⟨T13, X13, e13, st13⟩ := castY X12 hx hZ hown (hw _ (List.mem_of_getElem? (i := 18) rfl)) e12 (Ins.self E_b) (g := (mkF m 8 #[.val (.ref a), .val (.ref b), .unset] [(.ref b)])) rfl rfl (hb hby own_d_prog_28_4_8)
  refine Goes.st st13 ?_
  show Goes p e below s _ _ _ (T13.setTop (mkF m 11 #[.val (.ref a), .val (.ref b), .unset] [(.ref b)]))
  refine Goes.st (fun t k => XS.astoreN X13.here hx rfl (hb hby own_d_prog_28_4_11) rfl rfl (l' := #[.val (.ref a), .val (.ref b), .val (.ref b)]) rfl k) ?_
  show Goes p e below s _ _ _ (T13.setTop (mkF m 12 #[.val (.ref a), .val (.ref b), .val (.ref b)] []))
  refine Goes.st (fun t k => XS.aloadN X13.here hx rfl (hb hby own_d_prog_28_4_12) rfl rfl k) ?_
  show Goes p e below s _ _ _ (T13.setTop (mkF m 13 #[.val (.ref a), .val (.ref b), .val (.ref b)] [(.ref a)]))
  obtain ⟨T14, X14, e14, st14⟩ := getF X13 hx hZ hown (host := "") (Or.inl (hw _ (List.mem_of_getElem? (i := 9) rfl))) Via.refl e13 Foa (g := (mkF m 13 #[.val (.ref a), .val (.ref b), .val (.ref b)] [(.ref a)])) rfl rfl (hb hby own_d_prog_28_4_13)
  refine Goes.st st14 ?_
  show Goes p e below s _ _ _ (T14.setTop (mkF m 16 #[.val (.ref a), .val (.ref b), .val (.ref b)] [(.long oa)]))
  refine Goes.st (fun t k => XS.aloadN X14.here hx rfl (hb hby own_d_prog_28_4_16) rfl rfl k) ?_
  show Goes p e below s _ _ _ (T14.setTop (mkF m 17 #[.val (.ref a), .val (.ref b), .val (.ref b)] [(.ref b), (.long oa)]))
  obtain ⟨T15, X15, e15, st15⟩ := getF X14 hx hZ hown (host := "") (Or.inl (hw _ (List.mem_of_getElem? (i := 9) rfl))) Via.refl e14 Fob (g := (mkF m 17 #[.val (.ref a), .val (.ref b), .val (.ref b)] [(.ref b), (.long oa)])) rfl rfl (hb hby own_d_prog_28_4_17)
  refine Goes.st st15 ?_
  show Goes p e below s _ _ _ (T15.setTop (mkF m 20 #[.val (.ref a), .val (.ref b), .val (.ref b)] [(.long ob), (.long oa)]))
  refine Goes.st (fun t k => XS.lcmp X15.here hx rfl (hb hby own_d_prog_28_4_20) rfl k) ?_
  show Goes p e below s _ _ _ (T15.setTop (mkF m 21 #[.val (.ref a), .val (.ref b), .val (.ref b)] [(.int (lcmpW oa ob))]))
  by_cases hc1 : oa = ob
  · refine Goes.st (fun t k => XS.ifNo X15.here hx rfl (hb hby own_d_prog_28_4_21) rfl ((if0 _ _).trans (teq ((lw_eq _ _).mpr hc1)).2) k) ?_
    show Goes p e below s _ _ _ (T15.setTop (mkF m 24 #[.val (.ref a), .val (.ref b), .val (.ref b)] []))
    refine Goes.st (fun t k => XS.aloadN X15.here hx rfl (hb hby own_d_prog_28_4_24) rfl rfl k) ?_
    show Goes p e below s _ _ _ (T15.setTop (mkF m 25 #[.val (.ref a), .val (.ref b), .val (.ref b)] [(.ref a)]))
    obtain ⟨T16, X16, e16, st16⟩ := getF X15 hx hZ hown (host := "") (Or.inl (hw _ (List.mem_of_getElem? (i := 11) rfl))) Via.refl e15 Fta (g := (mkF m 25 #[.val (.ref a), .val (.ref b), .val (.ref b)] [(.ref a)])) rfl rfl (hb hby own_d_prog_28_4_25)
    refine Goes.st st16 ?_
    show Goes p e below s _ _ _ (T16.setTop (mkF m 28 #[.val (.ref a), .val (.ref b), .val (.ref b)] [(.long ta)]))
    refine Goes.st (fun t k => XS.aloadN X16.here hx rfl (hb hby own_d_prog_28_4_28) rfl rfl k) ?_
    show Goes p e below s _ _ _ (T16.setTop (mkF m 29 #[.val (.ref a), .val (.ref b), .val (.ref b)] [(.ref b), (.long ta)]))
    obtain ⟨T17, X17, e17, st17⟩ := getF X16 hx hZ hown (host := "") (Or.inl (hw _ (List.mem_of_getElem? (i := 11) rfl))) Via.refl e16 Ftb (g := (mkF m 29 #[.val (.ref a), .val (.ref b), .val (.ref b)] [(.ref b), (.long ta)])) rfl rfl (hb hby own_d_prog_28_4_29)
    refine Goes.st st17 ?_
    show Goes p e below s _ _ _ (T17.setTop (mkF m 32 #[.val (.ref a), .val (.ref b), .val (.ref b)] [(.long tb), (.long ta)]))
    refine Goes.st (fun t k => XS.lcmp X17.here hx rfl (hb hby own_d_prog_28_4_32) rfl k) ?_
    show Goes p e below s _ _ _ (T17.setTop (mkF m 33 #[.val (.ref a), .val (.ref b), .val (.ref b)] [(.int (lcmpW ta tb))]))
    by_cases hc2 : ta = tb
    · refine Goes.st (fun t k => XS.ifNo X17.here hx rfl (hb hby own_d_prog_28_4_33) rfl ((if0 _ _).trans (teq ((lw_eq _ _).mpr hc2)).2) k) ?_
      have hb2 : bb = true := by rw [← hb1]; simp [hc1, hc2]
      show Goes p e below s _ _ _ (T17.setTop (mkF m 36 #[.val (.ref a), .val (.ref b), .val (.ref b)] []))
      refine Goes.st (fun t k => XS.iconst X17.here hx rfl (hb hby own_d_prog_28_4_36) k) ?_
      show Goes p e below s _ _ _ (T17.setTop (mkF m 37 #[.val (.ref a), .val (.ref b), .val (.ref b)] [(.int (1 : Int32))]))
      refine Goes.st (fun t k => XS.goto X17.here hx rfl (pc0 := 37) (pc' := 41) rfl (hb hby own_d_prog_28_4_37) (by decide) (by decide) k) ?_
      show Goes p e below s _ _ _ (T17.setTop (mkF m 41 #[.val (.ref a), .val (.ref b), .val (.ref b)] [(.int (1 : Int32))]))
      exact Goes.retN X17 hx (t := .boolean) hret hlk (by simp) (hb hby own_d_prog_28_4_41) (by decide) (by decide) (⟨by rw [hb2]; rfl, N0, e17⟩)
    · refine Goes.st (fun t k => XS.ifYes X17.here hx rfl (pc0 := 33) (pc' := 40) rfl (hb hby own_d_prog_28_4_33) rfl ((if0 _ _).trans (feq (mt (lw_eq _ _).mp hc2)).2) (by decide) (by decide) k) ?_
      have hb2 : bb = false := by rw [← hb1]; simp [hc1, hc2]
      show Goes p e below s _ _ _ (T17.setTop (mkF m 40 #[.val (.ref a), .val (.ref b), .val (.ref b)] []))
      refine Goes.st (fun t k => XS.iconst X17.here hx rfl (hb hby own_d_prog_28_4_40) k) ?_
      show Goes p e below s _ _ _ (T17.setTop (mkF m 41 #[.val (.ref a), .val (.ref b), .val (.ref b)] [(.int (0 : Int32))]))
      exact Goes.retN X17 hx (t := .boolean) hret hlk (by simp) (hb hby own_d_prog_28_4_41) (by decide) (by decide) (⟨by rw [hb2]; rfl, N0, e17⟩)
  · refine Goes.st (fun t k => XS.ifYes X15.here hx rfl (pc0 := 21) (pc' := 40) rfl (hb hby own_d_prog_28_4_21) rfl ((if0 _ _).trans (feq (mt (lw_eq _ _).mp hc1)).2) (by decide) (by decide) k) ?_
    have hb2 : bb = false := by rw [← hb1]; simp [hc1]
    show Goes p e below s _ _ _ (T15.setTop (mkF m 40 #[.val (.ref a), .val (.ref b), .val (.ref b)] []))
    refine Goes.st (fun t k => XS.iconst X15.here hx rfl (hb hby own_d_prog_28_4_40) k) ?_
    show Goes p e below s _ _ _ (T15.setTop (mkF m 41 #[.val (.ref a), .val (.ref b), .val (.ref b)] [(.int (0 : Int32))]))
    exact Goes.retN X15 hx (t := .boolean) hret hlk (by simp) (hb hby own_d_prog_28_4_41) (by decide) (by decide) (⟨by rw [hb2]; rfl, N0, e15⟩)
theorem own_rmE2_ef (m : MethodId) (a : Addr) : entryFrame m #[(.ref a), .null] 3 = mkF m 0 #[.val (.ref a), .val .null, .unset] [] := by first | (simp [entryFrame, mkF, argsToLocals, Value.category]; done) | rfl
set_option maxRecDepth 65536 in
set_option maxHeartbeats 40000000 in
theorem own_rmE2 (l : Launch) (Z : State) (a0 : Array Value) (hw : ∀ d ∈ tables_1, d.before a0 Z = true) (ws : List Jvm.Cond) (a : Addr) (h0 : Heap) (n0 : Nat) (Z0 : n0 ≤ h0.size)  :
    MetFree l (⟨"com/example/nestor/nestor/protocol/TimestampedOffset", "equals", "(Ljava/lang/Object;)Z"⟩ : MethodName) (head1 (Jvm.Cond.code (⟨"com/example/nestor/nestor/protocol/TimestampedOffset", "equals", "(Ljava/lang/Object;)Z"⟩ : MethodName) prog_28_method_4_code 3 (some .boolean) :: ws) ({ frames := 0, cells := 0, slots := 0, locals := 0 } : Room)) (fun aa_ U => aa_ = #[(.ref a), .null] ∧ Z.Warmed39 U.vm ∧ U.heap = h0) (fun _ _ _ _ _ => True) (fun _ U oo_ U' => ∃ vv_ LL_, oo_ = .returned vv_ ∧ own_QB Z false h0 n0 vv_ U'.heap LL_ ∧ FrameEnd U oo_ U' LL_ ({ frames := 0, cells := 0, slots := 0, locals := 0 } : Room).cells ({ frames := 0, cells := 0, slots := 0, locals := 0 } : Room).slots) := by
  refine MetFree.of_bodySF (plainFor_of_name own_pn9) hisR ?_
  intro p e s m args below meth c s₁ Bd hml0 hP hK
  obtain ⟨rfl, hZ, hh⟩ := hP
  have hx := Bd.exec
  have hby := Bd.bytes
  have hml : c.maxLocals = 3 := hml0
  have hown : s.vm.findClass "com/example/nestor/nestor/protocol/TimestampedOffset" = some m.cls := findClass_of_methodNamed Bd.named
  have hnm := (name_of_methodNamed Bd.named Bd.method).1
  have hlk := Bd.notSynchronized
  have hret := Bd.returns
  have X0 : Stand p l e ({ frames := 0, cells := 0, slots := 0, locals := 0 } : Room) s m #[(.ref a), .null] below meth c s₁ [] 0 0 := Stand.of_body Bd
  have e0 : s₁.heap = h0 := by rw [← hh, Bd.state]; rfl
  have N0 := Fr.nil n0
  show Goes p e below s (own_QB Z false h0 n0) ({ frames := 0, cells := 0, slots := 0, locals := 0 } : Room).cells ({ frames := 0, cells := 0, slots := 0, locals := 0 } : Room).slots _
  refine Goes.cast (own_rmE2_ef m a) ?_
  show Goes p e below s _ _ _ (s₁.setTop (mkF m 0 #[.val (.ref a), .val .null, .unset] []))
  refine Goes.st (fun t k => XS.aloadN X0.here hx rfl (hb hby own_d_prog_28_4_0) rfl rfl k) ?_
  show Goes p e below s _ _ _ (s₁.setTop (mkF m 1 #[.val (.ref a), .val .null, .unset] [.null]))
  refine Goes.st (fun t k => X0.instanceofNull hx (g := (mkF m 1 #[.val (.ref a), .val .null, .unset] [.null])) rfl rfl (hb hby own_d_prog_28_4_1) _ k) ?_
  show Goes p e below s _ _ _ (s₁.setTop (mkF m 4 #[.val (.ref a), .val .null, .unset] [(.int (0 : Int32))]))
  refine Goes.st (fun t k => XS.ifYes X0.here hx rfl (pc0 := 4) (pc' := 40) rfl (hb hby own_d_prog_28_4_4) rfl ((if0 _ _).trans (teq rfl).1) (by decide) (by decide) k) ?_
  show Goes p e below s _ _ _ (s₁.setTop (mkF m 40 #[.val (.ref a), .val .null, .unset] []))
  refine Goes.st (fun t k => XS.iconst X0.here hx rfl (hb hby own_d_prog_28_4_40) k) ?_
  show Goes p e below s _ _ _ (s₁.setTop (mkF m 41 #[.val (.ref a), .val .null, .unset] [(.int (0 : Int32))]))
  exact Goes.retN X0 hx (t := .boolean) hret hlk (by simp) (hb hby own_d_prog_28_4_41) (by decide) (by decide) (⟨rfl, N0, e0⟩)
theorem own_rmE3_ef (m : MethodId) (a : Addr) (b : Addr) : entryFrame m #[(.ref a), (.ref b)] 3 = mkF m 0 #[.val (.ref a), .val (.ref b), .unset] [] := by first | (simp [entryFrame, mkF, argsToLocals, Value.category]; done) | rfl
set_option maxRecDepth 65536 in
set_option maxHeartbeats 40000000 in
theorem own_rmE3 (l : Launch) (Z : State) (a0 : Array Value) (hw : ∀ d ∈ tables_1, d.before a0 Z = true) (ws : List Jvm.Cond) (a b : Addr) (h0 : Heap) (n0 : Nat) (Z0 : n0 ≤ h0.size) (E_b : Exa Z h0 b "java/lang/Long") :
    MetFree l (⟨"com/example/nestor/nestor/protocol/TimestampedOffset", "equals", "(Ljava/lang/Object;)Z"⟩ : MethodName) (head1 (Jvm.Cond.code (⟨"com/example/nestor/nestor/protocol/TimestampedOffset", "equals", "(Ljava/lang/Object;)Z"⟩ : MethodName) prog_28_method_4_code 3 (some .boolean) :: ws) ({ frames := 0, cells := 0, slots := 0, locals := 0 } : Room)) (fun aa_ U => aa_ = #[(.ref a), (.ref b)] ∧ Z.Warmed39 U.vm ∧ U.heap = h0) (fun _ _ _ _ _ => True) (fun _ U oo_ U' => ∃ vv_ LL_, oo_ = .returned vv_ ∧ own_QB Z false h0 n0 vv_ U'.heap LL_ ∧ FrameEnd U oo_ U' LL_ ({ frames := 0, cells := 0, slots := 0, locals := 0 } : Room).cells ({ frames := 0, cells := 0, slots := 0, locals := 0 } : Room).slots) := by
  refine MetFree.of_bodySF (plainFor_of_name own_pn9) hisR ?_
  intro p e s m args below meth c s₁ Bd hml0 hP hK
  obtain ⟨rfl, hZ, hh⟩ := hP
  have hx := Bd.exec
  have hby := Bd.bytes
  have hml : c.maxLocals = 3 := hml0
  have hown : s.vm.findClass "com/example/nestor/nestor/protocol/TimestampedOffset" = some m.cls := findClass_of_methodNamed Bd.named
  have hnm := (name_of_methodNamed Bd.named Bd.method).1
  have hlk := Bd.notSynchronized
  have hret := Bd.returns
  have X0 : Stand p l e ({ frames := 0, cells := 0, slots := 0, locals := 0 } : Room) s m #[(.ref a), (.ref b)] below meth c s₁ [] 0 0 := Stand.of_body Bd
  have e0 : s₁.heap = h0 := by rw [← hh, Bd.state]; rfl
  have N0 := Fr.nil n0
  show Goes p e below s (own_QB Z false h0 n0) ({ frames := 0, cells := 0, slots := 0, locals := 0 } : Room).cells ({ frames := 0, cells := 0, slots := 0, locals := 0 } : Room).slots _
  refine Goes.cast (own_rmE3_ef m a b) ?_
  have hno := own_nsno (hw _ (List.mem_of_getElem? (i := 40) rfl)) (hw _ (List.mem_of_getElem? (i := 1) rfl)) (NS.step (hw _ (List.mem_of_getElem? (i := 40) rfl)) (NS.step (hw _ (List.mem_of_getElem? (i := 41) rfl)) (own_nsroot (hw _ (List.mem_of_getElem? (i := 42) rfl)) (hw _ (List.mem_of_getElem? (i := 1) rfl)) (by decide)) (by decide)) (by decide)) (by decide)
  show Goes p e below s _ _ _ (s₁.setTop (mkF m 0 #[.val (.ref a), .val (.ref b), .unset] []))
  refine Goes.st (fun t k => XS.aloadN X0.here hx rfl (hb hby own_d_prog_28_4_0) rfl rfl k) ?_
  show Goes p e below s _ _ _ (s₁.setTop (mkF m 1 #[.val (.ref a), .val (.ref b), .unset] [(.ref b)]))
  obtain ⟨T19, X19, e19, st19⟩ := instNo X0 hx hZ hown (hw _ (List.mem_of_getElem? (i := 18) rfl)) e0 E_b hno (g := (mkF m 1 #[.val (.ref a), .val (.ref b), .unset] [(.ref b)])) rfl rfl (hb hby own_d_prog_28_4_1)
  refine Goes.st st19 ?_
  show Goes p e below s _ _ _ (T19.setTop (mkF m 4 #[.val (.ref a), .val (.ref b), .unset] [(.int (0 : Int32))]))
  refine Goes.st (fun t k => XS.ifYes X19.here hx rfl (pc0 := 4) (pc' := 40) rfl (hb hby own_d_prog_28_4_4) rfl ((if0 _ _).trans (teq rfl).1) (by decide) (by decide) k) ?_
  show Goes p e below s _ _ _ (T19.setTop (mkF m 40 #[.val (.ref a), .val (.ref b), .unset] []))
  refine Goes.st (fun t k => XS.iconst X19.here hx rfl (hb hby own_d_prog_28_4_40) k) ?_
  show Goes p e below s _ _ _ (T19.setTop (mkF m 41 #[.val (.ref a), .val (.ref b), .unset] [(.int (0 : Int32))]))
  exact Goes.retN X19 hx (t := .boolean) hret hlk (by simp) (hb hby own_d_prog_28_4_41) (by decide) (by decide) (⟨rfl, N0, e19⟩)
theorem own_rm0_ef (m : MethodId) (o1 : Int64) (t1 : Int64) (o2 : Int64) (t2 : Int64) (fl : Int32) : entryFrame m #[(.long o1), (.long t1), (.long o2), (.long t2), (.int fl)] maxLocals = mkF m 0 #[.val (.long o1), .second, .val (.long t1), .second, .val (.long o2), .second, .val (.long t2), .second, .val (.int fl), .unset, .unset, .unset, .unset, .unset, .unset, .unset, .unset] [] := by first | (simp [entryFrame, mkF, argsToLocals, Value.category, maxLocals]; done) | rfl
set_option maxRecDepth 65536 in
set_option maxHeartbeats 40000000 in
theorem own_rm0 (l : Launch) (Z : State) (a0 : Array Value) (hw : ∀ d ∈ tables_1, d.before a0 Z = true) (ws : List Jvm.Cond) (o1 t1 o2 t2 : Int64) (fl : Int32) (ca : Addr) (cl : Cell) (h0 : Heap) (n0 : Nat) (Z0 : n0 ≤ h0.size) (O0 : Old Z n0 h0) (S_c : Sta Z Z.heap "java/lang/Long$LongCache" "cache" "[Ljava/lang/Long;" (.ref ca)) (Ac : Arr Z Z.heap ca cl (.object "java/lang/Long")) (HC : ∀ w : Int64, ¬ w < -128 → ¬ 127 < w → ∃ b : Addr, ¬ ((w.toInt32 + 128) < 0 ∨ cl.slots.size ≤ (w.toInt32 + 128).toNatClampNeg) ∧ cl.slots[(w.toInt32 + 128).toNatClampNeg]? = some (.ref b) ∧ Exa Z Z.heap b "java/lang/Long") :
    MetFree l x (head1 (Jvm.Cond.code x code maxLocals ret :: ws) room_1) (fun aa_ U => aa_ = #[(.long o1), (.long t1), (.long o2), (.long t2), (.int fl)] ∧ Z.Warmed39 U.vm ∧ U.heap = h0) (fun _ _ _ _ _ => True) (fun _ U oo_ U' => ∃ vv_ LL_, oo_ = .returned vv_ ∧ own_Q0 Z  h0 n0 vv_ U'.heap LL_ ∧ FrameEnd U oo_ U' LL_ 2 4) := by
  refine MetFree.of_bodySF (plainFor_of_name own_pn70) hisR ?_
  intro p e s m args below meth c s₁ Bd hml0 hP hK
  obtain ⟨rfl, hZ, hh⟩ := hP
  have hx := Bd.exec
  have hby := Bd.bytes
  have hml : c.maxLocals = 17 := hml0
  have hown : s.vm.findClass "com/example/nestor/nestor/protocol/TimestampedOffsetEqualsPinLaw" = some m.cls := findClass_of_methodNamed Bd.named
  have hnm := (name_of_methodNamed Bd.named Bd.method).1
  have hlk := Bd.notSynchronized
  have hret := Bd.returns
  have X0 : Stand p l e room_1 s m #[(.long o1), (.long t1), (.long o2), (.long t2), (.int fl)] below meth c s₁ [] 0 0 := Stand.of_body Bd
  have e0 : s₁.heap = h0 := by rw [← hh, Bd.state]; rfl
  have N0 := Fr.nil n0
  show Goes p e below s (own_Q0 Z  h0 n0) (2) (4) _
  refine Goes.cast (own_rm0_ef m o1 t1 o2 t2 fl) ?_
  show Goes p e below s _ _ _ (s₁.setTop (mkF m 0 #[.val (.long o1), .second, .val (.long t1), .second, .val (.long o2), .second, .val (.long t2), .second, .val (.int fl), .unset, .unset, .unset, .unset, .unset, .unset, .unset, .unset] []))
  refine Goes.st (fun t k => XS.iload X0.here hx rfl (hb hby at_0) rfl  k) ?_
  show Goes p e below s _ _ _ (s₁.setTop (mkF m 2 #[.val (.long o1), .second, .val (.long t1), .second, .val (.long o2), .second, .val (.long t2), .second, .val (.int fl), .unset, .unset, .unset, .unset, .unset, .unset, .unset, .unset] [(.int fl)]))
  refine Goes.st (fun t k => XS.iconst X0.here hx rfl (hb hby at_2) k) ?_
  show Goes p e below s _ _ _ (s₁.setTop (mkF m 3 #[.val (.long o1), .second, .val (.long t1), .second, .val (.long o2), .second, .val (.long t2), .second, .val (.int fl), .unset, .unset, .unset, .unset, .unset, .unset, .unset, .unset] [(.int (1 : Int32)), (.int fl)]))
  refine Goes.st (fun t k => XS.iand X0.here hx rfl (hb hby at_3) rfl k) ?_
  show Goes p e below s _ _ _ (s₁.setTop (mkF m 4 #[.val (.long o1), .second, .val (.long t1), .second, .val (.long o2), .second, .val (.long t2), .second, .val (.int fl), .unset, .unset, .unset, .unset, .unset, .unset, .unset, .unset] [(.int (fl &&& (1 : Int32)))]))
  have hj1 : ∀ oo : Int64, Goes p e below s (own_Q0 Z h0 n0) (2) (4) (s₁.setTop (mkF m 13 #[.val (.long o1), .second, .val (.long t1), .second, .val (.long o2), .second, .val (.long t2), .second, .val (.int fl), .unset, .unset, .unset, .unset, .unset, .unset, .unset, .unset] [(.long oo)])) := by
    intro oo
    show Goes p e below s _ _ _ (s₁.setTop (mkF m 13 #[.val (.long o1), .second, .val (.long t1), .second, .val (.long o2), .second, .val (.long t2), .second, .val (.int fl), .unset, .unset, .unset, .unset, .unset, .unset, .unset, .unset] [(.long oo)]))
    refine Goes.st (fun t k => XS.lstore X0.here hx rfl (hb hby at_13) rfl  (l' := #[.val (.long o1), .second, .val (.long t1), .second, .val (.long o2), .second, .val (.long t2), .second, .val (.int fl), .val (.long oo), .second, .unset, .unset, .unset, .unset, .unset, .unset]) rfl k) ?_
    show Goes p e below s _ _ _ (s₁.setTop (mkF m 15 #[.val (.long o1), .second, .val (.long t1), .second, .val (.long o2), .second, .val (.long t2), .second, .val (.int fl), .val (.long oo), .second, .unset, .unset, .unset, .unset, .unset, .unset] []))
    refine Goes.st (fun t k => XS.iload X0.here hx rfl (hb hby at_15) rfl  k) ?_
    show Goes p e below s _ _ _ (s₁.setTop (mkF m 17 #[.val (.long o1), .second, .val (.long t1), .second, .val (.long o2), .second, .val (.long t2), .second, .val (.int fl), .val (.long oo), .second, .unset, .unset, .unset, .unset, .unset, .unset] [(.int fl)]))
    refine Goes.st (fun t k => XS.iconst X0.here hx rfl (hb hby at_17) k) ?_
    show Goes p e below s _ _ _ (s₁.setTop (mkF m 18 #[.val (.long o1), .second, .val (.long t1), .second, .val (.long o2), .second, .val (.long t2), .second, .val (.int fl), .val (.long oo), .second, .unset, .unset, .unset, .unset, .unset, .unset] [(.int (2 : Int32)), (.int fl)]))
    refine Goes.st (fun t k => XS.iand X0.here hx rfl (hb hby at_18) rfl k) ?_
    show Goes p e below s _ _ _ (s₁.setTop (mkF m 19 #[.val (.long o1), .second, .val (.long t1), .second, .val (.long o2), .second, .val (.long t2), .second, .val (.int fl), .val (.long oo), .second, .unset, .unset, .unset, .unset, .unset, .unset] [(.int (fl &&& (2 : Int32)))]))
    have hj2 : ∀ tt : Int64, Goes p e below s (own_Q0 Z h0 n0) (2) (4) (s₁.setTop (mkF m 28 #[.val (.long o1), .second, .val (.long t1), .second, .val (.long o2), .second, .val (.long t2), .second, .val (.int fl), .val (.long oo), .second, .unset, .unset, .unset, .unset, .unset, .unset] [(.long tt)])) := by
      intro tt
      show Goes p e below s _ _ _ (s₁.setTop (mkF m 28 #[.val (.long o1), .second, .val (.long t1), .second, .val (.long o2), .second, .val (.long t2), .second, .val (.int fl), .val (.long oo), .second, .unset, .unset, .unset, .unset, .unset, .unset] [(.long tt)]))
      refine Goes.st (fun t k => XS.lstore X0.here hx rfl (hb hby at_28) rfl  (l' := #[.val (.long o1), .second, .val (.long t1), .second, .val (.long o2), .second, .val (.long t2), .second, .val (.int fl), .val (.long oo), .second, .val (.long tt), .second, .unset, .unset, .unset, .unset]) rfl k) ?_
      show Goes p e below s _ _ _ (s₁.setTop (mkF m 30 #[.val (.long o1), .second, .val (.long t1), .second, .val (.long o2), .second, .val (.long t2), .second, .val (.int fl), .val (.long oo), .second, .val (.long tt), .second, .unset, .unset, .unset, .unset] []))
      refine Goes.st (fun t k => XS.iload X0.here hx rfl (hb hby at_30) rfl  k) ?_
      show Goes p e below s _ _ _ (s₁.setTop (mkF m 32 #[.val (.long o1), .second, .val (.long t1), .second, .val (.long o2), .second, .val (.long t2), .second, .val (.int fl), .val (.long oo), .second, .val (.long tt), .second, .unset, .unset, .unset, .unset] [(.int fl)]))
      refine Goes.st (fun t k => XS.iconst X0.here hx rfl (hb hby at_32) k) ?_
      show Goes p e below s _ _ _ (s₁.setTop (mkF m 33 #[.val (.long o1), .second, .val (.long t1), .second, .val (.long o2), .second, .val (.long t2), .second, .val (.int fl), .val (.long oo), .second, .val (.long tt), .second, .unset, .unset, .unset, .unset] [(.int (2 : Int32)), (.int fl)]))
      refine Goes.st (fun t k => XS.iushr X0.here hx rfl (hb hby at_33) rfl k) ?_
      show Goes p e below s _ _ _ (s₁.setTop (mkF m 34 #[.val (.long o1), .second, .val (.long t1), .second, .val (.long o2), .second, .val (.long t2), .second, .val (.int fl), .val (.long oo), .second, .val (.long tt), .second, .unset, .unset, .unset, .unset] [(.int ((fl.toUInt32 >>> ((2 : Int32) &&& 31).toUInt32).toInt32))]))
      refine Goes.st (fun t k => XS.iconst X0.here hx rfl (hb hby at_34) k) ?_
      show Goes p e below s _ _ _ (s₁.setTop (mkF m 35 #[.val (.long o1), .second, .val (.long t1), .second, .val (.long o2), .second, .val (.long t2), .second, .val (.int fl), .val (.long oo), .second, .val (.long tt), .second, .unset, .unset, .unset, .unset] [(.int (3 : Int32)), (.int ((fl.toUInt32 >>> ((2 : Int32) &&& 31).toUInt32).toInt32))]))
      refine Goes.st (fun t k => XS.iand X0.here hx rfl (hb hby at_35) rfl k) ?_
      show Goes p e below s _ _ _ (s₁.setTop (mkF m 36 #[.val (.long o1), .second, .val (.long t1), .second, .val (.long o2), .second, .val (.long t2), .second, .val (.int fl), .val (.long oo), .second, .val (.long tt), .second, .unset, .unset, .unset, .unset] [(.int (((fl.toUInt32 >>> ((2 : Int32) &&& 31).toUInt32).toInt32) &&& (3 : Int32)))]))
      refine Goes.st (fun t k => XS.istore X0.here hx rfl (hb hby at_36) rfl  (l' := #[.val (.long o1), .second, .val (.long t1), .second, .val (.long o2), .second, .val (.long t2), .second, .val (.int fl), .val (.long oo), .second, .val (.long tt), .second, .val (.int (((fl.toUInt32 >>> ((2 : Int32) &&& 31).toUInt32).toInt32) &&& (3 : Int32))), .unset, .unset, .unset]) rfl k) ?_
      show Goes p e below s _ _ _ (s₁.setTop (mkF m 38 #[.val (.long o1), .second, .val (.long t1), .second, .val (.long o2), .second, .val (.long t2), .second, .val (.int fl), .val (.long oo), .second, .val (.long tt), .second, .val (.int (((fl.toUInt32 >>> ((2 : Int32) &&& 31).toUInt32).toInt32) &&& (3 : Int32))), .unset, .unset, .unset] []))
      obtain ⟨T20, h20, X20, e20, E20, A20, D20, -, st20⟩ := newO X0 hx hZ hown (hw _ (List.mem_of_getElem? (i := 0) rfl)) (hw _ (List.mem_of_getElem? (i := 1) rfl)) (hw _ (List.mem_of_getElem? (i := 2) rfl)) e0 (g := (mkF m 38 #[.val (.long o1), .second, .val (.long t1), .second, .val (.long o2), .second, .val (.long t2), .second, .val (.int fl), .val (.long oo), .second, .val (.long tt), .second, .val (.int (((fl.toUInt32 >>> ((2 : Int32) &&& 31).toUInt32).toInt32) &&& (3 : Int32))), .unset, .unset, .unset] [])) rfl (hb hby at_38) (by decide) (by decide)
      obtain ⟨b20, g20⟩ : ∃ z, z = h0.size := ⟨_, rfl⟩
      rw [← g20] at A20 D20 st20
      have gn_b20 : n0 ≤ b20 := Nat.le_trans Z0 (Nat.le_of_eq g20.symm)
      refine Goes.st st20 ?_
      have Z0' := Nat.le_trans Z0 E20.1
      have O0 := O0.ext E20
      have Ex_b20 := A20
      have F_offset_b20 : Fld Z h20 b20 "com/example/nestor/nestor/protocol/TimestampedOffset" "offset" "J" (.long (0 : Int64)) := D20 (Or.inr (hw _ (List.mem_of_getElem? (i := 10) rfl))) (ty := .long) (by decide)
      have F_timestamp_b20 : Fld Z h20 b20 "com/example/nestor/nestor/protocol/TimestampedOffset" "timestamp" "J" (.long (0 : Int64)) := D20 (Or.inr (hw _ (List.mem_of_getElem? (i := 12) rfl))) (ty := .long) (by decide)
      show Goes p e below s _ _ _ (T20.setTop (mkF m 41 #[.val (.long o1), .second, .val (.long t1), .second, .val (.long o2), .second, .val (.long t2), .second, .val (.int fl), .val (.long oo), .second, .val (.long tt), .second, .val (.int (((fl.toUInt32 >>> ((2 : Int32) &&& 31).toUInt32).toInt32) &&& (3 : Int32))), .unset, .unset, .unset] [(.ref b20)]))
      refine Goes.st (fun t k => XS.dup X20.here hx rfl (hb hby at_41) rfl rfl k) ?_
      show Goes p e below s _ _ _ (T20.setTop (mkF m 42 #[.val (.long o1), .second, .val (.long t1), .second, .val (.long o2), .second, .val (.long t2), .second, .val (.int fl), .val (.long oo), .second, .val (.long tt), .second, .val (.int (((fl.toUInt32 >>> ((2 : Int32) &&& 31).toUInt32).toInt32) &&& (3 : Int32))), .unset, .unset, .unset] [(.ref b20), (.ref b20)]))
      refine Goes.st (fun t k => XS.lloadN X20.here hx rfl (hb hby at_42) rfl  k) ?_
      show Goes p e below s _ _ _ (T20.setTop (mkF m 43 #[.val (.long o1), .second, .val (.long t1), .second, .val (.long o2), .second, .val (.long t2), .second, .val (.int fl), .val (.long oo), .second, .val (.long tt), .second, .val (.int (((fl.toUInt32 >>> ((2 : Int32) &&& 31).toUInt32).toInt32) &&& (3 : Int32))), .unset, .unset, .unset] [(.long o1), (.ref b20), (.ref b20)]))
      refine Goes.st (fun t k => XS.lloadN X20.here hx rfl (hb hby at_43) rfl  k) ?_
      show Goes p e below s _ _ _ (T20.setTop (mkF m 44 #[.val (.long o1), .second, .val (.long t1), .second, .val (.long o2), .second, .val (.long t2), .second, .val (.int fl), .val (.long oo), .second, .val (.long tt), .second, .val (.int (((fl.toUInt32 >>> ((2 : Int32) &&& 31).toUInt32).toInt32) &&& (3 : Int32))), .unset, .unset, .unset] [(.long t1), (.long o1), (.ref b20), (.ref b20)]))
      obtain ⟨_, _, ⟨T21, L21, k21, n21⟩, -, X21, ⟨Lc21, hQ21, l21, y21, z21⟩, st21⟩ := X20.specialBack hx (y := (⟨"com/example/nestor/nestor/protocol/TimestampedOffset", "<init>", "(JJ)V"⟩ : MethodName)) rfl hown (mvT hZ (hw _ (List.mem_of_getElem? (i := 3) rfl))) (mvT hZ (hw _ (List.mem_of_getElem? (i := 4) rfl))) (mvT hZ (hw _ (List.mem_of_getElem? (i := 5) rfl))) (by decide) (backOf (W := 1) (own_rmI l Z a0 hw [] b20 o1 t1 h20 n0 Z0' Ex_b20 F_offset_b20 F_timestamp_b20 gn_b20) hZ (hw _ (List.mem_of_getElem? (i := 5) rfl)) (hw _ (List.mem_of_getElem? (i := 2) rfl)) (by decide) (by decide)) (g := (mkF m 44 #[.val (.long o1), .second, .val (.long t1), .second, .val (.long o2), .second, .val (.long t2), .second, .val (.int fl), .val (.long oo), .second, .val (.long tt), .second, .val (.int (((fl.toUInt32 >>> ((2 : Int32) &&& 31).toUInt32).toInt32) &&& (3 : Int32))), .unset, .unset, .unset] [(.long t1), (.long o1), (.ref b20), (.ref b20)])) rfl (by rw [hml]; rfl) (Steps.refl _) (a := b20) (argsL := [(.long o1), (.long t1)]) (rest := [(.ref b20)]) (lenOf own_pd67 rfl) rfl (by show 2 * 0 + _ ≤ _; exact Nat.le_of_eq rfl) (hb hby at_44) (fun _ _ => ⟨rfl, e20, (by decide : 1 + 0 ≤ _), (by decide : 2 + 0 ≤ _)⟩)
      dsimp only [Pt.U, Pt.locs, Pt.cells, Pt.slots] at X21 l21 y21 z21 st21 hQ21
      subst l21 y21 z21
      obtain ⟨rfl, N21q, KI, Ex_b20, F_offset_b20, F_timestamp_b20⟩ := hQ21
      have N21 := Fr.app N0 N21q
      refine Goes.tr st21 ?_
      have Z0'' := Nat.le_trans Z0' KI.1
      have O0 := O0.keep KI (allS gn_b20 all0)
      show Goes p e below s _ _ _ (T21.setTop (mkF m 47 #[.val (.long o1), .second, .val (.long t1), .second, .val (.long o2), .second, .val (.long t2), .second, .val (.int fl), .val (.long oo), .second, .val (.long tt), .second, .val (.int (((fl.toUInt32 >>> ((2 : Int32) &&& 31).toUInt32).toInt32) &&& (3 : Int32))), .unset, .unset, .unset] [(.ref b20)]))
      refine Goes.st (fun t k => XS.astore X21.here hx rfl (hb hby at_47) rfl rfl (l' := #[.val (.long o1), .second, .val (.long t1), .second, .val (.long o2), .second, .val (.long t2), .second, .val (.int fl), .val (.long oo), .second, .val (.long tt), .second, .val (.int (((fl.toUInt32 >>> ((2 : Int32) &&& 31).toUInt32).toInt32) &&& (3 : Int32))), .val (.ref b20), .unset, .unset]) rfl k) ?_
      show Goes p e below s _ _ _ (T21.setTop (mkF m 49 #[.val (.long o1), .second, .val (.long t1), .second, .val (.long o2), .second, .val (.long t2), .second, .val (.int fl), .val (.long oo), .second, .val (.long tt), .second, .val (.int (((fl.toUInt32 >>> ((2 : Int32) &&& 31).toUInt32).toInt32) &&& (3 : Int32))), .val (.ref b20), .unset, .unset] []))
      refine Goes.st (fun t k => XS.iload X21.here hx rfl (hb hby at_49) rfl  k) ?_
      show Goes p e below s _ _ _ (T21.setTop (mkF m 51 #[.val (.long o1), .second, .val (.long t1), .second, .val (.long o2), .second, .val (.long t2), .second, .val (.int fl), .val (.long oo), .second, .val (.long tt), .second, .val (.int (((fl.toUInt32 >>> ((2 : Int32) &&& 31).toUInt32).toInt32) &&& (3 : Int32))), .val (.ref b20), .unset, .unset] [(.int (((fl.toUInt32 >>> ((2 : Int32) &&& 31).toUInt32).toInt32) &&& (3 : Int32)))]))
      by_cases hk0 : (((fl.toUInt32 >>> ((2 : Int32) &&& 31).toUInt32).toInt32) &&& (3 : Int32)) = (0 : Int32)
      · refine Goes.st (fun t k => XS.ifNo X21.here hx rfl (hb hby at_51) rfl ((if0 _ _).trans (teq hk0).2) k) ?_
        show Goes p e below s _ _ _ (T21.setTop (mkF m 54 #[.val (.long o1), .second, .val (.long t1), .second, .val (.long o2), .second, .val (.long t2), .second, .val (.int fl), .val (.long oo), .second, .val (.long tt), .second, .val (.int (((fl.toUInt32 >>> ((2 : Int32) &&& 31).toUInt32).toInt32) &&& (3 : Int32))), .val (.ref b20), .unset, .unset] []))
        obtain ⟨T22, h22, X22, e22, E22, A22, D22, -, st22⟩ := newO X21 hx hZ hown (hw _ (List.mem_of_getElem? (i := 0) rfl)) (hw _ (List.mem_of_getElem? (i := 1) rfl)) (hw _ (List.mem_of_getElem? (i := 2) rfl)) rfl (g := (mkF m 54 #[.val (.long o1), .second, .val (.long t1), .second, .val (.long o2), .second, .val (.long t2), .second, .val (.int fl), .val (.long oo), .second, .val (.long tt), .second, .val (.int (((fl.toUInt32 >>> ((2 : Int32) &&& 31).toUInt32).toInt32) &&& (3 : Int32))), .val (.ref b20), .unset, .unset] [])) rfl (hb hby at_54) (by decide) (by decide)
        obtain ⟨b22, g22⟩ : ∃ z, z = T21.heap.size := ⟨_, rfl⟩
        rw [← g22] at A22 D22 st22
        have ne_b20_b22 : b20 ≠ b22 := Nat.ne_of_lt (Nat.lt_of_lt_of_le Ex_b20.lt (Nat.le_of_eq g22.symm))
        have gn_b22 : n0 ≤ b22 := Nat.le_trans Z0'' (Nat.le_of_eq g22.symm)
        refine Goes.st st22 ?_
        have Ex_b20 := Ex_b20.ext E22
        have F_offset_b20 := F_offset_b20.ext E22
        have F_timestamp_b20 := F_timestamp_b20.ext E22
        have Z0''' := Nat.le_trans Z0'' E22.1
        have O0 := O0.ext E22
        have Ex_b22 := A22
        have F_offset_b22 : Fld Z h22 b22 "com/example/nestor/nestor/protocol/TimestampedOffset" "offset" "J" (.long (0 : Int64)) := D22 (Or.inr (hw _ (List.mem_of_getElem? (i := 10) rfl))) (ty := .long) (by decide)
        have F_timestamp_b22 : Fld Z h22 b22 "com/example/nestor/nestor/protocol/TimestampedOffset" "timestamp" "J" (.long (0 : Int64)) := D22 (Or.inr (hw _ (List.mem_of_getElem? (i := 12) rfl))) (ty := .long) (by decide)
        show Goes p e below s _ _ _ (T22.setTop (mkF m 57 #[.val (.long o1), .second, .val (.long t1), .second, .val (.long o2), .second, .val (.long t2), .second, .val (.int fl), .val (.long oo), .second, .val (.long tt), .second, .val (.int (((fl.toUInt32 >>> ((2 : Int32) &&& 31).toUInt32).toInt32) &&& (3 : Int32))), .val (.ref b20), .unset, .unset] [(.ref b22)]))
        refine Goes.st (fun t k => XS.dup X22.here hx rfl (hb hby at_57) rfl rfl k) ?_
        show Goes p e below s _ _ _ (T22.setTop (mkF m 58 #[.val (.long o1), .second, .val (.long t1), .second, .val (.long o2), .second, .val (.long t2), .second, .val (.int fl), .val (.long oo), .second, .val (.long tt), .second, .val (.int (((fl.toUInt32 >>> ((2 : Int32) &&& 31).toUInt32).toInt32) &&& (3 : Int32))), .val (.ref b20), .unset, .unset] [(.ref b22), (.ref b22)]))
        refine Goes.st (fun t k => XS.lload X22.here hx rfl (hb hby at_58) rfl  k) ?_
        show Goes p e below s _ _ _ (T22.setTop (mkF m 60 #[.val (.long o1), .second, .val (.long t1), .second, .val (.long o2), .second, .val (.long t2), .second, .val (.int fl), .val (.long oo), .second, .val (.long tt), .second, .val (.int (((fl.toUInt32 >>> ((2 : Int32) &&& 31).toUInt32).toInt32) &&& (3 : Int32))), .val (.ref b20), .unset, .unset] [(.long oo), (.ref b22), (.ref b22)]))
        refine Goes.st (fun t k => XS.lload X22.here hx rfl (hb hby at_60) rfl  k) ?_
        show Goes p e below s _ _ _ (T22.setTop (mkF m 62 #[.val (.long o1), .second, .val (.long t1), .second, .val (.long o2), .second, .val (.long t2), .second, .val (.int fl), .val (.long oo), .second, .val (.long tt), .second, .val (.int (((fl.toUInt32 >>> ((2 : Int32) &&& 31).toUInt32).toInt32) &&& (3 : Int32))), .val (.ref b20), .unset, .unset] [(.long tt), (.long oo), (.ref b22), (.ref b22)]))
        obtain ⟨_, _, ⟨T23, L23, k23, n23⟩, -, X23, ⟨Lc23, hQ23, l23, y23, z23⟩, st23⟩ := X22.specialBack hx (y := (⟨"com/example/nestor/nestor/protocol/TimestampedOffset", "<init>", "(JJ)V"⟩ : MethodName)) rfl hown (mvT hZ (hw _ (List.mem_of_getElem? (i := 3) rfl))) (mvT hZ (hw _ (List.mem_of_getElem? (i := 4) rfl))) (mvT hZ (hw _ (List.mem_of_getElem? (i := 5) rfl))) (by decide) (backOf (W := 1) (own_rmI l Z a0 hw [] b22 oo tt h22 n0 Z0''' Ex_b22 F_offset_b22 F_timestamp_b22 gn_b22) hZ (hw _ (List.mem_of_getElem? (i := 5) rfl)) (hw _ (List.mem_of_getElem? (i := 2) rfl)) (by decide) (by decide)) (g := (mkF m 62 #[.val (.long o1), .second, .val (.long t1), .second, .val (.long o2), .second, .val (.long t2), .second, .val (.int fl), .val (.long oo), .second, .val (.long tt), .second, .val (.int (((fl.toUInt32 >>> ((2 : Int32) &&& 31).toUInt32).toInt32) &&& (3 : Int32))), .val (.ref b20), .unset, .unset] [(.long tt), (.long oo), (.ref b22), (.ref b22)])) rfl (by rw [hml]; rfl) (Steps.refl _) (a := b22) (argsL := [(.long oo), (.long tt)]) (rest := [(.ref b22)]) (lenOf own_pd67 rfl) rfl (by show 2 * 0 + _ ≤ _; exact Nat.le_of_eq rfl) (hb hby at_62) (fun _ _ => ⟨rfl, e22, (by decide : 2 + 0 ≤ _), (by decide : 4 + 0 ≤ _)⟩)
        dsimp only [Pt.U, Pt.locs, Pt.cells, Pt.slots] at X23 l23 y23 z23 st23 hQ23
        subst l23 y23 z23
        obtain ⟨rfl, N23q, KI, Ex_b22, F_offset_b22, F_timestamp_b22⟩ := hQ23
        have N23 := Fr.app N21 N23q
        refine Goes.tr st23 ?_
        have Ex_b20 := Ex_b20.keep KI
        have F_offset_b20 := F_offset_b20.keep KI (ninS ne_b20_b22 nin0)
        have F_timestamp_b20 := F_timestamp_b20.keep KI (ninS ne_b20_b22 nin0)
        have Z0'''' := Nat.le_trans Z0''' KI.1
        have O0 := O0.keep KI (allS gn_b22 all0)
        show Goes p e below s _ _ _ (T23.setTop (mkF m 65 #[.val (.long o1), .second, .val (.long t1), .second, .val (.long o2), .second, .val (.long t2), .second, .val (.int fl), .val (.long oo), .second, .val (.long tt), .second, .val (.int (((fl.toUInt32 >>> ((2 : Int32) &&& 31).toUInt32).toInt32) &&& (3 : Int32))), .val (.ref b20), .unset, .unset] [(.ref b22)]))
        refine Goes.st (fun t k => XS.astore X23.here hx rfl (hb hby at_65) rfl rfl (l' := #[.val (.long o1), .second, .val (.long t1), .second, .val (.long o2), .second, .val (.long t2), .second, .val (.int fl), .val (.long oo), .second, .val (.long tt), .second, .val (.int (((fl.toUInt32 >>> ((2 : Int32) &&& 31).toUInt32).toInt32) &&& (3 : Int32))), .val (.ref b20), .val (.ref b22), .unset]) rfl k) ?_
        show Goes p e below s _ _ _ (T23.setTop (mkF m 67 #[.val (.long o1), .second, .val (.long t1), .second, .val (.long o2), .second, .val (.long t2), .second, .val (.int fl), .val (.long oo), .second, .val (.long tt), .second, .val (.int (((fl.toUInt32 >>> ((2 : Int32) &&& 31).toUInt32).toInt32) &&& (3 : Int32))), .val (.ref b20), .val (.ref b22), .unset] []))
        refine Goes.st (fun t k => XS.lloadN X23.here hx rfl (hb hby at_67) rfl  k) ?_
        show Goes p e below s _ _ _ (T23.setTop (mkF m 68 #[.val (.long o1), .second, .val (.long t1), .second, .val (.long o2), .second, .val (.long t2), .second, .val (.int fl), .val (.long oo), .second, .val (.long tt), .second, .val (.int (((fl.toUInt32 >>> ((2 : Int32) &&& 31).toUInt32).toInt32) &&& (3 : Int32))), .val (.ref b20), .val (.ref b22), .unset] [(.long o1)]))
        refine Goes.st (fun t k => XS.lload X23.here hx rfl (hb hby at_68) rfl  k) ?_
        show Goes p e below s _ _ _ (T23.setTop (mkF m 70 #[.val (.long o1), .second, .val (.long t1), .second, .val (.long o2), .second, .val (.long t2), .second, .val (.int fl), .val (.long oo), .second, .val (.long tt), .second, .val (.int (((fl.toUInt32 >>> ((2 : Int32) &&& 31).toUInt32).toInt32) &&& (3 : Int32))), .val (.ref b20), .val (.ref b22), .unset] [(.long oo), (.long o1)]))
        refine Goes.st (fun t k => XS.lcmp X23.here hx rfl (hb hby at_70) rfl k) ?_
        show Goes p e below s _ _ _ (T23.setTop (mkF m 71 #[.val (.long o1), .second, .val (.long t1), .second, .val (.long o2), .second, .val (.long t2), .second, .val (.int fl), .val (.long oo), .second, .val (.long tt), .second, .val (.int (((fl.toUInt32 >>> ((2 : Int32) &&& 31).toUInt32).toInt32) &&& (3 : Int32))), .val (.ref b20), .val (.ref b22), .unset] [(.int (lcmpW o1 oo))]))
        by_cases he1 : o1 = oo
        · refine Goes.st (fun t k => XS.ifNo X23.here hx rfl (hb hby at_71) rfl ((if0 _ _).trans (teq ((lw_eq _ _).mpr he1)).2) k) ?_
          show Goes p e below s _ _ _ (T23.setTop (mkF m 74 #[.val (.long o1), .second, .val (.long t1), .second, .val (.long o2), .second, .val (.long t2), .second, .val (.int fl), .val (.long oo), .second, .val (.long tt), .second, .val (.int (((fl.toUInt32 >>> ((2 : Int32) &&& 31).toUInt32).toInt32) &&& (3 : Int32))), .val (.ref b20), .val (.ref b22), .unset] []))
          refine Goes.st (fun t k => XS.lloadN X23.here hx rfl (hb hby at_74) rfl  k) ?_
          show Goes p e below s _ _ _ (T23.setTop (mkF m 75 #[.val (.long o1), .second, .val (.long t1), .second, .val (.long o2), .second, .val (.long t2), .second, .val (.int fl), .val (.long oo), .second, .val (.long tt), .second, .val (.int (((fl.toUInt32 >>> ((2 : Int32) &&& 31).toUInt32).toInt32) &&& (3 : Int32))), .val (.ref b20), .val (.ref b22), .unset] [(.long t1)]))
          refine Goes.st (fun t k => XS.lload X23.here hx rfl (hb hby at_75) rfl  k) ?_
          show Goes p e below s _ _ _ (T23.setTop (mkF m 77 #[.val (.long o1), .second, .val (.long t1), .second, .val (.long o2), .second, .val (.long t2), .second, .val (.int fl), .val (.long oo), .second, .val (.long tt), .second, .val (.int (((fl.toUInt32 >>> ((2 : Int32) &&& 31).toUInt32).toInt32) &&& (3 : Int32))), .val (.ref b20), .val (.ref b22), .unset] [(.long tt), (.long t1)]))
          refine Goes.st (fun t k => XS.lcmp X23.here hx rfl (hb hby at_77) rfl k) ?_
          show Goes p e below s _ _ _ (T23.setTop (mkF m 78 #[.val (.long o1), .second, .val (.long t1), .second, .val (.long o2), .second, .val (.long t2), .second, .val (.int fl), .val (.long oo), .second, .val (.long tt), .second, .val (.int (((fl.toUInt32 >>> ((2 : Int32) &&& 31).toUInt32).toInt32) &&& (3 : Int32))), .val (.ref b20), .val (.ref b22), .unset] [(.int (lcmpW t1 tt))]))
          by_cases he2 : t1 = tt
          · refine Goes.st (fun t k => XS.ifNo X23.here hx rfl (hb hby at_78) rfl ((if0 _ _).trans (teq ((lw_eq _ _).mpr he2)).2) k) ?_
            show Goes p e below s _ _ _ (T23.setTop (mkF m 81 #[.val (.long o1), .second, .val (.long t1), .second, .val (.long o2), .second, .val (.long t2), .second, .val (.int fl), .val (.long oo), .second, .val (.long tt), .second, .val (.int (((fl.toUInt32 >>> ((2 : Int32) &&& 31).toUInt32).toInt32) &&& (3 : Int32))), .val (.ref b20), .val (.ref b22), .unset] []))
            refine Goes.st (fun t k => XS.iconst X23.here hx rfl (hb hby at_81) k) ?_
            show Goes p e below s _ _ _ (T23.setTop (mkF m 82 #[.val (.long o1), .second, .val (.long t1), .second, .val (.long o2), .second, .val (.long t2), .second, .val (.int fl), .val (.long oo), .second, .val (.long tt), .second, .val (.int (((fl.toUInt32 >>> ((2 : Int32) &&& 31).toUInt32).toInt32) &&& (3 : Int32))), .val (.ref b20), .val (.ref b22), .unset] [(.int (1 : Int32))]))
            refine Goes.st (fun t k => XS.goto X23.here hx rfl (pc0 := 82) (pc' := 86) rfl (hb hby at_82) (by decide) (by decide) k) ?_
            show Goes p e below s _ _ _ (T23.setTop (mkF m 86 #[.val (.long o1), .second, .val (.long t1), .second, .val (.long o2), .second, .val (.long t2), .second, .val (.int fl), .val (.long oo), .second, .val (.long tt), .second, .val (.int (((fl.toUInt32 >>> ((2 : Int32) &&& 31).toUInt32).toInt32) &&& (3 : Int32))), .val (.ref b20), .val (.ref b22), .unset] [(.int (1 : Int32))]))
            refine Goes.st (fun t k => XS.istore X23.here hx rfl (hb hby at_86) rfl  (l' := #[.val (.long o1), .second, .val (.long t1), .second, .val (.long o2), .second, .val (.long t2), .second, .val (.int fl), .val (.long oo), .second, .val (.long tt), .second, .val (.int (((fl.toUInt32 >>> ((2 : Int32) &&& 31).toUInt32).toInt32) &&& (3 : Int32))), .val (.ref b20), .val (.ref b22), .val (.int (1 : Int32))]) rfl k) ?_
            show Goes p e below s _ _ _ (T23.setTop (mkF m 88 #[.val (.long o1), .second, .val (.long t1), .second, .val (.long o2), .second, .val (.long t2), .second, .val (.int fl), .val (.long oo), .second, .val (.long tt), .second, .val (.int (((fl.toUInt32 >>> ((2 : Int32) &&& 31).toUInt32).toInt32) &&& (3 : Int32))), .val (.ref b20), .val (.ref b22), .val (.int (1 : Int32))] []))
            refine Goes.st (fun t k => XS.goto X23.here hx rfl (pc0 := 88) (pc' := 131) rfl (hb hby at_88) (by decide) (by decide) k) ?_
            show Goes p e below s _ _ _ (T23.setTop (mkF m 131 #[.val (.long o1), .second, .val (.long t1), .second, .val (.long o2), .second, .val (.long t2), .second, .val (.int fl), .val (.long oo), .second, .val (.long tt), .second, .val (.int (((fl.toUInt32 >>> ((2 : Int32) &&& 31).toUInt32).toInt32) &&& (3 : Int32))), .val (.ref b20), .val (.ref b22), .val (.int (1 : Int32))] []))
            refine Goes.st (fun t k => XS.aload X23.here hx rfl (hb hby at_131) rfl rfl k) ?_
            show Goes p e below s _ _ _ (T23.setTop (mkF m 133 #[.val (.long o1), .second, .val (.long t1), .second, .val (.long o2), .second, .val (.long t2), .second, .val (.int fl), .val (.long oo), .second, .val (.long tt), .second, .val (.int (((fl.toUInt32 >>> ((2 : Int32) &&& 31).toUInt32).toInt32) &&& (3 : Int32))), .val (.ref b20), .val (.ref b22), .val (.int (1 : Int32))] [(.ref b20)]))
            refine Goes.st (fun t k => XS.aload X23.here hx rfl (hb hby at_133) rfl rfl k) ?_
            show Goes p e below s _ _ _ (T23.setTop (mkF m 135 #[.val (.long o1), .second, .val (.long t1), .second, .val (.long o2), .second, .val (.long t2), .second, .val (.int fl), .val (.long oo), .second, .val (.long tt), .second, .val (.int (((fl.toUInt32 >>> ((2 : Int32) &&& 31).toUInt32).toInt32) &&& (3 : Int32))), .val (.ref b20), .val (.ref b22), .val (.int (1 : Int32))] [(.ref b22), (.ref b20)]))
            obtain ⟨cq24, kq24, q24a, q24b, q24c⟩ := isOf hZ rfl Ex_b20
            obtain ⟨_, _, ⟨T24, L24, k24, n24⟩, -, X24, ⟨Lc24, hQ24, l24, y24, z24⟩, st24⟩ := X23.virtualBack hx (y := (⟨"com/example/nestor/nestor/protocol/TimestampedOffset", "equals", "(Ljava/lang/Object;)Z"⟩ : MethodName)) (z := (⟨"com/example/nestor/nestor/protocol/TimestampedOffset", "equals", "(Ljava/lang/Object;)Z"⟩ : MethodName)) hown (mvT hZ (hw _ (List.mem_of_getElem? (i := 13) rfl))) (mvT hZ (hw _ (List.mem_of_getElem? (i := 14) rfl))) (notFace_of_selects (args := #[]) (mvT hZ (hw _ (List.mem_of_getElem? (i := 16) rfl)))) (mvT hZ (hw _ (List.mem_of_getElem? (i := 16) rfl))) (mvT hZ (hw _ (List.mem_of_getElem? (i := 15) rfl))) (by decide) (backOf (W := 0) (own_rmE1 l Z a0 hw [] b20 b22 o1 t1 oo tt true T23.heap n0 Z0'''' Ex_b22 F_offset_b20 F_timestamp_b20 F_offset_b22 F_timestamp_b22 (by simp [he1, he2])) hZ (hw _ (List.mem_of_getElem? (i := 17) rfl)) (hw _ (List.mem_of_getElem? (i := 2) rfl)) (by decide) (by decide)) q24a q24c (g := (mkF m 135 #[.val (.long o1), .second, .val (.long t1), .second, .val (.long o2), .second, .val (.long t2), .second, .val (.int fl), .val (.long oo), .second, .val (.long tt), .second, .val (.int (((fl.toUInt32 >>> ((2 : Int32) &&& 31).toUInt32).toInt32) &&& (3 : Int32))), .val (.ref b20), .val (.ref b22), .val (.int (1 : Int32))] [(.ref b22), (.ref b20)])) rfl (by rw [hml]; rfl) (Steps.refl _) (argsL := [(.ref b22)]) (rest := []) (lenOf own_pd68 rfl) rfl (by show 2 * 0 + _ ≤ _; exact Nat.le_of_eq rfl) (hb hby at_135) (fun _ _ => ⟨rfl, rfl, (by decide : 2 + 0 ≤ _), (by decide : 4 + 0 ≤ _)⟩)
            dsimp only [Pt.U, Pt.locs, Pt.cells, Pt.slots] at X24 l24 y24 z24 st24 hQ24
            subst l24 y24 z24
            obtain ⟨rfl, N24q, EQ9⟩ := hQ24
            have N24 := Fr.app N23 N24q
            refine Goes.tr st24 ?_
            show Goes p e below s _ _ _ (T24.setTop (mkF m 138 #[.val (.long o1), .second, .val (.long t1), .second, .val (.long o2), .second, .val (.long t2), .second, .val (.int fl), .val (.long oo), .second, .val (.long tt), .second, .val (.int (((fl.toUInt32 >>> ((2 : Int32) &&& 31).toUInt32).toInt32) &&& (3 : Int32))), .val (.ref b20), .val (.ref b22), .val (.int (1 : Int32))] [(.int (own_bI true))]))
            refine Goes.st (fun t k => XS.iload X24.here hx rfl (hb hby at_138) rfl  k) ?_
            show Goes p e below s _ _ _ (T24.setTop (mkF m 140 #[.val (.long o1), .second, .val (.long t1), .second, .val (.long o2), .second, .val (.long t2), .second, .val (.int fl), .val (.long oo), .second, .val (.long tt), .second, .val (.int (((fl.toUInt32 >>> ((2 : Int32) &&& 31).toUInt32).toInt32) &&& (3 : Int32))), .val (.ref b20), .val (.ref b22), .val (.int (1 : Int32))] [(.int (1 : Int32)), (.int (own_bI true))]))
            refine Goes.st (fun t k => XS.icmpNo X24.here hx rfl (hb hby at_140) rfl (teq (rfl : own_bI true = 1)).2 k) ?_
            show Goes p e below s _ _ _ (T24.setTop (mkF m 143 #[.val (.long o1), .second, .val (.long t1), .second, .val (.long o2), .second, .val (.long t2), .second, .val (.int fl), .val (.long oo), .second, .val (.long tt), .second, .val (.int (((fl.toUInt32 >>> ((2 : Int32) &&& 31).toUInt32).toInt32) &&& (3 : Int32))), .val (.ref b20), .val (.ref b22), .val (.int (1 : Int32))] []))
            refine Goes.st (fun t k => XS.iconst X24.here hx rfl (hb hby at_143) k) ?_
            show Goes p e below s _ _ _ (T24.setTop (mkF m 144 #[.val (.long o1), .second, .val (.long t1), .second, .val (.long o2), .second, .val (.long t2), .second, .val (.int fl), .val (.long oo), .second, .val (.long tt), .second, .val (.int (((fl.toUInt32 >>> ((2 : Int32) &&& 31).toUInt32).toInt32) &&& (3 : Int32))), .val (.ref b20), .val (.ref b22), .val (.int (1 : Int32))] [(.int (1 : Int32))]))
            refine Goes.st (fun t k => XS.goto X24.here hx rfl (pc0 := 144) (pc' := 148) rfl (hb hby at_144) (by decide) (by decide) k) ?_
            show Goes p e below s _ _ _ (T24.setTop (mkF m 148 #[.val (.long o1), .second, .val (.long t1), .second, .val (.long o2), .second, .val (.long t2), .second, .val (.int fl), .val (.long oo), .second, .val (.long tt), .second, .val (.int (((fl.toUInt32 >>> ((2 : Int32) &&& 31).toUInt32).toInt32) &&& (3 : Int32))), .val (.ref b20), .val (.ref b22), .val (.int (1 : Int32))] [(.int (1 : Int32))]))
            exact Goes.retN X24 hx (t := .boolean) hret hlk (by simp) (hb hby at_148) (by decide) (by decide) (⟨rfl, N24⟩)
          · refine Goes.st (fun t k => XS.ifYes X23.here hx rfl (pc0 := 78) (pc' := 85) rfl (hb hby at_78) rfl ((if0 _ _).trans (feq (mt (lw_eq _ _).mp he2)).2) (by decide) (by decide) k) ?_
            show Goes p e below s _ _ _ (T23.setTop (mkF m 85 #[.val (.long o1), .second, .val (.long t1), .second, .val (.long o2), .second, .val (.long t2), .second, .val (.int fl), .val (.long oo), .second, .val (.long tt), .second, .val (.int (((fl.toUInt32 >>> ((2 : Int32) &&& 31).toUInt32).toInt32) &&& (3 : Int32))), .val (.ref b20), .val (.ref b22), .unset] []))
            refine Goes.st (fun t k => XS.iconst X23.here hx rfl (hb hby at_85) k) ?_
            show Goes p e below s _ _ _ (T23.setTop (mkF m 86 #[.val (.long o1), .second, .val (.long t1), .second, .val (.long o2), .second, .val (.long t2), .second, .val (.int fl), .val (.long oo), .second, .val (.long tt), .second, .val (.int (((fl.toUInt32 >>> ((2 : Int32) &&& 31).toUInt32).toInt32) &&& (3 : Int32))), .val (.ref b20), .val (.ref b22), .unset] [(.int (0 : Int32))]))
            refine Goes.st (fun t k => XS.istore X23.here hx rfl (hb hby at_86) rfl  (l' := #[.val (.long o1), .second, .val (.long t1), .second, .val (.long o2), .second, .val (.long t2), .second, .val (.int fl), .val (.long oo), .second, .val (.long tt), .second, .val (.int (((fl.toUInt32 >>> ((2 : Int32) &&& 31).toUInt32).toInt32) &&& (3 : Int32))), .val (.ref b20), .val (.ref b22), .val (.int (0 : Int32))]) rfl k) ?_
            show Goes p e below s _ _ _ (T23.setTop (mkF m 88 #[.val (.long o1), .second, .val (.long t1), .second, .val (.long o2), .second, .val (.long t2), .second, .val (.int fl), .val (.long oo), .second, .val (.long tt), .second, .val (.int (((fl.toUInt32 >>> ((2 : Int32) &&& 31).toUInt32).toInt32) &&& (3 : Int32))), .val (.ref b20), .val (.ref b22), .val (.int (0 : Int32))] []))
            refine Goes.st (fun t k => XS.goto X23.here hx rfl (pc0 := 88) (pc' := 131) rfl (hb hby at_88) (by decide) (by decide) k) ?_
            show Goes p e below s _ _ _ (T23.setTop (mkF m 131 #[.val (.long o1), .second, .val (.long t1), .second, .val (.long o2), .second, .val (.long t2), .second, .val (.int fl), .val (.long oo), .second, .val (.long tt), .second, .val (.int (((fl.toUInt32 >>> ((2 : Int32) &&& 31).toUInt32).toInt32) &&& (3 : Int32))), .val (.ref b20), .val (.ref b22), .val (.int (0 : Int32))] []))
            refine Goes.st (fun t k => XS.aload X23.here hx rfl (hb hby at_131) rfl rfl k) ?_
            show Goes p e below s _ _ _ (T23.setTop (mkF m 133 #[.val (.long o1), .second, .val (.long t1), .second, .val (.long o2), .second, .val (.long t2), .second, .val (.int fl), .val (.long oo), .second, .val (.long tt), .second, .val (.int (((fl.toUInt32 >>> ((2 : Int32) &&& 31).toUInt32).toInt32) &&& (3 : Int32))), .val (.ref b20), .val (.ref b22), .val (.int (0 : Int32))] [(.ref b20)]))
            refine Goes.st (fun t k => XS.aload X23.here hx rfl (hb hby at_133) rfl rfl k) ?_
            show Goes p e below s _ _ _ (T23.setTop (mkF m 135 #[.val (.long o1), .second, .val (.long t1), .second, .val (.long o2), .second, .val (.long t2), .second, .val (.int fl), .val (.long oo), .second, .val (.long tt), .second, .val (.int (((fl.toUInt32 >>> ((2 : Int32) &&& 31).toUInt32).toInt32) &&& (3 : Int32))), .val (.ref b20), .val (.ref b22), .val (.int (0 : Int32))] [(.ref b22), (.ref b20)]))
            obtain ⟨cq25, kq25, q25a, q25b, q25c⟩ := isOf hZ rfl Ex_b20
            obtain ⟨_, _, ⟨T25, L25, k25, n25⟩, -, X25, ⟨Lc25, hQ25, l25, y25, z25⟩, st25⟩ := X23.virtualBack hx (y := (⟨"com/example/nestor/nestor/protocol/TimestampedOffset", "equals", "(Ljava/lang/Object;)Z"⟩ : MethodName)) (z := (⟨"com/example/nestor/nestor/protocol/TimestampedOffset", "equals", "(Ljava/lang/Object;)Z"⟩ : MethodName)) hown (mvT hZ (hw _ (List.mem_of_getElem? (i := 13) rfl))) (mvT hZ (hw _ (List.mem_of_getElem? (i := 14) rfl))) (notFace_of_selects (args := #[]) (mvT hZ (hw _ (List.mem_of_getElem? (i := 16) rfl)))) (mvT hZ (hw _ (List.mem_of_getElem? (i := 16) rfl))) (mvT hZ (hw _ (List.mem_of_getElem? (i := 15) rfl))) (by decide) (backOf (W := 0) (own_rmE1 l Z a0 hw [] b20 b22 o1 t1 oo tt false T23.heap n0 Z0'''' Ex_b22 F_offset_b20 F_timestamp_b20 F_offset_b22 F_timestamp_b22 (by simp [he1, he2])) hZ (hw _ (List.mem_of_getElem? (i := 17) rfl)) (hw _ (List.mem_of_getElem? (i := 2) rfl)) (by decide) (by decide)) q25a q25c (g := (mkF m 135 #[.val (.long o1), .second, .val (.long t1), .second, .val (.long o2), .second, .val (.long t2), .second, .val (.int fl), .val (.long oo), .second, .val (.long tt), .second, .val (.int (((fl.toUInt32 >>> ((2 : Int32) &&& 31).toUInt32).toInt32) &&& (3 : Int32))), .val (.ref b20), .val (.ref b22), .val (.int (0 : Int32))] [(.ref b22), (.ref b20)])) rfl (by rw [hml]; rfl) (Steps.refl _) (argsL := [(.ref b22)]) (rest := []) (lenOf own_pd68 rfl) rfl (by show 2 * 0 + _ ≤ _; exact Nat.le_of_eq rfl) (hb hby at_135) (fun _ _ => ⟨rfl, rfl, (by decide : 2 + 0 ≤ _), (by decide : 4 + 0 ≤ _)⟩)
            dsimp only [Pt.U, Pt.locs, Pt.cells, Pt.slots] at X25 l25 y25 z25 st25 hQ25
            subst l25 y25 z25
            obtain ⟨rfl, N25q, EQ9⟩ := hQ25
            have N25 := Fr.app N23 N25q
            refine Goes.tr st25 ?_
            show Goes p e below s _ _ _ (T25.setTop (mkF m 138 #[.val (.long o1), .second, .val (.long t1), .second, .val (.long o2), .second, .val (.long t2), .second, .val (.int fl), .val (.long oo), .second, .val (.long tt), .second, .val (.int (((fl.toUInt32 >>> ((2 : Int32) &&& 31).toUInt32).toInt32) &&& (3 : Int32))), .val (.ref b20), .val (.ref b22), .val (.int (0 : Int32))] [(.int (own_bI false))]))
            refine Goes.st (fun t k => XS.iload X25.here hx rfl (hb hby at_138) rfl  k) ?_
            show Goes p e below s _ _ _ (T25.setTop (mkF m 140 #[.val (.long o1), .second, .val (.long t1), .second, .val (.long o2), .second, .val (.long t2), .second, .val (.int fl), .val (.long oo), .second, .val (.long tt), .second, .val (.int (((fl.toUInt32 >>> ((2 : Int32) &&& 31).toUInt32).toInt32) &&& (3 : Int32))), .val (.ref b20), .val (.ref b22), .val (.int (0 : Int32))] [(.int (0 : Int32)), (.int (own_bI false))]))
            refine Goes.st (fun t k => XS.icmpNo X25.here hx rfl (hb hby at_140) rfl (teq (rfl : own_bI false = 0)).2 k) ?_
            show Goes p e below s _ _ _ (T25.setTop (mkF m 143 #[.val (.long o1), .second, .val (.long t1), .second, .val (.long o2), .second, .val (.long t2), .second, .val (.int fl), .val (.long oo), .second, .val (.long tt), .second, .val (.int (((fl.toUInt32 >>> ((2 : Int32) &&& 31).toUInt32).toInt32) &&& (3 : Int32))), .val (.ref b20), .val (.ref b22), .val (.int (0 : Int32))] []))
            refine Goes.st (fun t k => XS.iconst X25.here hx rfl (hb hby at_143) k) ?_
            show Goes p e below s _ _ _ (T25.setTop (mkF m 144 #[.val (.long o1), .second, .val (.long t1), .second, .val (.long o2), .second, .val (.long t2), .second, .val (.int fl), .val (.long oo), .second, .val (.long tt), .second, .val (.int (((fl.toUInt32 >>> ((2 : Int32) &&& 31).toUInt32).toInt32) &&& (3 : Int32))), .val (.ref b20), .val (.ref b22), .val (.int (0 : Int32))] [(.int (1 : Int32))]))
            refine Goes.st (fun t k => XS.goto X25.here hx rfl (pc0 := 144) (pc' := 148) rfl (hb hby at_144) (by decide) (by decide) k) ?_
            show Goes p e below s _ _ _ (T25.setTop (mkF m 148 #[.val (.long o1), .second, .val (.long t1), .second, .val (.long o2), .second, .val (.long t2), .second, .val (.int fl), .val (.long oo), .second, .val (.long tt), .second, .val (.int (((fl.toUInt32 >>> ((2 : Int32) &&& 31).toUInt32).toInt32) &&& (3 : Int32))), .val (.ref b20), .val (.ref b22), .val (.int (0 : Int32))] [(.int (1 : Int32))]))
            exact Goes.retN X25 hx (t := .boolean) hret hlk (by simp) (hb hby at_148) (by decide) (by decide) (⟨rfl, N25⟩)
        · refine Goes.st (fun t k => XS.ifYes X23.here hx rfl (pc0 := 71) (pc' := 85) rfl (hb hby at_71) rfl ((if0 _ _).trans (feq (mt (lw_eq _ _).mp he1)).2) (by decide) (by decide) k) ?_
          show Goes p e below s _ _ _ (T23.setTop (mkF m 85 #[.val (.long o1), .second, .val (.long t1), .second, .val (.long o2), .second, .val (.long t2), .second, .val (.int fl), .val (.long oo), .second, .val (.long tt), .second, .val (.int (((fl.toUInt32 >>> ((2 : Int32) &&& 31).toUInt32).toInt32) &&& (3 : Int32))), .val (.ref b20), .val (.ref b22), .unset] []))
          refine Goes.st (fun t k => XS.iconst X23.here hx rfl (hb hby at_85) k) ?_
          show Goes p e below s _ _ _ (T23.setTop (mkF m 86 #[.val (.long o1), .second, .val (.long t1), .second, .val (.long o2), .second, .val (.long t2), .second, .val (.int fl), .val (.long oo), .second, .val (.long tt), .second, .val (.int (((fl.toUInt32 >>> ((2 : Int32) &&& 31).toUInt32).toInt32) &&& (3 : Int32))), .val (.ref b20), .val (.ref b22), .unset] [(.int (0 : Int32))]))
          refine Goes.st (fun t k => XS.istore X23.here hx rfl (hb hby at_86) rfl  (l' := #[.val (.long o1), .second, .val (.long t1), .second, .val (.long o2), .second, .val (.long t2), .second, .val (.int fl), .val (.long oo), .second, .val (.long tt), .second, .val (.int (((fl.toUInt32 >>> ((2 : Int32) &&& 31).toUInt32).toInt32) &&& (3 : Int32))), .val (.ref b20), .val (.ref b22), .val (.int (0 : Int32))]) rfl k) ?_
          show Goes p e below s _ _ _ (T23.setTop (mkF m 88 #[.val (.long o1), .second, .val (.long t1), .second, .val (.long o2), .second, .val (.long t2), .second, .val (.int fl), .val (.long oo), .second, .val (.long tt), .second, .val (.int (((fl.toUInt32 >>> ((2 : Int32) &&& 31).toUInt32).toInt32) &&& (3 : Int32))), .val (.ref b20), .val (.ref b22), .val (.int (0 : Int32))] []))
          refine Goes.st (fun t k => XS.goto X23.here hx rfl (pc0 := 88) (pc' := 131) rfl (hb hby at_88) (by decide) (by decide) k) ?_
          show Goes p e below s _ _ _ (T23.setTop (mkF m 131 #[.val (.long o1), .second, .val (.long t1), .second, .val (.long o2), .second, .val (.long t2), .second, .val (.int fl), .val (.long oo), .second, .val (.long tt), .second, .val (.int (((fl.toUInt32 >>> ((2 : Int32) &&& 31).toUInt32).toInt32) &&& (3 : Int32))), .val (.ref b20), .val (.ref b22), .val (.int (0 : Int32))] []))
          refine Goes.st (fun t k => XS.aload X23.here hx rfl (hb hby at_131) rfl rfl k) ?_
          show Goes p e below s _ _ _ (T23.setTop (mkF m 133 #[.val (.long o1), .second, .val (.long t1), .second, .val (.long o2), .second, .val (.long t2), .second, .val (.int fl), .val (.long oo), .second, .val (.long tt), .second, .val (.int (((fl.toUInt32 >>> ((2 : Int32) &&& 31).toUInt32).toInt32) &&& (3 : Int32))), .val (.ref b20), .val (.ref b22), .val (.int (0 : Int32))] [(.ref b20)]))
          refine Goes.st (fun t k => XS.aload X23.here hx rfl (hb hby at_133) rfl rfl k) ?_
          show Goes p e below s _ _ _ (T23.setTop (mkF m 135 #[.val (.long o1), .second, .val (.long t1), .second, .val (.long o2), .second, .val (.long t2), .second, .val (.int fl), .val (.long oo), .second, .val (.long tt), .second, .val (.int (((fl.toUInt32 >>> ((2 : Int32) &&& 31).toUInt32).toInt32) &&& (3 : Int32))), .val (.ref b20), .val (.ref b22), .val (.int (0 : Int32))] [(.ref b22), (.ref b20)]))
          obtain ⟨cq26, kq26, q26a, q26b, q26c⟩ := isOf hZ rfl Ex_b20
          obtain ⟨_, _, ⟨T26, L26, k26, n26⟩, -, X26, ⟨Lc26, hQ26, l26, y26, z26⟩, st26⟩ := X23.virtualBack hx (y := (⟨"com/example/nestor/nestor/protocol/TimestampedOffset", "equals", "(Ljava/lang/Object;)Z"⟩ : MethodName)) (z := (⟨"com/example/nestor/nestor/protocol/TimestampedOffset", "equals", "(Ljava/lang/Object;)Z"⟩ : MethodName)) hown (mvT hZ (hw _ (List.mem_of_getElem? (i := 13) rfl))) (mvT hZ (hw _ (List.mem_of_getElem? (i := 14) rfl))) (notFace_of_selects (args := #[]) (mvT hZ (hw _ (List.mem_of_getElem? (i := 16) rfl)))) (mvT hZ (hw _ (List.mem_of_getElem? (i := 16) rfl))) (mvT hZ (hw _ (List.mem_of_getElem? (i := 15) rfl))) (by decide) (backOf (W := 0) (own_rmE1 l Z a0 hw [] b20 b22 o1 t1 oo tt false T23.heap n0 Z0'''' Ex_b22 F_offset_b20 F_timestamp_b20 F_offset_b22 F_timestamp_b22 (by simp [he1])) hZ (hw _ (List.mem_of_getElem? (i := 17) rfl)) (hw _ (List.mem_of_getElem? (i := 2) rfl)) (by decide) (by decide)) q26a q26c (g := (mkF m 135 #[.val (.long o1), .second, .val (.long t1), .second, .val (.long o2), .second, .val (.long t2), .second, .val (.int fl), .val (.long oo), .second, .val (.long tt), .second, .val (.int (((fl.toUInt32 >>> ((2 : Int32) &&& 31).toUInt32).toInt32) &&& (3 : Int32))), .val (.ref b20), .val (.ref b22), .val (.int (0 : Int32))] [(.ref b22), (.ref b20)])) rfl (by rw [hml]; rfl) (Steps.refl _) (argsL := [(.ref b22)]) (rest := []) (lenOf own_pd68 rfl) rfl (by show 2 * 0 + _ ≤ _; exact Nat.le_of_eq rfl) (hb hby at_135) (fun _ _ => ⟨rfl, rfl, (by decide : 2 + 0 ≤ _), (by decide : 4 + 0 ≤ _)⟩)
          dsimp only [Pt.U, Pt.locs, Pt.cells, Pt.slots] at X26 l26 y26 z26 st26 hQ26
          subst l26 y26 z26
          obtain ⟨rfl, N26q, EQ9⟩ := hQ26
          have N26 := Fr.app N23 N26q
          refine Goes.tr st26 ?_
          show Goes p e below s _ _ _ (T26.setTop (mkF m 138 #[.val (.long o1), .second, .val (.long t1), .second, .val (.long o2), .second, .val (.long t2), .second, .val (.int fl), .val (.long oo), .second, .val (.long tt), .second, .val (.int (((fl.toUInt32 >>> ((2 : Int32) &&& 31).toUInt32).toInt32) &&& (3 : Int32))), .val (.ref b20), .val (.ref b22), .val (.int (0 : Int32))] [(.int (own_bI false))]))
          refine Goes.st (fun t k => XS.iload X26.here hx rfl (hb hby at_138) rfl  k) ?_
          show Goes p e below s _ _ _ (T26.setTop (mkF m 140 #[.val (.long o1), .second, .val (.long t1), .second, .val (.long o2), .second, .val (.long t2), .second, .val (.int fl), .val (.long oo), .second, .val (.long tt), .second, .val (.int (((fl.toUInt32 >>> ((2 : Int32) &&& 31).toUInt32).toInt32) &&& (3 : Int32))), .val (.ref b20), .val (.ref b22), .val (.int (0 : Int32))] [(.int (0 : Int32)), (.int (own_bI false))]))
          refine Goes.st (fun t k => XS.icmpNo X26.here hx rfl (hb hby at_140) rfl (teq (rfl : own_bI false = 0)).2 k) ?_
          show Goes p e below s _ _ _ (T26.setTop (mkF m 143 #[.val (.long o1), .second, .val (.long t1), .second, .val (.long o2), .second, .val (.long t2), .second, .val (.int fl), .val (.long oo), .second, .val (.long tt), .second, .val (.int (((fl.toUInt32 >>> ((2 : Int32) &&& 31).toUInt32).toInt32) &&& (3 : Int32))), .val (.ref b20), .val (.ref b22), .val (.int (0 : Int32))] []))
          refine Goes.st (fun t k => XS.iconst X26.here hx rfl (hb hby at_143) k) ?_
          show Goes p e below s _ _ _ (T26.setTop (mkF m 144 #[.val (.long o1), .second, .val (.long t1), .second, .val (.long o2), .second, .val (.long t2), .second, .val (.int fl), .val (.long oo), .second, .val (.long tt), .second, .val (.int (((fl.toUInt32 >>> ((2 : Int32) &&& 31).toUInt32).toInt32) &&& (3 : Int32))), .val (.ref b20), .val (.ref b22), .val (.int (0 : Int32))] [(.int (1 : Int32))]))
          refine Goes.st (fun t k => XS.goto X26.here hx rfl (pc0 := 144) (pc' := 148) rfl (hb hby at_144) (by decide) (by decide) k) ?_
          show Goes p e below s _ _ _ (T26.setTop (mkF m 148 #[.val (.long o1), .second, .val (.long t1), .second, .val (.long o2), .second, .val (.long t2), .second, .val (.int fl), .val (.long oo), .second, .val (.long tt), .second, .val (.int (((fl.toUInt32 >>> ((2 : Int32) &&& 31).toUInt32).toInt32) &&& (3 : Int32))), .val (.ref b20), .val (.ref b22), .val (.int (0 : Int32))] [(.int (1 : Int32))]))
          exact Goes.retN X26 hx (t := .boolean) hret hlk (by simp) (hb hby at_148) (by decide) (by decide) (⟨rfl, N26⟩)
      · refine Goes.st (fun t k => XS.ifYes X21.here hx rfl (pc0 := 51) (pc' := 91) rfl (hb hby at_51) rfl ((if0 _ _).trans (feq hk0).2) (by decide) (by decide) k) ?_
        show Goes p e below s _ _ _ (T21.setTop (mkF m 91 #[.val (.long o1), .second, .val (.long t1), .second, .val (.long o2), .second, .val (.long t2), .second, .val (.int fl), .val (.long oo), .second, .val (.long tt), .second, .val (.int (((fl.toUInt32 >>> ((2 : Int32) &&& 31).toUInt32).toInt32) &&& (3 : Int32))), .val (.ref b20), .unset, .unset] []))
        refine Goes.st (fun t k => XS.iload X21.here hx rfl (hb hby at_91) rfl  k) ?_
        show Goes p e below s _ _ _ (T21.setTop (mkF m 93 #[.val (.long o1), .second, .val (.long t1), .second, .val (.long o2), .second, .val (.long t2), .second, .val (.int fl), .val (.long oo), .second, .val (.long tt), .second, .val (.int (((fl.toUInt32 >>> ((2 : Int32) &&& 31).toUInt32).toInt32) &&& (3 : Int32))), .val (.ref b20), .unset, .unset] [(.int (((fl.toUInt32 >>> ((2 : Int32) &&& 31).toUInt32).toInt32) &&& (3 : Int32)))]))
        refine Goes.st (fun t k => XS.iconst X21.here hx rfl (hb hby at_93) k) ?_
        show Goes p e below s _ _ _ (T21.setTop (mkF m 94 #[.val (.long o1), .second, .val (.long t1), .second, .val (.long o2), .second, .val (.long t2), .second, .val (.int fl), .val (.long oo), .second, .val (.long tt), .second, .val (.int (((fl.toUInt32 >>> ((2 : Int32) &&& 31).toUInt32).toInt32) &&& (3 : Int32))), .val (.ref b20), .unset, .unset] [(.int (1 : Int32)), (.int (((fl.toUInt32 >>> ((2 : Int32) &&& 31).toUInt32).toInt32) &&& (3 : Int32)))]))
        by_cases hk1 : (((fl.toUInt32 >>> ((2 : Int32) &&& 31).toUInt32).toInt32) &&& (3 : Int32)) = (1 : Int32)
        · refine Goes.st (fun t k => XS.icmpNo X21.here hx rfl (hb hby at_94) rfl (teq hk1).2 k) ?_
          show Goes p e below s _ _ _ (T21.setTop (mkF m 97 #[.val (.long o1), .second, .val (.long t1), .second, .val (.long o2), .second, .val (.long t2), .second, .val (.int fl), .val (.long oo), .second, .val (.long tt), .second, .val (.int (((fl.toUInt32 >>> ((2 : Int32) &&& 31).toUInt32).toInt32) &&& (3 : Int32))), .val (.ref b20), .unset, .unset] []))
          refine Goes.st (fun t k => XS.aconstNull X21.here hx rfl (hb hby at_97) k) ?_
          show Goes p e below s _ _ _ (T21.setTop (mkF m 98 #[.val (.long o1), .second, .val (.long t1), .second, .val (.long o2), .second, .val (.long t2), .second, .val (.int fl), .val (.long oo), .second, .val (.long tt), .second, .val (.int (((fl.toUInt32 >>> ((2 : Int32) &&& 31).toUInt32).toInt32) &&& (3 : Int32))), .val (.ref b20), .unset, .unset] [.null]))
          refine Goes.st (fun t k => XS.astore X21.here hx rfl (hb hby at_98) rfl rfl (l' := #[.val (.long o1), .second, .val (.long t1), .second, .val (.long o2), .second, .val (.long t2), .second, .val (.int fl), .val (.long oo), .second, .val (.long tt), .second, .val (.int (((fl.toUInt32 >>> ((2 : Int32) &&& 31).toUInt32).toInt32) &&& (3 : Int32))), .val (.ref b20), .val .null, .unset]) rfl k) ?_
          show Goes p e below s _ _ _ (T21.setTop (mkF m 100 #[.val (.long o1), .second, .val (.long t1), .second, .val (.long o2), .second, .val (.long t2), .second, .val (.int fl), .val (.long oo), .second, .val (.long tt), .second, .val (.int (((fl.toUInt32 >>> ((2 : Int32) &&& 31).toUInt32).toInt32) &&& (3 : Int32))), .val (.ref b20), .val .null, .unset] []))
          refine Goes.st (fun t k => XS.iconst X21.here hx rfl (hb hby at_100) k) ?_
          show Goes p e below s _ _ _ (T21.setTop (mkF m 101 #[.val (.long o1), .second, .val (.long t1), .second, .val (.long o2), .second, .val (.long t2), .second, .val (.int fl), .val (.long oo), .second, .val (.long tt), .second, .val (.int (((fl.toUInt32 >>> ((2 : Int32) &&& 31).toUInt32).toInt32) &&& (3 : Int32))), .val (.ref b20), .val .null, .unset] [(.int (0 : Int32))]))
          refine Goes.st (fun t k => XS.istore X21.here hx rfl (hb hby at_101) rfl  (l' := #[.val (.long o1), .second, .val (.long t1), .second, .val (.long o2), .second, .val (.long t2), .second, .val (.int fl), .val (.long oo), .second, .val (.long tt), .second, .val (.int (((fl.toUInt32 >>> ((2 : Int32) &&& 31).toUInt32).toInt32) &&& (3 : Int32))), .val (.ref b20), .val .null, .val (.int (0 : Int32))]) rfl k) ?_
          show Goes p e below s _ _ _ (T21.setTop (mkF m 103 #[.val (.long o1), .second, .val (.long t1), .second, .val (.long o2), .second, .val (.long t2), .second, .val (.int fl), .val (.long oo), .second, .val (.long tt), .second, .val (.int (((fl.toUInt32 >>> ((2 : Int32) &&& 31).toUInt32).toInt32) &&& (3 : Int32))), .val (.ref b20), .val .null, .val (.int (0 : Int32))] []))
          refine Goes.st (fun t k => XS.goto X21.here hx rfl (pc0 := 103) (pc' := 131) rfl (hb hby at_103) (by decide) (by decide) k) ?_
          show Goes p e below s _ _ _ (T21.setTop (mkF m 131 #[.val (.long o1), .second, .val (.long t1), .second, .val (.long o2), .second, .val (.long t2), .second, .val (.int fl), .val (.long oo), .second, .val (.long tt), .second, .val (.int (((fl.toUInt32 >>> ((2 : Int32) &&& 31).toUInt32).toInt32) &&& (3 : Int32))), .val (.ref b20), .val .null, .val (.int (0 : Int32))] []))
          refine Goes.st (fun t k => XS.aload X21.here hx rfl (hb hby at_131) rfl rfl k) ?_
          show Goes p e below s _ _ _ (T21.setTop (mkF m 133 #[.val (.long o1), .second, .val (.long t1), .second, .val (.long o2), .second, .val (.long t2), .second, .val (.int fl), .val (.long oo), .second, .val (.long tt), .second, .val (.int (((fl.toUInt32 >>> ((2 : Int32) &&& 31).toUInt32).toInt32) &&& (3 : Int32))), .val (.ref b20), .val .null, .val (.int (0 : Int32))] [(.ref b20)]))
          refine Goes.st (fun t k => XS.aload X21.here hx rfl (hb hby at_133) rfl rfl k) ?_
          show Goes p e below s _ _ _ (T21.setTop (mkF m 135 #[.val (.long o1), .second, .val (.long t1), .second, .val (.long o2), .second, .val (.long t2), .second, .val (.int fl), .val (.long oo), .second, .val (.long tt), .second, .val (.int (((fl.toUInt32 >>> ((2 : Int32) &&& 31).toUInt32).toInt32) &&& (3 : Int32))), .val (.ref b20), .val .null, .val (.int (0 : Int32))] [.null, (.ref b20)]))
          obtain ⟨cq27, kq27, q27a, q27b, q27c⟩ := isOf hZ rfl Ex_b20
          obtain ⟨_, _, ⟨T27, L27, k27, n27⟩, -, X27, ⟨Lc27, hQ27, l27, y27, z27⟩, st27⟩ := X21.virtualBack hx (y := (⟨"com/example/nestor/nestor/protocol/TimestampedOffset", "equals", "(Ljava/lang/Object;)Z"⟩ : MethodName)) (z := (⟨"com/example/nestor/nestor/protocol/TimestampedOffset", "equals", "(Ljava/lang/Object;)Z"⟩ : MethodName)) hown (mvT hZ (hw _ (List.mem_of_getElem? (i := 13) rfl))) (mvT hZ (hw _ (List.mem_of_getElem? (i := 14) rfl))) (notFace_of_selects (args := #[]) (mvT hZ (hw _ (List.mem_of_getElem? (i := 16) rfl)))) (mvT hZ (hw _ (List.mem_of_getElem? (i := 16) rfl))) (mvT hZ (hw _ (List.mem_of_getElem? (i := 15) rfl))) (by decide) (backOf (W := 0) (own_rmE2 l Z a0 hw [] b20 T21.heap n0 Z0'' ) hZ (hw _ (List.mem_of_getElem? (i := 17) rfl)) (hw _ (List.mem_of_getElem? (i := 2) rfl)) (by decide) (by decide)) q27a q27c (g := (mkF m 135 #[.val (.long o1), .second, .val (.long t1), .second, .val (.long o2), .second, .val (.long t2), .second, .val (.int fl), .val (.long oo), .second, .val (.long tt), .second, .val (.int (((fl.toUInt32 >>> ((2 : Int32) &&& 31).toUInt32).toInt32) &&& (3 : Int32))), .val (.ref b20), .val .null, .val (.int (0 : Int32))] [.null, (.ref b20)])) rfl (by rw [hml]; rfl) (Steps.refl _) (argsL := [.null]) (rest := []) (lenOf own_pd68 rfl) rfl (by show 2 * 0 + _ ≤ _; exact Nat.le_of_eq rfl) (hb hby at_135) (fun _ _ => ⟨rfl, rfl, (by decide : 1 + 0 ≤ _), (by decide : 2 + 0 ≤ _)⟩)
          dsimp only [Pt.U, Pt.locs, Pt.cells, Pt.slots] at X27 l27 y27 z27 st27 hQ27
          subst l27 y27 z27
          obtain ⟨rfl, N27q, EQ9⟩ := hQ27
          have N27 := Fr.app N21 N27q
          refine Goes.tr st27 ?_
          show Goes p e below s _ _ _ (T27.setTop (mkF m 138 #[.val (.long o1), .second, .val (.long t1), .second, .val (.long o2), .second, .val (.long t2), .second, .val (.int fl), .val (.long oo), .second, .val (.long tt), .second, .val (.int (((fl.toUInt32 >>> ((2 : Int32) &&& 31).toUInt32).toInt32) &&& (3 : Int32))), .val (.ref b20), .val .null, .val (.int (0 : Int32))] [(.int (own_bI false))]))
          refine Goes.st (fun t k => XS.iload X27.here hx rfl (hb hby at_138) rfl  k) ?_
          show Goes p e below s _ _ _ (T27.setTop (mkF m 140 #[.val (.long o1), .second, .val (.long t1), .second, .val (.long o2), .second, .val (.long t2), .second, .val (.int fl), .val (.long oo), .second, .val (.long tt), .second, .val (.int (((fl.toUInt32 >>> ((2 : Int32) &&& 31).toUInt32).toInt32) &&& (3 : Int32))), .val (.ref b20), .val .null, .val (.int (0 : Int32))] [(.int (0 : Int32)), (.int (own_bI false))]))
          refine Goes.st (fun t k => XS.icmpNo X27.here hx rfl (hb hby at_140) rfl (teq (rfl : own_bI false = 0)).2 k) ?_
          show Goes p e below s _ _ _ (T27.setTop (mkF m 143 #[.val (.long o1), .second, .val (.long t1), .second, .val (.long o2), .second, .val (.long t2), .second, .val (.int fl), .val (.long oo), .second, .val (.long tt), .second, .val (.int (((fl.toUInt32 >>> ((2 : Int32) &&& 31).toUInt32).toInt32) &&& (3 : Int32))), .val (.ref b20), .val .null, .val (.int (0 : Int32))] []))
          refine Goes.st (fun t k => XS.iconst X27.here hx rfl (hb hby at_143) k) ?_
          show Goes p e below s _ _ _ (T27.setTop (mkF m 144 #[.val (.long o1), .second, .val (.long t1), .second, .val (.long o2), .second, .val (.long t2), .second, .val (.int fl), .val (.long oo), .second, .val (.long tt), .second, .val (.int (((fl.toUInt32 >>> ((2 : Int32) &&& 31).toUInt32).toInt32) &&& (3 : Int32))), .val (.ref b20), .val .null, .val (.int (0 : Int32))] [(.int (1 : Int32))]))
          refine Goes.st (fun t k => XS.goto X27.here hx rfl (pc0 := 144) (pc' := 148) rfl (hb hby at_144) (by decide) (by decide) k) ?_
          show Goes p e below s _ _ _ (T27.setTop (mkF m 148 #[.val (.long o1), .second, .val (.long t1), .second, .val (.long o2), .second, .val (.long t2), .second, .val (.int fl), .val (.long oo), .second, .val (.long tt), .second, .val (.int (((fl.toUInt32 >>> ((2 : Int32) &&& 31).toUInt32).toInt32) &&& (3 : Int32))), .val (.ref b20), .val .null, .val (.int (0 : Int32))] [(.int (1 : Int32))]))
          exact Goes.retN X27 hx (t := .boolean) hret hlk (by simp) (hb hby at_148) (by decide) (by decide) (⟨rfl, N27⟩)
        · refine Goes.st (fun t k => XS.icmpYes X21.here hx rfl (pc0 := 94) (pc' := 106) rfl (hb hby at_94) rfl (feq hk1).2 (by decide) (by decide) k) ?_
          show Goes p e below s _ _ _ (T21.setTop (mkF m 106 #[.val (.long o1), .second, .val (.long t1), .second, .val (.long o2), .second, .val (.long t2), .second, .val (.int fl), .val (.long oo), .second, .val (.long tt), .second, .val (.int (((fl.toUInt32 >>> ((2 : Int32) &&& 31).toUInt32).toInt32) &&& (3 : Int32))), .val (.ref b20), .unset, .unset] []))
          refine Goes.st (fun t k => XS.iload X21.here hx rfl (hb hby at_106) rfl  k) ?_
          show Goes p e below s _ _ _ (T21.setTop (mkF m 108 #[.val (.long o1), .second, .val (.long t1), .second, .val (.long o2), .second, .val (.long t2), .second, .val (.int fl), .val (.long oo), .second, .val (.long tt), .second, .val (.int (((fl.toUInt32 >>> ((2 : Int32) &&& 31).toUInt32).toInt32) &&& (3 : Int32))), .val (.ref b20), .unset, .unset] [(.int (((fl.toUInt32 >>> ((2 : Int32) &&& 31).toUInt32).toInt32) &&& (3 : Int32)))]))
          refine Goes.st (fun t k => XS.iconst X21.here hx rfl (hb hby at_108) k) ?_
          show Goes p e below s _ _ _ (T21.setTop (mkF m 109 #[.val (.long o1), .second, .val (.long t1), .second, .val (.long o2), .second, .val (.long t2), .second, .val (.int fl), .val (.long oo), .second, .val (.long tt), .second, .val (.int (((fl.toUInt32 >>> ((2 : Int32) &&& 31).toUInt32).toInt32) &&& (3 : Int32))), .val (.ref b20), .unset, .unset] [(.int (2 : Int32)), (.int (((fl.toUInt32 >>> ((2 : Int32) &&& 31).toUInt32).toInt32) &&& (3 : Int32)))]))
          by_cases hk2 : (((fl.toUInt32 >>> ((2 : Int32) &&& 31).toUInt32).toInt32) &&& (3 : Int32)) = (2 : Int32)
          · refine Goes.st (fun t k => XS.icmpNo X21.here hx rfl (hb hby at_109) rfl (teq hk2).2 k) ?_
            show Goes p e below s _ _ _ (T21.setTop (mkF m 112 #[.val (.long o1), .second, .val (.long t1), .second, .val (.long o2), .second, .val (.long t2), .second, .val (.int fl), .val (.long oo), .second, .val (.long tt), .second, .val (.int (((fl.toUInt32 >>> ((2 : Int32) &&& 31).toUInt32).toInt32) &&& (3 : Int32))), .val (.ref b20), .unset, .unset] []))
            refine Goes.st (fun t k => XS.lloadN X21.here hx rfl (hb hby at_112) rfl  k) ?_
            show Goes p e below s _ _ _ (T21.setTop (mkF m 113 #[.val (.long o1), .second, .val (.long t1), .second, .val (.long o2), .second, .val (.long t2), .second, .val (.int fl), .val (.long oo), .second, .val (.long tt), .second, .val (.int (((fl.toUInt32 >>> ((2 : Int32) &&& 31).toUInt32).toInt32) &&& (3 : Int32))), .val (.ref b20), .unset, .unset] [(.long o1)]))
            obtain ⟨_, _, ⟨T28, L28, k28, n28⟩, -, X28, ⟨Lc28, hQ28, l28, y28, z28⟩, st28⟩ := Jvm.LawKit.callS X21 hx (y := (⟨"java/lang/Long", "valueOf", "(J)Ljava/lang/Long;"⟩ : MethodName)) hown (mvT hZ (hw _ (List.mem_of_getElem? (i := 20) rfl))) (mvT hZ (hw _ (List.mem_of_getElem? (i := 21) rfl))) (mvT hZ (hw _ (List.mem_of_getElem? (i := 22) rfl))) (mvT hZ (hw _ (List.mem_of_getElem? (i := 23) rfl))) (by decide) (backOf (W := 0) (own_rmV l Z a0 hw [] o1 ca cl T21.heap n0 Z0'' (S_c.ext O0.2) (Ac.ext O0.2) (fun w q1 q2 => by obtain ⟨b, x1, x2, x3⟩ := HC w q1 q2; exact ⟨b, x1, x2, x3.ext O0.2⟩)) hZ (hw _ (List.mem_of_getElem? (i := 23) rfl)) (hw _ (List.mem_of_getElem? (i := 22) rfl)) (by decide) (by decide)) (g := (mkF m 113 #[.val (.long o1), .second, .val (.long t1), .second, .val (.long o2), .second, .val (.long t2), .second, .val (.int fl), .val (.long oo), .second, .val (.long tt), .second, .val (.int (((fl.toUInt32 >>> ((2 : Int32) &&& 31).toUInt32).toInt32) &&& (3 : Int32))), .val (.ref b20), .unset, .unset] [(.long o1)])) rfl (by rw [hml]; rfl) (argsL := [(.long o1)]) (rest := []) (lenOf own_pd69 rfl) rfl (by show 2 * 0 + _ ≤ _; exact Nat.le_of_eq rfl) (hb hby at_113) (fun _ _ => ⟨rfl, rfl, (by decide : 1 + 1 ≤ _), (by decide : 2 + 1 ≤ _)⟩)
            dsimp only [Pt.U, Pt.locs, Pt.cells, Pt.slots] at X28 l28 y28 z28 st28 hQ28
            subst l28 y28 z28
            obtain ⟨lx, rfl, N28q, KV, Elx⟩ := hQ28
            have N28 := Fr.app N21 N28q
            refine Goes.st st28 ?_
            have Ex_b20 := Ex_b20.keep KV
            have F_offset_b20 := F_offset_b20.keep KV nin0
            have F_timestamp_b20 := F_timestamp_b20.keep KV nin0
            have Z0''' := Nat.le_trans Z0'' KV.1
            have O0 := O0.keep KV all0
            show Goes p e below s _ _ _ (T28.setTop (mkF m 116 #[.val (.long o1), .second, .val (.long t1), .second, .val (.long o2), .second, .val (.long t2), .second, .val (.int fl), .val (.long oo), .second, .val (.long tt), .second, .val (.int (((fl.toUInt32 >>> ((2 : Int32) &&& 31).toUInt32).toInt32) &&& (3 : Int32))), .val (.ref b20), .unset, .unset] [(.ref lx)]))
            refine Goes.st (fun t k => XS.astore X28.here hx rfl (hb hby at_116) rfl rfl (l' := #[.val (.long o1), .second, .val (.long t1), .second, .val (.long o2), .second, .val (.long t2), .second, .val (.int fl), .val (.long oo), .second, .val (.long tt), .second, .val (.int (((fl.toUInt32 >>> ((2 : Int32) &&& 31).toUInt32).toInt32) &&& (3 : Int32))), .val (.ref b20), .val (.ref lx), .unset]) rfl k) ?_
            show Goes p e below s _ _ _ (T28.setTop (mkF m 118 #[.val (.long o1), .second, .val (.long t1), .second, .val (.long o2), .second, .val (.long t2), .second, .val (.int fl), .val (.long oo), .second, .val (.long tt), .second, .val (.int (((fl.toUInt32 >>> ((2 : Int32) &&& 31).toUInt32).toInt32) &&& (3 : Int32))), .val (.ref b20), .val (.ref lx), .unset] []))
            refine Goes.st (fun t k => XS.iconst X28.here hx rfl (hb hby at_118) k) ?_
            show Goes p e below s _ _ _ (T28.setTop (mkF m 119 #[.val (.long o1), .second, .val (.long t1), .second, .val (.long o2), .second, .val (.long t2), .second, .val (.int fl), .val (.long oo), .second, .val (.long tt), .second, .val (.int (((fl.toUInt32 >>> ((2 : Int32) &&& 31).toUInt32).toInt32) &&& (3 : Int32))), .val (.ref b20), .val (.ref lx), .unset] [(.int (0 : Int32))]))
            refine Goes.st (fun t k => XS.istore X28.here hx rfl (hb hby at_119) rfl  (l' := #[.val (.long o1), .second, .val (.long t1), .second, .val (.long o2), .second, .val (.long t2), .second, .val (.int fl), .val (.long oo), .second, .val (.long tt), .second, .val (.int (((fl.toUInt32 >>> ((2 : Int32) &&& 31).toUInt32).toInt32) &&& (3 : Int32))), .val (.ref b20), .val (.ref lx), .val (.int (0 : Int32))]) rfl k) ?_
            show Goes p e below s _ _ _ (T28.setTop (mkF m 121 #[.val (.long o1), .second, .val (.long t1), .second, .val (.long o2), .second, .val (.long t2), .second, .val (.int fl), .val (.long oo), .second, .val (.long tt), .second, .val (.int (((fl.toUInt32 >>> ((2 : Int32) &&& 31).toUInt32).toInt32) &&& (3 : Int32))), .val (.ref b20), .val (.ref lx), .val (.int (0 : Int32))] []))
            refine Goes.st (fun t k => XS.goto X28.here hx rfl (pc0 := 121) (pc' := 131) rfl (hb hby at_121) (by decide) (by decide) k) ?_
            show Goes p e below s _ _ _ (T28.setTop (mkF m 131 #[.val (.long o1), .second, .val (.long t1), .second, .val (.long o2), .second, .val (.long t2), .second, .val (.int fl), .val (.long oo), .second, .val (.long tt), .second, .val (.int (((fl.toUInt32 >>> ((2 : Int32) &&& 31).toUInt32).toInt32) &&& (3 : Int32))), .val (.ref b20), .val (.ref lx), .val (.int (0 : Int32))] []))
            refine Goes.st (fun t k => XS.aload X28.here hx rfl (hb hby at_131) rfl rfl k) ?_
            show Goes p e below s _ _ _ (T28.setTop (mkF m 133 #[.val (.long o1), .second, .val (.long t1), .second, .val (.long o2), .second, .val (.long t2), .second, .val (.int fl), .val (.long oo), .second, .val (.long tt), .second, .val (.int (((fl.toUInt32 >>> ((2 : Int32) &&& 31).toUInt32).toInt32) &&& (3 : Int32))), .val (.ref b20), .val (.ref lx), .val (.int (0 : Int32))] [(.ref b20)]))
            refine Goes.st (fun t k => XS.aload X28.here hx rfl (hb hby at_133) rfl rfl k) ?_
            show Goes p e below s _ _ _ (T28.setTop (mkF m 135 #[.val (.long o1), .second, .val (.long t1), .second, .val (.long o2), .second, .val (.long t2), .second, .val (.int fl), .val (.long oo), .second, .val (.long tt), .second, .val (.int (((fl.toUInt32 >>> ((2 : Int32) &&& 31).toUInt32).toInt32) &&& (3 : Int32))), .val (.ref b20), .val (.ref lx), .val (.int (0 : Int32))] [(.ref lx), (.ref b20)]))
            obtain ⟨cq29, kq29, q29a, q29b, q29c⟩ := isOf hZ rfl Ex_b20
            obtain ⟨_, _, ⟨T29, L29, k29, n29⟩, -, X29, ⟨Lc29, hQ29, l29, y29, z29⟩, st29⟩ := X28.virtualBack hx (y := (⟨"com/example/nestor/nestor/protocol/TimestampedOffset", "equals", "(Ljava/lang/Object;)Z"⟩ : MethodName)) (z := (⟨"com/example/nestor/nestor/protocol/TimestampedOffset", "equals", "(Ljava/lang/Object;)Z"⟩ : MethodName)) hown (mvT hZ (hw _ (List.mem_of_getElem? (i := 13) rfl))) (mvT hZ (hw _ (List.mem_of_getElem? (i := 14) rfl))) (notFace_of_selects (args := #[]) (mvT hZ (hw _ (List.mem_of_getElem? (i := 16) rfl)))) (mvT hZ (hw _ (List.mem_of_getElem? (i := 16) rfl))) (mvT hZ (hw _ (List.mem_of_getElem? (i := 15) rfl))) (by decide) (backOf (W := 0) (own_rmE3 l Z a0 hw [] b20 lx T28.heap n0 Z0''' Elx) hZ (hw _ (List.mem_of_getElem? (i := 17) rfl)) (hw _ (List.mem_of_getElem? (i := 2) rfl)) (by decide) (by decide)) q29a q29c (g := (mkF m 135 #[.val (.long o1), .second, .val (.long t1), .second, .val (.long o2), .second, .val (.long t2), .second, .val (.int fl), .val (.long oo), .second, .val (.long tt), .second, .val (.int (((fl.toUInt32 >>> ((2 : Int32) &&& 31).toUInt32).toInt32) &&& (3 : Int32))), .val (.ref b20), .val (.ref lx), .val (.int (0 : Int32))] [(.ref lx), (.ref b20)])) rfl (by rw [hml]; rfl) (Steps.refl _) (argsL := [(.ref lx)]) (rest := []) (lenOf own_pd68 rfl) rfl (by show 2 * 0 + _ ≤ _; exact Nat.le_of_eq rfl) (hb hby at_135) (fun _ _ => ⟨rfl, rfl, (by decide : 2 + 0 ≤ _), (by decide : 3 + 0 ≤ _)⟩)
            dsimp only [Pt.U, Pt.locs, Pt.cells, Pt.slots] at X29 l29 y29 z29 st29 hQ29
            subst l29 y29 z29
            obtain ⟨rfl, N29q, EQ9⟩ := hQ29
            have N29 := Fr.app N28 N29q
            refine Goes.tr st29 ?_
            show Goes p e below s _ _ _ (T29.setTop (mkF m 138 #[.val (.long o1), .second, .val (.long t1), .second, .val (.long o2), .second, .val (.long t2), .second, .val (.int fl), .val (.long oo), .second, .val (.long tt), .second, .val (.int (((fl.toUInt32 >>> ((2 : Int32) &&& 31).toUInt32).toInt32) &&& (3 : Int32))), .val (.ref b20), .val (.ref lx), .val (.int (0 : Int32))] [(.int (own_bI false))]))
            refine Goes.st (fun t k => XS.iload X29.here hx rfl (hb hby at_138) rfl  k) ?_
            show Goes p e below s _ _ _ (T29.setTop (mkF m 140 #[.val (.long o1), .second, .val (.long t1), .second, .val (.long o2), .second, .val (.long t2), .second, .val (.int fl), .val (.long oo), .second, .val (.long tt), .second, .val (.int (((fl.toUInt32 >>> ((2 : Int32) &&& 31).toUInt32).toInt32) &&& (3 : Int32))), .val (.ref b20), .val (.ref lx), .val (.int (0 : Int32))] [(.int (0 : Int32)), (.int (own_bI false))]))
            refine Goes.st (fun t k => XS.icmpNo X29.here hx rfl (hb hby at_140) rfl (teq (rfl : own_bI false = 0)).2 k) ?_
            show Goes p e below s _ _ _ (T29.setTop (mkF m 143 #[.val (.long o1), .second, .val (.long t1), .second, .val (.long o2), .second, .val (.long t2), .second, .val (.int fl), .val (.long oo), .second, .val (.long tt), .second, .val (.int (((fl.toUInt32 >>> ((2 : Int32) &&& 31).toUInt32).toInt32) &&& (3 : Int32))), .val (.ref b20), .val (.ref lx), .val (.int (0 : Int32))] []))
            refine Goes.st (fun t k => XS.iconst X29.here hx rfl (hb hby at_143) k) ?_
            show Goes p e below s _ _ _ (T29.setTop (mkF m 144 #[.val (.long o1), .second, .val (.long t1), .second, .val (.long o2), .second, .val (.long t2), .second, .val (.int fl), .val (.long oo), .second, .val (.long tt), .second, .val (.int (((fl.toUInt32 >>> ((2 : Int32) &&& 31).toUInt32).toInt32) &&& (3 : Int32))), .val (.ref b20), .val (.ref lx), .val (.int (0 : Int32))] [(.int (1 : Int32))]))
            refine Goes.st (fun t k => XS.goto X29.here hx rfl (pc0 := 144) (pc' := 148) rfl (hb hby at_144) (by decide) (by decide) k) ?_
            show Goes p e below s _ _ _ (T29.setTop (mkF m 148 #[.val (.long o1), .second, .val (.long t1), .second, .val (.long o2), .second, .val (.long t2), .second, .val (.int fl), .val (.long oo), .second, .val (.long tt), .second, .val (.int (((fl.toUInt32 >>> ((2 : Int32) &&& 31).toUInt32).toInt32) &&& (3 : Int32))), .val (.ref b20), .val (.ref lx), .val (.int (0 : Int32))] [(.int (1 : Int32))]))
            exact Goes.retN X29 hx (t := .boolean) hret hlk (by simp) (hb hby at_148) (by decide) (by decide) (⟨rfl, N29⟩)
          · refine Goes.st (fun t k => XS.icmpYes X21.here hx rfl (pc0 := 109) (pc' := 124) rfl (hb hby at_109) rfl (feq hk2).2 (by decide) (by decide) k) ?_
            show Goes p e below s _ _ _ (T21.setTop (mkF m 124 #[.val (.long o1), .second, .val (.long t1), .second, .val (.long o2), .second, .val (.long t2), .second, .val (.int fl), .val (.long oo), .second, .val (.long tt), .second, .val (.int (((fl.toUInt32 >>> ((2 : Int32) &&& 31).toUInt32).toInt32) &&& (3 : Int32))), .val (.ref b20), .unset, .unset] []))
            refine Goes.st (fun t k => XS.aload X21.here hx rfl (hb hby at_124) rfl rfl k) ?_
            show Goes p e below s _ _ _ (T21.setTop (mkF m 126 #[.val (.long o1), .second, .val (.long t1), .second, .val (.long o2), .second, .val (.long t2), .second, .val (.int fl), .val (.long oo), .second, .val (.long tt), .second, .val (.int (((fl.toUInt32 >>> ((2 : Int32) &&& 31).toUInt32).toInt32) &&& (3 : Int32))), .val (.ref b20), .unset, .unset] [(.ref b20)]))
            refine Goes.st (fun t k => XS.astore X21.here hx rfl (hb hby at_126) rfl rfl (l' := #[.val (.long o1), .second, .val (.long t1), .second, .val (.long o2), .second, .val (.long t2), .second, .val (.int fl), .val (.long oo), .second, .val (.long tt), .second, .val (.int (((fl.toUInt32 >>> ((2 : Int32) &&& 31).toUInt32).toInt32) &&& (3 : Int32))), .val (.ref b20), .val (.ref b20), .unset]) rfl k) ?_
            show Goes p e below s _ _ _ (T21.setTop (mkF m 128 #[.val (.long o1), .second, .val (.long t1), .second, .val (.long o2), .second, .val (.long t2), .second, .val (.int fl), .val (.long oo), .second, .val (.long tt), .second, .val (.int (((fl.toUInt32 >>> ((2 : Int32) &&& 31).toUInt32).toInt32) &&& (3 : Int32))), .val (.ref b20), .val (.ref b20), .unset] []))
            refine Goes.st (fun t k => XS.iconst X21.here hx rfl (hb hby at_128) k) ?_
            show Goes p e below s _ _ _ (T21.setTop (mkF m 129 #[.val (.long o1), .second, .val (.long t1), .second, .val (.long o2), .second, .val (.long t2), .second, .val (.int fl), .val (.long oo), .second, .val (.long tt), .second, .val (.int (((fl.toUInt32 >>> ((2 : Int32) &&& 31).toUInt32).toInt32) &&& (3 : Int32))), .val (.ref b20), .val (.ref b20), .unset] [(.int (1 : Int32))]))
            refine Goes.st (fun t k => XS.istore X21.here hx rfl (hb hby at_129) rfl  (l' := #[.val (.long o1), .second, .val (.long t1), .second, .val (.long o2), .second, .val (.long t2), .second, .val (.int fl), .val (.long oo), .second, .val (.long tt), .second, .val (.int (((fl.toUInt32 >>> ((2 : Int32) &&& 31).toUInt32).toInt32) &&& (3 : Int32))), .val (.ref b20), .val (.ref b20), .val (.int (1 : Int32))]) rfl k) ?_
            show Goes p e below s _ _ _ (T21.setTop (mkF m 131 #[.val (.long o1), .second, .val (.long t1), .second, .val (.long o2), .second, .val (.long t2), .second, .val (.int fl), .val (.long oo), .second, .val (.long tt), .second, .val (.int (((fl.toUInt32 >>> ((2 : Int32) &&& 31).toUInt32).toInt32) &&& (3 : Int32))), .val (.ref b20), .val (.ref b20), .val (.int (1 : Int32))] []))
            refine Goes.st (fun t k => XS.aload X21.here hx rfl (hb hby at_131) rfl rfl k) ?_
            show Goes p e below s _ _ _ (T21.setTop (mkF m 133 #[.val (.long o1), .second, .val (.long t1), .second, .val (.long o2), .second, .val (.long t2), .second, .val (.int fl), .val (.long oo), .second, .val (.long tt), .second, .val (.int (((fl.toUInt32 >>> ((2 : Int32) &&& 31).toUInt32).toInt32) &&& (3 : Int32))), .val (.ref b20), .val (.ref b20), .val (.int (1 : Int32))] [(.ref b20)]))
            refine Goes.st (fun t k => XS.aload X21.here hx rfl (hb hby at_133) rfl rfl k) ?_
            show Goes p e below s _ _ _ (T21.setTop (mkF m 135 #[.val (.long o1), .second, .val (.long t1), .second, .val (.long o2), .second, .val (.long t2), .second, .val (.int fl), .val (.long oo), .second, .val (.long tt), .second, .val (.int (((fl.toUInt32 >>> ((2 : Int32) &&& 31).toUInt32).toInt32) &&& (3 : Int32))), .val (.ref b20), .val (.ref b20), .val (.int (1 : Int32))] [(.ref b20), (.ref b20)]))
            obtain ⟨cq30, kq30, q30a, q30b, q30c⟩ := isOf hZ rfl Ex_b20
            obtain ⟨_, _, ⟨T30, L30, k30, n30⟩, -, X30, ⟨Lc30, hQ30, l30, y30, z30⟩, st30⟩ := X21.virtualBack hx (y := (⟨"com/example/nestor/nestor/protocol/TimestampedOffset", "equals", "(Ljava/lang/Object;)Z"⟩ : MethodName)) (z := (⟨"com/example/nestor/nestor/protocol/TimestampedOffset", "equals", "(Ljava/lang/Object;)Z"⟩ : MethodName)) hown (mvT hZ (hw _ (List.mem_of_getElem? (i := 13) rfl))) (mvT hZ (hw _ (List.mem_of_getElem? (i := 14) rfl))) (notFace_of_selects (args := #[]) (mvT hZ (hw _ (List.mem_of_getElem? (i := 16) rfl)))) (mvT hZ (hw _ (List.mem_of_getElem? (i := 16) rfl))) (mvT hZ (hw _ (List.mem_of_getElem? (i := 15) rfl))) (by decide) (backOf (W := 0) (own_rmE1 l Z a0 hw [] b20 b20 o1 t1 o1 t1 true T21.heap n0 Z0'' Ex_b20 F_offset_b20 F_timestamp_b20 F_offset_b20 F_timestamp_b20 (by simp)) hZ (hw _ (List.mem_of_getElem? (i := 17) rfl)) (hw _ (List.mem_of_getElem? (i := 2) rfl)) (by decide) (by decide)) q30a q30c (g := (mkF m 135 #[.val (.long o1), .second, .val (.long t1), .second, .val (.long o2), .second, .val (.long t2), .second, .val (.int fl), .val (.long oo), .second, .val (.long tt), .second, .val (.int (((fl.toUInt32 >>> ((2 : Int32) &&& 31).toUInt32).toInt32) &&& (3 : Int32))), .val (.ref b20), .val (.ref b20), .val (.int (1 : Int32))] [(.ref b20), (.ref b20)])) rfl (by rw [hml]; rfl) (Steps.refl _) (argsL := [(.ref b20)]) (rest := []) (lenOf own_pd68 rfl) rfl (by show 2 * 0 + _ ≤ _; exact Nat.le_of_eq rfl) (hb hby at_135) (fun _ _ => ⟨rfl, rfl, (by decide : 1 + 0 ≤ _), (by decide : 2 + 0 ≤ _)⟩)
            dsimp only [Pt.U, Pt.locs, Pt.cells, Pt.slots] at X30 l30 y30 z30 st30 hQ30
            subst l30 y30 z30
            obtain ⟨rfl, N30q, EQ9⟩ := hQ30
            have N30 := Fr.app N21 N30q
            refine Goes.tr st30 ?_
            show Goes p e below s _ _ _ (T30.setTop (mkF m 138 #[.val (.long o1), .second, .val (.long t1), .second, .val (.long o2), .second, .val (.long t2), .second, .val (.int fl), .val (.long oo), .second, .val (.long tt), .second, .val (.int (((fl.toUInt32 >>> ((2 : Int32) &&& 31).toUInt32).toInt32) &&& (3 : Int32))), .val (.ref b20), .val (.ref b20), .val (.int (1 : Int32))] [(.int (own_bI true))]))
            refine Goes.st (fun t k => XS.iload X30.here hx rfl (hb hby at_138) rfl  k) ?_
            show Goes p e below s _ _ _ (T30.setTop (mkF m 140 #[.val (.long o1), .second, .val (.long t1), .second, .val (.long o2), .second, .val (.long t2), .second, .val (.int fl), .val (.long oo), .second, .val (.long tt), .second, .val (.int (((fl.toUInt32 >>> ((2 : Int32) &&& 31).toUInt32).toInt32) &&& (3 : Int32))), .val (.ref b20), .val (.ref b20), .val (.int (1 : Int32))] [(.int (1 : Int32)), (.int (own_bI true))]))
            refine Goes.st (fun t k => XS.icmpNo X30.here hx rfl (hb hby at_140) rfl (teq (rfl : own_bI true = 1)).2 k) ?_
            show Goes p e below s _ _ _ (T30.setTop (mkF m 143 #[.val (.long o1), .second, .val (.long t1), .second, .val (.long o2), .second, .val (.long t2), .second, .val (.int fl), .val (.long oo), .second, .val (.long tt), .second, .val (.int (((fl.toUInt32 >>> ((2 : Int32) &&& 31).toUInt32).toInt32) &&& (3 : Int32))), .val (.ref b20), .val (.ref b20), .val (.int (1 : Int32))] []))
            refine Goes.st (fun t k => XS.iconst X30.here hx rfl (hb hby at_143) k) ?_
            show Goes p e below s _ _ _ (T30.setTop (mkF m 144 #[.val (.long o1), .second, .val (.long t1), .second, .val (.long o2), .second, .val (.long t2), .second, .val (.int fl), .val (.long oo), .second, .val (.long tt), .second, .val (.int (((fl.toUInt32 >>> ((2 : Int32) &&& 31).toUInt32).toInt32) &&& (3 : Int32))), .val (.ref b20), .val (.ref b20), .val (.int (1 : Int32))] [(.int (1 : Int32))]))
            refine Goes.st (fun t k => XS.goto X30.here hx rfl (pc0 := 144) (pc' := 148) rfl (hb hby at_144) (by decide) (by decide) k) ?_
            show Goes p e below s _ _ _ (T30.setTop (mkF m 148 #[.val (.long o1), .second, .val (.long t1), .second, .val (.long o2), .second, .val (.long t2), .second, .val (.int fl), .val (.long oo), .second, .val (.long tt), .second, .val (.int (((fl.toUInt32 >>> ((2 : Int32) &&& 31).toUInt32).toInt32) &&& (3 : Int32))), .val (.ref b20), .val (.ref b20), .val (.int (1 : Int32))] [(.int (1 : Int32))]))
            exact Goes.retN X30 hx (t := .boolean) hret hlk (by simp) (hb hby at_148) (by decide) (by decide) (⟨rfl, N30⟩)
    by_cases hm2 : (fl &&& (2 : Int32)) = (0 : Int32)
    · refine Goes.st (fun t k => XS.ifYes X0.here hx rfl (pc0 := 19) (pc' := 26) rfl (hb hby at_19) rfl ((if0 _ _).trans (teq hm2).1) (by decide) (by decide) k) ?_
      show Goes p e below s _ _ _ (s₁.setTop (mkF m 26 #[.val (.long o1), .second, .val (.long t1), .second, .val (.long o2), .second, .val (.long t2), .second, .val (.int fl), .val (.long oo), .second, .unset, .unset, .unset, .unset, .unset, .unset] []))
      refine Goes.st (fun t k => XS.lload X0.here hx rfl (hb hby at_26) rfl  k) ?_
      show Goes p e below s _ _ _ (s₁.setTop (mkF m 28 #[.val (.long o1), .second, .val (.long t1), .second, .val (.long o2), .second, .val (.long t2), .second, .val (.int fl), .val (.long oo), .second, .unset, .unset, .unset, .unset, .unset, .unset] [(.long t2)]))
      exact hj2 _
    · refine Goes.st (fun t k => XS.ifNo X0.here hx rfl (hb hby at_19) rfl ((if0 _ _).trans (feq hm2).1) k) ?_
      show Goes p e below s _ _ _ (s₁.setTop (mkF m 22 #[.val (.long o1), .second, .val (.long t1), .second, .val (.long o2), .second, .val (.long t2), .second, .val (.int fl), .val (.long oo), .second, .unset, .unset, .unset, .unset, .unset, .unset] []))
      refine Goes.st (fun t k => XS.lloadN X0.here hx rfl (hb hby at_22) rfl  k) ?_
      show Goes p e below s _ _ _ (s₁.setTop (mkF m 23 #[.val (.long o1), .second, .val (.long t1), .second, .val (.long o2), .second, .val (.long t2), .second, .val (.int fl), .val (.long oo), .second, .unset, .unset, .unset, .unset, .unset, .unset] [(.long t1)]))
      refine Goes.st (fun t k => XS.goto X0.here hx rfl (pc0 := 23) (pc' := 28) rfl (hb hby at_23) (by decide) (by decide) k) ?_
      show Goes p e below s _ _ _ (s₁.setTop (mkF m 28 #[.val (.long o1), .second, .val (.long t1), .second, .val (.long o2), .second, .val (.long t2), .second, .val (.int fl), .val (.long oo), .second, .unset, .unset, .unset, .unset, .unset, .unset] [(.long t1)]))
      exact hj2 _
  by_cases hm1 : (fl &&& (1 : Int32)) = (0 : Int32)
  · refine Goes.st (fun t k => XS.ifYes X0.here hx rfl (pc0 := 4) (pc' := 11) rfl (hb hby at_4) rfl ((if0 _ _).trans (teq hm1).1) (by decide) (by decide) k) ?_
    show Goes p e below s _ _ _ (s₁.setTop (mkF m 11 #[.val (.long o1), .second, .val (.long t1), .second, .val (.long o2), .second, .val (.long t2), .second, .val (.int fl), .unset, .unset, .unset, .unset, .unset, .unset, .unset, .unset] []))
    refine Goes.st (fun t k => XS.lload X0.here hx rfl (hb hby at_11) rfl  k) ?_
    show Goes p e below s _ _ _ (s₁.setTop (mkF m 13 #[.val (.long o1), .second, .val (.long t1), .second, .val (.long o2), .second, .val (.long t2), .second, .val (.int fl), .unset, .unset, .unset, .unset, .unset, .unset, .unset, .unset] [(.long o2)]))
    exact hj1 _
  · refine Goes.st (fun t k => XS.ifNo X0.here hx rfl (hb hby at_4) rfl ((if0 _ _).trans (feq hm1).1) k) ?_
    show Goes p e below s _ _ _ (s₁.setTop (mkF m 7 #[.val (.long o1), .second, .val (.long t1), .second, .val (.long o2), .second, .val (.long t2), .second, .val (.int fl), .unset, .unset, .unset, .unset, .unset, .unset, .unset, .unset] []))
    refine Goes.st (fun t k => XS.lloadN X0.here hx rfl (hb hby at_7) rfl  k) ?_
    show Goes p e below s _ _ _ (s₁.setTop (mkF m 8 #[.val (.long o1), .second, .val (.long t1), .second, .val (.long o2), .second, .val (.long t2), .second, .val (.int fl), .unset, .unset, .unset, .unset, .unset, .unset, .unset, .unset] [(.long o1)]))
    refine Goes.st (fun t k => XS.goto X0.here hx rfl (pc0 := 8) (pc' := 13) rfl (hb hby at_8) (by decide) (by decide) k) ?_
    show Goes p e below s _ _ _ (s₁.setTop (mkF m 13 #[.val (.long o1), .second, .val (.long t1), .second, .val (.long o2), .second, .val (.long t2), .second, .val (.int fl), .unset, .unset, .unset, .unset, .unset, .unset, .unset, .unset] [(.long o1)]))
    exact hj1 _
set_option maxRecDepth 65536 in
set_option maxHeartbeats 40000000 in
theorem comes_1 {Post : Tables → Env → Array Value → State → Outcome → State → Prop} (hpost : ∀ tb e args s v u, (limb_1_1.after args s (.returned v) u = true ∧ limb_1_2.after args s (.returned v) u = true ∧ True) → FrameEnd s (.returned v) u (Jvm.fieldLocs frame_1_writes args s ++ Jvm.arrayLocs frame_1_arrays args s ++ Jvm.staticLocs frame_1_statics s) 16 128 → Post tb e args s (.returned v) u) :
    ArmFor flags0 classFile x code maxLocals ret World_1 tables_1 room_1 Calls_1 rest_1 Pre_1 Post := by
  intro l hfl _ _ p e ha hc hk s m args below hf hA hF happ hP
  obtain ⟨hcalls, hrest, hpre⟩ := hP
  obtain ⟨-, -, -, hnamed, -, -, -, hat⟩ := (Spec.applies_iff hf).mp happ
  obtain ⟨hg, hn⟩ := and_e (Cond.before_iff.mp (show (Jvm.Cond.and given_1 narrow_1).before args s = true from hpre))
  obtain ⟨g0, gr0⟩ := and_e hg
  obtain ⟨ga0, gr1⟩ := and_e gr0
  obtain ⟨ga1, gr2⟩ := and_e gr1
  obtain ⟨ga2, gr3⟩ := and_e gr2
  obtain ⟨ga3, gr4⟩ := and_e gr3
  have ga4 := gr4
  obtain ⟨w0, w1, w2, w3, w4, rfl⟩ : ∃ w0 w1 w2 w3 w4 : Value, args = #[w0, w1, w2, w3, w4] := by
    have hs : args.size = 5 := by simpa [Cond.value, given_1] using g0
    obtain ⟨L⟩ := args
    match L, hs with
    | [w0, w1, w2, w3, w4], _ => exact ⟨w0, w1, w2, w3, w4, rfl⟩
  have hw := fun d (hd : d ∈ tables_1) => atoms_spec (ws := Jvm.Cond.code x code maxLocals ret :: tables_1) hat d (List.mem_cons_of_mem _ hd)
  have hfit : Fit s := fun {y c} hc i hi => by
    obtain ⟨ha, rfl⟩ := Array.getElem?_eq_some_iff.mp hc
    have q := List.all_eq_true.mp ((Array.all_eq_true_iff_forall_mem.mp hF) _ (Array.getElem_mem ha)) i (List.mem_range.mpr hi)
    simpa [Array.getElem?_eq_getElem hi] using q
  obtain ⟨hsets, hown0⟩ := atoms_of _ (rest_1_c_eq ▸ (show rest_1_c.before _ s = true from hrest))
  have hr0 := Cond.before_iff.mp hown0
  obtain ⟨i0, ei0⟩ := isL_v ga0
  obtain rfl : w0 = (.long i0) := Option.some.inj ei0
  obtain ⟨i1, ei1⟩ := isL_v ga1
  obtain rfl : w1 = (.long i1) := Option.some.inj ei1
  obtain ⟨i2, ei2⟩ := isL_v ga2
  obtain rfl : w2 = (.long i2) := Option.some.inj ei2
  obtain ⟨i3, ei3⟩ := isL_v ga3
  obtain rfl : w3 = (.long i3) := Option.some.inj ei3
  obtain ⟨i4, ei4⟩ := is_v ga4
  obtain rfl : w4 = (.int i4) := Option.some.inj ei4
  have hat6 : ∀ d ∈ Jvm.Free.LongBox.longClinit, d.before _ s = true := fun d hd => hsets d hd
  obtain ⟨ca, cl, S_c, Ac, HC⟩ := own_cache hat6
  obtain ⟨n, o, h1, h2, h3, _, L, rfl, ⟨rfl, N⟩, hq⟩ := own_rm0 l s _ hw tables_1 i0 i1 i2 i3 i4 ca cl s.heap s.heap.size (Nat.le_refl _) (Old.start s) S_c Ac HC p e ha hc hk s m _ below hf ((Spec.applies_iff_loose hf).mp happ).1 ⟨rfl, State.Warmed39.refl s, rfl⟩ trivial
  refine ⟨n, _, h1, h2, h3, hpost _ _ _ _ _ _ ⟨Cond.after_iff.mpr rfl, Cond.after_iff.mpr (eq_i res_at (Term.int_eval (1)) rfl), trivial⟩ ⟨hq.1, hq.2.1, (hq.2.2.sift fun y hy => Or.inr (N y hy)).mono (by decide) (by decide)⟩⟩
theorem main_1_1 : Claimed_1_1 := comes_1 fun _ _ _ _ _ _ h hF => ⟨h.1, hF⟩
theorem main_1_2 : Claimed_1_2 := comes_1 fun _ _ _ _ _ _ h hF => ⟨h.2.1, hF⟩
end Jvm.Pilot.@@N@@
namespace Jvm.Pilot.@@N@@
open Jvm Jvm.ClassFile Sem Op Lib Jvm.Free Jvm.Stand Jvm.Pilot.@@N@@.Jvm.D
/-! MADE BY PROGRAM (witnessworld.py) out of the Statement's table words and the real class files: 16 classes; the members and pool entries that the words name. The judged class is class 1, her method 1. -/
namespace start1
open Jvm.ClassFile
def u (s : String) : CpInfo := .utf8 (stringToUtf16 s)
/-- a pool by its gaps: so many unusable entries, then the entry; so many at the end -/
def gap : Nat → List CpInfo → List CpInfo
  | 0, r => r
  | n + 1, r => .unusable :: gap n r
def poolList (es : List (Nat × CpInfo)) (last : Nat) : List CpInfo := es.foldr (fun e r => gap e.1 (e.2 :: r)) (gap last [])
def pool (es : List (Nat × CpInfo)) (last : Nat) : Array CpInfo := ⟨poolList es last⟩
def fileOf (pool : Array CpInfo) (this : Nat) (attrs : Array Attribute := #[]) (ms : Array MethodInfo := #[]) (fl : Nat := 33) (sup : Nat := 0) (ifs : Array Nat := #[]) (fds : Array FieldInfo := #[]) : ClassFile where
  minorVersion := 0
  majorVersion := 65
  constantPool := pool
  accessFlags := fl
  thisClass := this
  superClass := sup
  interfaces := ifs
  fields := fds
  methods := ms
  attributes := attrs
def plain (name : String) (sup : Option ClassId) : Class where
  name := name
  kind := .ordinary
  loader := none
  accessFlags := 33
  super := sup
  interfaces := #[]
  cf := none
  fields := #[]
  methods := #[]
  instanceTypes := #[]
  staticTypes := #[]
  resolved := #[]
  callSites := []
  init := .initialized
  statics := none
  mirror := none

def pool0 : Array CpInfo := pool [(5, u "<init>"), (0, u "()V"), (1, .class_ 10), (1, u "java/lang/Object")] 113

def k0c0 : Code := { maxStack := 0, maxLocals := 1, code := object_method_1_code, exceptionTable := #[], attributes := #[] }
def k0m0 : Method := { name := "<init>", desc := "()V", sig := { parameters := [], returnType := none }, accessFlags := 1, code := some k0c0 }
/-- java/lang/Object -/
def k0 : Class := { plain "java/lang/Object" none with
  accessFlags := 33
  interfaces := #[]
  cf := some (fileOf pool0 8 #[] #[{ accessFlags := 1, nameIndex := 5, descriptorIndex := 6, attributes := #[] }] 33 0 #[] #[])
  fields := #[]
  methods := #[k0m0]
  instanceTypes := #[]
  staticTypes := #[]
  resolved := Array.replicate 124 none
  statics := none }

def pool1 : Array CpInfo := pool [(2, .class_ 4), (1, u "java/lang/Object"), (0, u "<init>"), (0, u "()V"), (0, .class_ 8), (0, u "com/example/nestor/nestor/protocol/TimestampedOffset"), (0, .methodref 7 10), (0, .nameAndType 5 11), (0, u "(JJ)V"), (0, .methodref 13 14), (0, .class_ 15), (0, .nameAndType 16 17), (0, u "java/lang/Long"), (0, u "valueOf"), (0, u "(J)Ljava/lang/Long;"), (0, .methodref 7 19), (0, .nameAndType 20 21), (0, u "equals"), (0, u "(Ljava/lang/Object;)Z"), (0, .class_ 23), (0, u "com/example/nestor/nestor/protocol/TimestampedOffsetEqualsPinLaw"), (2, u "law"), (0, u "(JJJJI)Z")] 3

def k1m0 : Method := { name := "<init>", desc := "()V", sig := { parameters := [], returnType := none }, accessFlags := 1, code := none }
def k1c1 : Code := { maxStack := 6, maxLocals := 17, code := code, exceptionTable := #[], attributes := #[] }
def k1m1 : Method := { name := "law", desc := "(JJJJI)Z", sig := { parameters := [.long, .long, .long, .long, .int], returnType := some .boolean }, accessFlags := 9, code := some k1c1 }
/-- com/example/nestor/nestor/protocol/TimestampedOffsetEqualsPinLaw -/
def k1 : Class := { plain "com/example/nestor/nestor/protocol/TimestampedOffsetEqualsPinLaw" (some 0) with
  accessFlags := 49
  interfaces := #[]
  cf := some (fileOf pool1 22 #[] #[{ accessFlags := 1, nameIndex := 5, descriptorIndex := 6, attributes := #[] }, { accessFlags := 9, nameIndex := 26, descriptorIndex := 27, attributes := #[] }] 49 2 #[] #[])
  fields := #[]
  methods := #[k1m0, k1m1]
  instanceTypes := #[]
  staticTypes := #[]
  resolved := Array.replicate 31 none
  statics := none }

def pool2 : Array CpInfo := pool [(1, .methodref 2 3), (0, .class_ 4), (0, .nameAndType 5 6), (0, u "java/lang/Object"), (0, u "<init>"), (0, u "()V"), (0, .fieldref 8 9), (0, .class_ 10), (0, .nameAndType 11 12), (0, u "com/example/nestor/nestor/protocol/TimestampedOffset"), (0, u "offset"), (0, u "J"), (0, .fieldref 8 14), (0, .nameAndType 15 12), (0, u "timestamp"), (16, u "(JJ)V"), (3, u "equals"), (0, u "(Ljava/lang/Object;)Z")] 22

def k2c0 : Code := { maxStack := 3, maxLocals := 5, code := prog_28_method_1_code, exceptionTable := #[], attributes := #[] }
def k2m0 : Method := { name := "<init>", desc := "(JJ)V", sig := { parameters := [.long, .long], returnType := none }, accessFlags := 1, code := some k2c0 }
def k2c1 : Code := { maxStack := 4, maxLocals := 3, code := prog_28_method_4_code, exceptionTable := #[], attributes := #[] }
def k2m1 : Method := { name := "equals", desc := "(Ljava/lang/Object;)Z", sig := { parameters := [(.object "java/lang/Object")], returnType := some .boolean }, accessFlags := 1, code := some k2c1 }
/-- com/example/nestor/nestor/protocol/TimestampedOffset -/
def k2 : Class := { plain "com/example/nestor/nestor/protocol/TimestampedOffset" (some 0) with
  accessFlags := 33
  interfaces := #[]
  cf := some (fileOf pool2 8 #[] #[{ accessFlags := 1, nameIndex := 5, descriptorIndex := 32, attributes := #[] }, { accessFlags := 1, nameIndex := 36, descriptorIndex := 37, attributes := #[] }] 33 2 #[] #[{ accessFlags := 18, nameIndex := 11, descriptorIndex := 12, attributes := #[] }, { accessFlags := 18, nameIndex := 15, descriptorIndex := 12, attributes := #[] }])
  fields := #[{ name := "offset", type := .long, accessFlags := 18, slot := 0, constantValue := 0 }, { name := "timestamp", type := .long, accessFlags := 18, slot := 1, constantValue := 0 }]
  methods := #[k2m0, k2m1]
  instanceTypes := #[.long, .long]
  staticTypes := #[]
  resolved := Array.replicate 60 none
  statics := none }

def pool3 : Array CpInfo := pool [(1, .class_ 2), (0, u "java/io/Serializable"), (0, .class_ 4), (0, u "java/lang/Object")] 2

/-- java/io/Serializable -/
def k3 : Class := { plain "java/io/Serializable" (some 0) with
  accessFlags := 1537
  interfaces := #[]
  cf := some (fileOf pool3 1 #[] #[] 1537 3 #[] #[])
  fields := #[]
  methods := #[]
  instanceTypes := #[]
  staticTypes := #[]
  resolved := Array.replicate 7 none
  statics := none }

def pool4 : Array CpInfo := pool [(1, .methodref 2 3), (0, .class_ 4), (0, .nameAndType 5 6), (0, u "java/lang/Object"), (0, u "<init>"), (0, u "()V"), (1, .class_ 10), (1, u "java/lang/Number"), (2, .class_ 14), (0, u "java/io/Serializable"), (0, u "serialVersionUID"), (0, u "J")] 20

def k4c0 : Code := { maxStack := 1, maxLocals := 1, code := jdk_18_method_1_code, exceptionTable := #[], attributes := #[] }
def k4m0 : Method := { name := "<init>", desc := "()V", sig := { parameters := [], returnType := none }, accessFlags := 1, code := some k4c0 }
/-- java/lang/Number -/
def k4 : Class := { plain "java/lang/Number" (some 0) with
  accessFlags := 1057
  interfaces := #[3]
  cf := some (fileOf pool4 8 #[] #[{ accessFlags := 1, nameIndex := 5, descriptorIndex := 6, attributes := #[] }] 1057 2 #[13] #[{ accessFlags := 26, nameIndex := 15, descriptorIndex := 16, attributes := #[] }])
  fields := #[{ name := "serialVersionUID", type := .long, accessFlags := 26, slot := 0, constantValue := 0 }]
  methods := #[k4m0]
  instanceTypes := #[]
  staticTypes := #[.long]
  resolved := Array.replicate 37 none
  statics := none }

def pool5 : Array CpInfo := pool [(1, .class_ 2), (0, u "java/lang/Comparable"), (0, .class_ 4), (0, u "java/lang/Object")] 7

/-- java/lang/Comparable -/
def k5 : Class := { plain "java/lang/Comparable" (some 0) with
  accessFlags := 1537
  interfaces := #[]
  cf := some (fileOf pool5 1 #[] #[] 1537 3 #[] #[])
  fields := #[]
  methods := #[]
  instanceTypes := #[]
  staticTypes := #[]
  resolved := Array.replicate 12 none
  statics := none }

def pool6 : Array CpInfo := pool [(1, .class_ 2), (0, u "java/lang/constant/Constable"), (0, .class_ 4), (0, u "java/lang/Object")] 6

/-- java/lang/constant/Constable -/
def k6 : Class := { plain "java/lang/constant/Constable" (some 0) with
  accessFlags := 1537
  interfaces := #[]
  cf := some (fileOf pool6 1 #[] #[] 1537 3 #[] #[])
  fields := #[]
  methods := #[]
  instanceTypes := #[]
  staticTypes := #[]
  resolved := Array.replicate 11 none
  statics := none }

def pool7 : Array CpInfo := pool [(1, .class_ 2), (0, u "java/lang/constant/ConstantDesc"), (0, .class_ 4), (0, u "java/lang/Object")] 32

/-- java/lang/constant/ConstantDesc -/
def k7 : Class := { plain "java/lang/constant/ConstantDesc" (some 0) with
  accessFlags := 1537
  interfaces := #[]
  cf := some (fileOf pool7 1 #[] #[] 1537 3 #[] #[])
  fields := #[]
  methods := #[]
  instanceTypes := #[]
  staticTypes := #[]
  resolved := Array.replicate 37 none
  statics := none }

def pool8 : Array CpInfo := pool [(1, .class_ 2), (0, u "java/lang/Long"), (55, .nameAndType 59 60), (0, u "<init>"), (0, u "()V"), (24, u "valueOf"), (143, u "(J)Ljava/lang/Long;"), (0, .long 18446744073709551488), (1, .long 127), (1, .fieldref 235 236), (0, .class_ 237), (0, .nameAndType 238 239), (0, u "java/lang/Long$LongCache"), (0, u "cache"), (0, u "[Ljava/lang/Long;"), (0, .methodref 1 241), (0, .nameAndType 59 242), (0, u "(J)V"), (27, .methodref 271 58), (0, .class_ 272), (0, u "java/lang/Number"), (0, .fieldref 1 274), (0, .nameAndType 275 276), (0, u "value"), (0, u "J"), (84, u "TYPE"), (0, u "Ljava/lang/Class;"), (0, .class_ 364), (0, u "java/lang/Comparable"), (0, .class_ 366), (0, u "java/lang/constant/Constable"), (0, .class_ 368), (0, u "java/lang/constant/ConstantDesc"), (0, u "MIN_VALUE"), (1, u "MAX_VALUE"), (4, u "SIZE"), (0, u "I"), (1, u "BYTES"), (1, u "serialVersionUID")] 142

def k8c0 : Code := { maxStack := 4, maxLocals := 3, code := jdk_35_method_24_code, exceptionTable := #[], attributes := #[] }
def k8m0 : Method := { name := "valueOf", desc := "(J)Ljava/lang/Long;", sig := { parameters := [.long], returnType := some (.object "java/lang/Long") }, accessFlags := 9, code := some k8c0 }
def k8c1 : Code := { maxStack := 3, maxLocals := 3, code := jdk_35_method_26_code, exceptionTable := #[], attributes := #[] }
def k8m1 : Method := { name := "<init>", desc := "(J)V", sig := { parameters := [.long], returnType := none }, accessFlags := 1, code := some k8c1 }
/-- java/lang/Long -/
def k8 : Class := { plain "java/lang/Long" (some 4) with
  accessFlags := 49
  interfaces := #[5, 6, 7]
  cf := some (fileOf pool8 1 #[.nestMembers #[235]] #[{ accessFlags := 9, nameIndex := 85, descriptorIndex := 229, attributes := #[] }, { accessFlags := 1, nameIndex := 59, descriptorIndex := 242, attributes := #[] }] 49 271 #[363, 365, 367] #[{ accessFlags := 25, nameIndex := 369, descriptorIndex := 276, attributes := #[] }, { accessFlags := 25, nameIndex := 371, descriptorIndex := 276, attributes := #[] }, { accessFlags := 25, nameIndex := 361, descriptorIndex := 362, attributes := #[] }, { accessFlags := 18, nameIndex := 275, descriptorIndex := 276, attributes := #[] }, { accessFlags := 25, nameIndex := 376, descriptorIndex := 377, attributes := #[] }, { accessFlags := 25, nameIndex := 379, descriptorIndex := 377, attributes := #[] }, { accessFlags := 26, nameIndex := 381, descriptorIndex := 276, attributes := #[] }])
  fields := #[{ name := "MIN_VALUE", type := .long, accessFlags := 25, slot := 0, constantValue := 0 }, { name := "MAX_VALUE", type := .long, accessFlags := 25, slot := 1, constantValue := 0 }, { name := "TYPE", type := (.object "java/lang/Class"), accessFlags := 25, slot := 2, constantValue := 0 }, { name := "value", type := .long, accessFlags := 18, slot := 0, constantValue := 0 }, { name := "SIZE", type := .int, accessFlags := 25, slot := 3, constantValue := 0 }, { name := "BYTES", type := .int, accessFlags := 25, slot := 4, constantValue := 0 }, { name := "serialVersionUID", type := .long, accessFlags := 26, slot := 5, constantValue := 0 }]
  methods := #[k8m0, k8m1]
  instanceTypes := #[.long]
  staticTypes := #[.long, .long, (.object "java/lang/Class"), .int, .int, .long]
  resolved := Array.replicate 524 none
  statics := none }

def pool9 : Array CpInfo := pool [(2, .class_ 4), (1, u "java/lang/Object"), (0, u "<init>"), (0, u "()V"), (0, .class_ 8), (0, u "java/lang/Long"), (7, .class_ 18), (1, u "java/lang/Long$LongCache"), (0, u "$assertionsDisabled"), (0, u "Z"), (8, u "archivedCache"), (0, u "[Ljava/lang/Long;"), (7, u "cache")] 24

def k9m0 : Method := { name := "<init>", desc := "()V", sig := { parameters := [], returnType := none }, accessFlags := 2, code := none }
/-- java/lang/Long$LongCache -/
def k9 : Class := { plain "java/lang/Long$LongCache" (some 0) with
  accessFlags := 48
  interfaces := #[]
  cf := some (fileOf pool9 16 #[.nestHost 7] #[{ accessFlags := 2, nameIndex := 5, descriptorIndex := 6, attributes := #[] }] 48 2 #[] #[{ accessFlags := 24, nameIndex := 38, descriptorIndex := 30, attributes := #[] }, { accessFlags := 8, nameIndex := 29, descriptorIndex := 30, attributes := #[] }, { accessFlags := 4120, nameIndex := 19, descriptorIndex := 20, attributes := #[] }])
  fields := #[{ name := "cache", type := (.array (.object "java/lang/Long")), accessFlags := 24, slot := 0, constantValue := 0 }, { name := "archivedCache", type := (.array (.object "java/lang/Long")), accessFlags := 8, slot := 1, constantValue := 0 }, { name := "$assertionsDisabled", type := .boolean, accessFlags := 4120, slot := 2, constantValue := 0 }]
  methods := #[k9m0]
  instanceTypes := #[]
  staticTypes := #[(.array (.object "java/lang/Long")), (.array (.object "java/lang/Long")), .boolean]
  resolved := Array.replicate 63 none
  statics := some 0 }

def pool10 : Array CpInfo := pool [(1, u "java/lang/Cloneable"), (0, .class_ 1), (0, u "java/lang/Object"), (0, .class_ 3)] 3

/-- java/lang/Cloneable -/
def k10 : Class := { plain "java/lang/Cloneable" (some 0) with
  accessFlags := 1537
  interfaces := #[]
  cf := some (fileOf pool10 2 #[] #[] 1537 4 #[] #[])
  fields := #[]
  methods := #[]
  instanceTypes := #[]
  staticTypes := #[]
  resolved := Array.replicate 8 none
  statics := none }

/-- the primitive byte -/
def k11 : Class := { plain "byte" none with kind := .primitive 'B', accessFlags := 0x411 }
/-- [B -/
def k12 : Class := { plain "[B" (some 0) with kind := .array 11 .byte, interfaces := #[10, 3], accessFlags := 1041 }

/-- the primitive int -/
def k13 : Class := { plain "int" none with kind := .primitive 'I', accessFlags := 0x411 }
/-- [I -/
def k14 : Class := { plain "[I" (some 0) with kind := .array 13 .int, interfaces := #[10, 3], accessFlags := 1041 }

/-- [Ljava/lang/Long; -/
def k15 : Class := { plain "[Ljava/lang/Long;" (some 0) with kind := .array 8 (.object "java/lang/Long"), interfaces := #[10, 3], accessFlags := 1041 }

def heap : Heap := #[{ cls := 9, slots := #[.ref 1, .null, .int 0], vm := .statics 9 },
  { cls := 15, slots := #[.ref 2, .ref 3, .ref 4, .ref 5, .ref 6, .ref 7, .ref 8, .ref 9, .ref 10, .ref 11, .ref 12, .ref 13, .ref 14, .ref 15, .ref 16, .ref 17, .ref 18, .ref 19, .ref 20, .ref 21, .ref 22, .ref 23, .ref 24, .ref 25, .ref 26, .ref 27, .ref 28, .ref 29, .ref 30, .ref 31, .ref 32, .ref 33, .ref 34, .ref 35, .ref 36, .ref 37, .ref 38, .ref 39, .ref 40, .ref 41, .ref 42, .ref 43, .ref 44, .ref 45, .ref 46, .ref 47, .ref 48, .ref 49, .ref 50, .ref 51, .ref 52, .ref 53, .ref 54, .ref 55, .ref 56, .ref 57, .ref 58, .ref 59, .ref 60, .ref 61, .ref 62, .ref 63, .ref 64, .ref 65, .ref 66, .ref 67, .ref 68, .ref 69, .ref 70, .ref 71, .ref 72, .ref 73, .ref 74, .ref 75, .ref 76, .ref 77, .ref 78, .ref 79, .ref 80, .ref 81, .ref 82, .ref 83, .ref 84, .ref 85, .ref 86, .ref 87, .ref 88, .ref 89, .ref 90, .ref 91, .ref 92, .ref 93, .ref 94, .ref 95, .ref 96, .ref 97, .ref 98, .ref 99, .ref 100, .ref 101, .ref 102, .ref 103, .ref 104, .ref 105, .ref 106, .ref 107, .ref 108, .ref 109, .ref 110, .ref 111, .ref 112, .ref 113, .ref 114, .ref 115, .ref 116, .ref 117, .ref 118, .ref 119, .ref 120, .ref 121, .ref 122, .ref 123, .ref 124, .ref 125, .ref 126, .ref 127, .ref 128, .ref 129, .ref 130, .ref 131, .ref 132, .ref 133, .ref 134, .ref 135, .ref 136, .ref 137, .ref 138, .ref 139, .ref 140, .ref 141, .ref 142, .ref 143, .ref 144, .ref 145, .ref 146, .ref 147, .ref 148, .ref 149, .ref 150, .ref 151, .ref 152, .ref 153, .ref 154, .ref 155, .ref 156, .ref 157, .ref 158, .ref 159, .ref 160, .ref 161, .ref 162, .ref 163, .ref 164, .ref 165, .ref 166, .ref 167, .ref 168, .ref 169, .ref 170, .ref 171, .ref 172, .ref 173, .ref 174, .ref 175, .ref 176, .ref 177, .ref 178, .ref 179, .ref 180, .ref 181, .ref 182, .ref 183, .ref 184, .ref 185, .ref 186, .ref 187, .ref 188, .ref 189, .ref 190, .ref 191, .ref 192, .ref 193, .ref 194, .ref 195, .ref 196, .ref 197, .ref 198, .ref 199, .ref 200, .ref 201, .ref 202, .ref 203, .ref 204, .ref 205, .ref 206, .ref 207, .ref 208, .ref 209, .ref 210, .ref 211, .ref 212, .ref 213, .ref 214, .ref 215, .ref 216, .ref 217, .ref 218, .ref 219, .ref 220, .ref 221, .ref 222, .ref 223, .ref 224, .ref 225, .ref 226, .ref 227, .ref 228, .ref 229, .ref 230, .ref 231, .ref 232, .ref 233, .ref 234, .ref 235, .ref 236, .ref 237, .ref 238, .ref 239, .ref 240, .ref 241, .ref 242, .ref 243, .ref 244, .ref 245, .ref 246, .ref 247, .ref 248, .ref 249, .ref 250, .ref 251, .ref 252, .ref 253, .ref 254, .ref 255, .ref 256, .ref 257], vm := .none },
  { cls := 8, slots := #[.long (-128)], vm := .none },
  { cls := 8, slots := #[.long (-127)], vm := .none },
  { cls := 8, slots := #[.long (-126)], vm := .none },
  { cls := 8, slots := #[.long (-125)], vm := .none },
  { cls := 8, slots := #[.long (-124)], vm := .none },
  { cls := 8, slots := #[.long (-123)], vm := .none },
  { cls := 8, slots := #[.long (-122)], vm := .none },
  { cls := 8, slots := #[.long (-121)], vm := .none },
  { cls := 8, slots := #[.long (-120)], vm := .none },
  { cls := 8, slots := #[.long (-119)], vm := .none },
  { cls := 8, slots := #[.long (-118)], vm := .none },
  { cls := 8, slots := #[.long (-117)], vm := .none },
  { cls := 8, slots := #[.long (-116)], vm := .none },
  { cls := 8, slots := #[.long (-115)], vm := .none },
  { cls := 8, slots := #[.long (-114)], vm := .none },
  { cls := 8, slots := #[.long (-113)], vm := .none },
  { cls := 8, slots := #[.long (-112)], vm := .none },
  { cls := 8, slots := #[.long (-111)], vm := .none },
  { cls := 8, slots := #[.long (-110)], vm := .none },
  { cls := 8, slots := #[.long (-109)], vm := .none },
  { cls := 8, slots := #[.long (-108)], vm := .none },
  { cls := 8, slots := #[.long (-107)], vm := .none },
  { cls := 8, slots := #[.long (-106)], vm := .none },
  { cls := 8, slots := #[.long (-105)], vm := .none },
  { cls := 8, slots := #[.long (-104)], vm := .none },
  { cls := 8, slots := #[.long (-103)], vm := .none },
  { cls := 8, slots := #[.long (-102)], vm := .none },
  { cls := 8, slots := #[.long (-101)], vm := .none },
  { cls := 8, slots := #[.long (-100)], vm := .none },
  { cls := 8, slots := #[.long (-99)], vm := .none },
  { cls := 8, slots := #[.long (-98)], vm := .none },
  { cls := 8, slots := #[.long (-97)], vm := .none },
  { cls := 8, slots := #[.long (-96)], vm := .none },
  { cls := 8, slots := #[.long (-95)], vm := .none },
  { cls := 8, slots := #[.long (-94)], vm := .none },
  { cls := 8, slots := #[.long (-93)], vm := .none },
  { cls := 8, slots := #[.long (-92)], vm := .none },
  { cls := 8, slots := #[.long (-91)], vm := .none },
  { cls := 8, slots := #[.long (-90)], vm := .none },
  { cls := 8, slots := #[.long (-89)], vm := .none },
  { cls := 8, slots := #[.long (-88)], vm := .none },
  { cls := 8, slots := #[.long (-87)], vm := .none },
  { cls := 8, slots := #[.long (-86)], vm := .none },
  { cls := 8, slots := #[.long (-85)], vm := .none },
  { cls := 8, slots := #[.long (-84)], vm := .none },
  { cls := 8, slots := #[.long (-83)], vm := .none },
  { cls := 8, slots := #[.long (-82)], vm := .none },
  { cls := 8, slots := #[.long (-81)], vm := .none },
  { cls := 8, slots := #[.long (-80)], vm := .none },
  { cls := 8, slots := #[.long (-79)], vm := .none },
  { cls := 8, slots := #[.long (-78)], vm := .none },
  { cls := 8, slots := #[.long (-77)], vm := .none },
  { cls := 8, slots := #[.long (-76)], vm := .none },
  { cls := 8, slots := #[.long (-75)], vm := .none },
  { cls := 8, slots := #[.long (-74)], vm := .none },
  { cls := 8, slots := #[.long (-73)], vm := .none },
  { cls := 8, slots := #[.long (-72)], vm := .none },
  { cls := 8, slots := #[.long (-71)], vm := .none },
  { cls := 8, slots := #[.long (-70)], vm := .none },
  { cls := 8, slots := #[.long (-69)], vm := .none },
  { cls := 8, slots := #[.long (-68)], vm := .none },
  { cls := 8, slots := #[.long (-67)], vm := .none },
  { cls := 8, slots := #[.long (-66)], vm := .none },
  { cls := 8, slots := #[.long (-65)], vm := .none },
  { cls := 8, slots := #[.long (-64)], vm := .none },
  { cls := 8, slots := #[.long (-63)], vm := .none },
  { cls := 8, slots := #[.long (-62)], vm := .none },
  { cls := 8, slots := #[.long (-61)], vm := .none },
  { cls := 8, slots := #[.long (-60)], vm := .none },
  { cls := 8, slots := #[.long (-59)], vm := .none },
  { cls := 8, slots := #[.long (-58)], vm := .none },
  { cls := 8, slots := #[.long (-57)], vm := .none },
  { cls := 8, slots := #[.long (-56)], vm := .none },
  { cls := 8, slots := #[.long (-55)], vm := .none },
  { cls := 8, slots := #[.long (-54)], vm := .none },
  { cls := 8, slots := #[.long (-53)], vm := .none },
  { cls := 8, slots := #[.long (-52)], vm := .none },
  { cls := 8, slots := #[.long (-51)], vm := .none },
  { cls := 8, slots := #[.long (-50)], vm := .none },
  { cls := 8, slots := #[.long (-49)], vm := .none },
  { cls := 8, slots := #[.long (-48)], vm := .none },
  { cls := 8, slots := #[.long (-47)], vm := .none },
  { cls := 8, slots := #[.long (-46)], vm := .none },
  { cls := 8, slots := #[.long (-45)], vm := .none },
  { cls := 8, slots := #[.long (-44)], vm := .none },
  { cls := 8, slots := #[.long (-43)], vm := .none },
  { cls := 8, slots := #[.long (-42)], vm := .none },
  { cls := 8, slots := #[.long (-41)], vm := .none },
  { cls := 8, slots := #[.long (-40)], vm := .none },
  { cls := 8, slots := #[.long (-39)], vm := .none },
  { cls := 8, slots := #[.long (-38)], vm := .none },
  { cls := 8, slots := #[.long (-37)], vm := .none },
  { cls := 8, slots := #[.long (-36)], vm := .none },
  { cls := 8, slots := #[.long (-35)], vm := .none },
  { cls := 8, slots := #[.long (-34)], vm := .none },
  { cls := 8, slots := #[.long (-33)], vm := .none },
  { cls := 8, slots := #[.long (-32)], vm := .none },
  { cls := 8, slots := #[.long (-31)], vm := .none },
  { cls := 8, slots := #[.long (-30)], vm := .none },
  { cls := 8, slots := #[.long (-29)], vm := .none },
  { cls := 8, slots := #[.long (-28)], vm := .none },
  { cls := 8, slots := #[.long (-27)], vm := .none },
  { cls := 8, slots := #[.long (-26)], vm := .none },
  { cls := 8, slots := #[.long (-25)], vm := .none },
  { cls := 8, slots := #[.long (-24)], vm := .none },
  { cls := 8, slots := #[.long (-23)], vm := .none },
  { cls := 8, slots := #[.long (-22)], vm := .none },
  { cls := 8, slots := #[.long (-21)], vm := .none },
  { cls := 8, slots := #[.long (-20)], vm := .none },
  { cls := 8, slots := #[.long (-19)], vm := .none },
  { cls := 8, slots := #[.long (-18)], vm := .none },
  { cls := 8, slots := #[.long (-17)], vm := .none },
  { cls := 8, slots := #[.long (-16)], vm := .none },
  { cls := 8, slots := #[.long (-15)], vm := .none },
  { cls := 8, slots := #[.long (-14)], vm := .none },
  { cls := 8, slots := #[.long (-13)], vm := .none },
  { cls := 8, slots := #[.long (-12)], vm := .none },
  { cls := 8, slots := #[.long (-11)], vm := .none },
  { cls := 8, slots := #[.long (-10)], vm := .none },
  { cls := 8, slots := #[.long (-9)], vm := .none },
  { cls := 8, slots := #[.long (-8)], vm := .none },
  { cls := 8, slots := #[.long (-7)], vm := .none },
  { cls := 8, slots := #[.long (-6)], vm := .none },
  { cls := 8, slots := #[.long (-5)], vm := .none },
  { cls := 8, slots := #[.long (-4)], vm := .none },
  { cls := 8, slots := #[.long (-3)], vm := .none },
  { cls := 8, slots := #[.long (-2)], vm := .none },
  { cls := 8, slots := #[.long (-1)], vm := .none },
  { cls := 8, slots := #[.long (0)], vm := .none },
  { cls := 8, slots := #[.long (1)], vm := .none },
  { cls := 8, slots := #[.long (2)], vm := .none },
  { cls := 8, slots := #[.long (3)], vm := .none },
  { cls := 8, slots := #[.long (4)], vm := .none },
  { cls := 8, slots := #[.long (5)], vm := .none },
  { cls := 8, slots := #[.long (6)], vm := .none },
  { cls := 8, slots := #[.long (7)], vm := .none },
  { cls := 8, slots := #[.long (8)], vm := .none },
  { cls := 8, slots := #[.long (9)], vm := .none },
  { cls := 8, slots := #[.long (10)], vm := .none },
  { cls := 8, slots := #[.long (11)], vm := .none },
  { cls := 8, slots := #[.long (12)], vm := .none },
  { cls := 8, slots := #[.long (13)], vm := .none },
  { cls := 8, slots := #[.long (14)], vm := .none },
  { cls := 8, slots := #[.long (15)], vm := .none },
  { cls := 8, slots := #[.long (16)], vm := .none },
  { cls := 8, slots := #[.long (17)], vm := .none },
  { cls := 8, slots := #[.long (18)], vm := .none },
  { cls := 8, slots := #[.long (19)], vm := .none },
  { cls := 8, slots := #[.long (20)], vm := .none },
  { cls := 8, slots := #[.long (21)], vm := .none },
  { cls := 8, slots := #[.long (22)], vm := .none },
  { cls := 8, slots := #[.long (23)], vm := .none },
  { cls := 8, slots := #[.long (24)], vm := .none },
  { cls := 8, slots := #[.long (25)], vm := .none },
  { cls := 8, slots := #[.long (26)], vm := .none },
  { cls := 8, slots := #[.long (27)], vm := .none },
  { cls := 8, slots := #[.long (28)], vm := .none },
  { cls := 8, slots := #[.long (29)], vm := .none },
  { cls := 8, slots := #[.long (30)], vm := .none },
  { cls := 8, slots := #[.long (31)], vm := .none },
  { cls := 8, slots := #[.long (32)], vm := .none },
  { cls := 8, slots := #[.long (33)], vm := .none },
  { cls := 8, slots := #[.long (34)], vm := .none },
  { cls := 8, slots := #[.long (35)], vm := .none },
  { cls := 8, slots := #[.long (36)], vm := .none },
  { cls := 8, slots := #[.long (37)], vm := .none },
  { cls := 8, slots := #[.long (38)], vm := .none },
  { cls := 8, slots := #[.long (39)], vm := .none },
  { cls := 8, slots := #[.long (40)], vm := .none },
  { cls := 8, slots := #[.long (41)], vm := .none },
  { cls := 8, slots := #[.long (42)], vm := .none },
  { cls := 8, slots := #[.long (43)], vm := .none },
  { cls := 8, slots := #[.long (44)], vm := .none },
  { cls := 8, slots := #[.long (45)], vm := .none },
  { cls := 8, slots := #[.long (46)], vm := .none },
  { cls := 8, slots := #[.long (47)], vm := .none },
  { cls := 8, slots := #[.long (48)], vm := .none },
  { cls := 8, slots := #[.long (49)], vm := .none },
  { cls := 8, slots := #[.long (50)], vm := .none },
  { cls := 8, slots := #[.long (51)], vm := .none },
  { cls := 8, slots := #[.long (52)], vm := .none },
  { cls := 8, slots := #[.long (53)], vm := .none },
  { cls := 8, slots := #[.long (54)], vm := .none },
  { cls := 8, slots := #[.long (55)], vm := .none },
  { cls := 8, slots := #[.long (56)], vm := .none },
  { cls := 8, slots := #[.long (57)], vm := .none },
  { cls := 8, slots := #[.long (58)], vm := .none },
  { cls := 8, slots := #[.long (59)], vm := .none },
  { cls := 8, slots := #[.long (60)], vm := .none },
  { cls := 8, slots := #[.long (61)], vm := .none },
  { cls := 8, slots := #[.long (62)], vm := .none },
  { cls := 8, slots := #[.long (63)], vm := .none },
  { cls := 8, slots := #[.long (64)], vm := .none },
  { cls := 8, slots := #[.long (65)], vm := .none },
  { cls := 8, slots := #[.long (66)], vm := .none },
  { cls := 8, slots := #[.long (67)], vm := .none },
  { cls := 8, slots := #[.long (68)], vm := .none },
  { cls := 8, slots := #[.long (69)], vm := .none },
  { cls := 8, slots := #[.long (70)], vm := .none },
  { cls := 8, slots := #[.long (71)], vm := .none },
  { cls := 8, slots := #[.long (72)], vm := .none },
  { cls := 8, slots := #[.long (73)], vm := .none },
  { cls := 8, slots := #[.long (74)], vm := .none },
  { cls := 8, slots := #[.long (75)], vm := .none },
  { cls := 8, slots := #[.long (76)], vm := .none },
  { cls := 8, slots := #[.long (77)], vm := .none },
  { cls := 8, slots := #[.long (78)], vm := .none },
  { cls := 8, slots := #[.long (79)], vm := .none },
  { cls := 8, slots := #[.long (80)], vm := .none },
  { cls := 8, slots := #[.long (81)], vm := .none },
  { cls := 8, slots := #[.long (82)], vm := .none },
  { cls := 8, slots := #[.long (83)], vm := .none },
  { cls := 8, slots := #[.long (84)], vm := .none },
  { cls := 8, slots := #[.long (85)], vm := .none },
  { cls := 8, slots := #[.long (86)], vm := .none },
  { cls := 8, slots := #[.long (87)], vm := .none },
  { cls := 8, slots := #[.long (88)], vm := .none },
  { cls := 8, slots := #[.long (89)], vm := .none },
  { cls := 8, slots := #[.long (90)], vm := .none },
  { cls := 8, slots := #[.long (91)], vm := .none },
  { cls := 8, slots := #[.long (92)], vm := .none },
  { cls := 8, slots := #[.long (93)], vm := .none },
  { cls := 8, slots := #[.long (94)], vm := .none },
  { cls := 8, slots := #[.long (95)], vm := .none },
  { cls := 8, slots := #[.long (96)], vm := .none },
  { cls := 8, slots := #[.long (97)], vm := .none },
  { cls := 8, slots := #[.long (98)], vm := .none },
  { cls := 8, slots := #[.long (99)], vm := .none },
  { cls := 8, slots := #[.long (100)], vm := .none },
  { cls := 8, slots := #[.long (101)], vm := .none },
  { cls := 8, slots := #[.long (102)], vm := .none },
  { cls := 8, slots := #[.long (103)], vm := .none },
  { cls := 8, slots := #[.long (104)], vm := .none },
  { cls := 8, slots := #[.long (105)], vm := .none },
  { cls := 8, slots := #[.long (106)], vm := .none },
  { cls := 8, slots := #[.long (107)], vm := .none },
  { cls := 8, slots := #[.long (108)], vm := .none },
  { cls := 8, slots := #[.long (109)], vm := .none },
  { cls := 8, slots := #[.long (110)], vm := .none },
  { cls := 8, slots := #[.long (111)], vm := .none },
  { cls := 8, slots := #[.long (112)], vm := .none },
  { cls := 8, slots := #[.long (113)], vm := .none },
  { cls := 8, slots := #[.long (114)], vm := .none },
  { cls := 8, slots := #[.long (115)], vm := .none },
  { cls := 8, slots := #[.long (116)], vm := .none },
  { cls := 8, slots := #[.long (117)], vm := .none },
  { cls := 8, slots := #[.long (118)], vm := .none },
  { cls := 8, slots := #[.long (119)], vm := .none },
  { cls := 8, slots := #[.long (120)], vm := .none },
  { cls := 8, slots := #[.long (121)], vm := .none },
  { cls := 8, slots := #[.long (122)], vm := .none },
  { cls := 8, slots := #[.long (123)], vm := .none },
  { cls := 8, slots := #[.long (124)], vm := .none },
  { cls := 8, slots := #[.long (125)], vm := .none },
  { cls := 8, slots := #[.long (126)], vm := .none },
  { cls := 8, slots := #[.long (127)], vm := .none }]
def classes : Array Class := #[k0, k1, k2, k3, k4, k5, k6, k7, k8, k9, k10, k11, k12, k13, k14, k15]
def interned : List (Array UInt16 × Addr) := []
def slotsUsed : Nat := 515
def theMethod : MethodId := ⟨1, 1⟩
def args0 : Array Value := #[.long 5, .long 7, .long 5, .long 9, .int 8]
def aboutOver (below : List Frame) : State where
  vm := { classes := classes, interned := interned.toArray }
  heap := heap
  slotsUsed := slotsUsed
  threads := #[{ frames := .invoking theMethod args0 :: below }]
def below0 : List Frame := [.native { method := ⟨0, 0⟩, args := #[] }]
def about1 : State := aboutOver below0
def p0 : Program := .bare "" "" ""
def e0 : Env := launch0.env 0 0 0
theorem w_frames : about1.frames = Frame.invoking theMethod args0 :: below0 := rfl
set_option maxRecDepth 65536 in
theorem w_args : argsFit about1.vm theMethod args0 = true := by decide +kernel
set_option maxRecDepth 65536 in
theorem w_heap : heapFits about1 = true := by decide +kernel
set_option maxRecDepth 65536 in
theorem w_runnable : about1.curStatus? = some .runnable := by decide +kernel
set_option maxRecDepth 65536 in
theorem w_alone : about1.alone = true := by decide +kernel
set_option maxRecDepth 65536 in
theorem w_named : about1.methodNamed? x = some theMethod := by decide +kernel
set_option maxRecDepth 65536 in
theorem w_hears : about1.hears theMethod below0 = true := by decide +kernel
set_option maxRecDepth 65536 in
theorem w_ripe : about1.ripe theMethod args0 below0 = true := by decide +kernel
theorem w_running : about1.status = .running := rfl
set_option maxRecDepth 65536 in
theorem w_room : about1.hasRoom e0.platform room_1 = true :=
  launch0.hasRoom_least _ room_1 (by decide +kernel) (by decide +kernel) (by decide +kernel) (by decide +kernel) (by decide +kernel) (by decide +kernel)
theorem allAtoms_all (ts : List Jvm.Cond) (a : Array Jvm.Value) (st : Jvm.State) : (allAtoms ts).before a st = ts.all (fun c => c.before a st) := by
  induction ts with
  | nil => rfl
  | cons c t ih =>
    show (Jvm.Cond.and c (allAtoms t)).before a st = _
    rw [Jvm.Cond.before_and, ih, List.all_cons]
def words1 : List Jvm.Cond := Jvm.Cond.code x code maxLocals ret :: tables_1
/-- a 'code' word, met by the world's own term for the bytes: nothing is compared byte by byte -/
theorem code_word {y : MethodName} {bytes : ByteArray} {mx : Nat} {rt : Option FieldType} {a : Array Value} {s : State} {m : MethodId} {meth : Method} {c : Code} (h1 : s.methodNamed? y = some m) (h2 : s.vm.method? m = some meth) (h3 : meth.code = some c) (h4 : c.code = bytes)
    (h5 : (c.maxLocals == mx && c.exceptionTable.isEmpty && decide (c.maxStack ≤ mostOperands) && decide (meth.sig.returnType = rt) && !meth.locks && decide (parseMethodDescriptor y.desc = some meth.sig)) = true) : (Jvm.Cond.code y bytes mx rt).before a s = true := by
  simp only [Bool.and_eq_true, beq_iff_eq, Bool.not_eq_true', decide_eq_true_eq] at h5
  obtain ⟨⟨⟨⟨⟨g1, g2⟩, g3⟩, g4⟩, g5⟩, g6⟩ := h5
  simp [Cond.before, Cond.holds, Cond.value, h1, h2, h3, h4, g1, g2, g3, g4, g5, g6]
def isCode : Jvm.Cond → Bool
  | .code _ _ _ _ => true
  | _ => false
theorem all_split {L : List Jvm.Cond} {P : Jvm.Cond → Bool} (h1 : L.all (fun c => isCode c || P c) = true) (h2 : ∀ c ∈ L.filter isCode, P c = true) : L.all P = true := by
  refine List.all_eq_true.mpr fun c hc => ?_
  have h := List.all_eq_true.mp h1 c hc
  rcases Bool.eq_false_or_eq_true (isCode c) with hi | hi
  · exact h2 c (List.mem_filter.mpr ⟨hc, hi⟩)
  · simpa [hi] using h
set_option maxRecDepth 65536 in
theorem w_c0 : (Jvm.Cond.code x code maxLocals ret).before args0 about1 = true := code_word (m := ⟨1, 1⟩) (meth := k1m1) (c := k1c1) (by decide +kernel) rfl rfl rfl (by decide +kernel)
set_option maxRecDepth 65536 in
theorem w_c1 : (Jvm.Cond.code ({ cls := "com/example/nestor/nestor/protocol/TimestampedOffset", name := "<init>", desc := "(JJ)V" } : Jvm.MethodName) prog_28_method_1_code (5 : Nat) (Option.none : Option Jvm.ClassFile.FieldType)).before args0 about1 = true := code_word (m := ⟨2, 0⟩) (meth := k2m0) (c := k2c0) (by decide +kernel) rfl rfl rfl (by decide +kernel)
set_option maxRecDepth 65536 in
theorem w_c2 : (Jvm.Cond.code ({ cls := "java/lang/Object", name := "<init>", desc := "()V" } : Jvm.MethodName) object_method_1_code (1 : Nat) (Option.none : Option Jvm.ClassFile.FieldType)).before args0 about1 = true := code_word (m := ⟨0, 0⟩) (meth := k0m0) (c := k0c0) (by decide +kernel) rfl rfl rfl (by decide +kernel)
set_option maxRecDepth 65536 in
theorem w_c3 : (Jvm.Cond.code ({ cls := "com/example/nestor/nestor/protocol/TimestampedOffset", name := "equals", desc := "(Ljava/lang/Object;)Z" } : Jvm.MethodName) prog_28_method_4_code (3 : Nat) (Option.some Jvm.ClassFile.FieldType.boolean)).before args0 about1 = true := code_word (m := ⟨2, 1⟩) (meth := k2m1) (c := k2c1) (by decide +kernel) rfl rfl rfl (by decide +kernel)
set_option maxRecDepth 65536 in
theorem w_c4 : (Jvm.Cond.code ({ cls := "java/lang/Long", name := "valueOf", desc := "(J)Ljava/lang/Long;" } : Jvm.MethodName) jdk_35_method_24_code (3 : Nat) (Option.some (Jvm.ClassFile.FieldType.object "java/lang/Long"))).before args0 about1 = true := code_word (m := ⟨8, 0⟩) (meth := k8m0) (c := k8c0) (by decide +kernel) rfl rfl rfl (by decide +kernel)
set_option maxRecDepth 65536 in
theorem w_c5 : (Jvm.Cond.code ({ cls := "java/lang/Long", name := "<init>", desc := "(J)V" } : Jvm.MethodName) jdk_35_method_26_code (3 : Nat) (Option.none : Option Jvm.ClassFile.FieldType)).before args0 about1 = true := code_word (m := ⟨8, 1⟩) (meth := k8m1) (c := k8c1) (by decide +kernel) rfl rfl rfl (by decide +kernel)
set_option maxRecDepth 65536 in
theorem w_c6 : (Jvm.Cond.code ({ cls := "java/lang/Number", name := "<init>", desc := "()V" } : Jvm.MethodName) jdk_18_method_1_code (1 : Nat) (Option.none : Option Jvm.ClassFile.FieldType)).before args0 about1 = true := code_word (m := ⟨4, 0⟩) (meth := k4m0) (c := k4c0) (by decide +kernel) rfl rfl rfl (by decide +kernel)
def codes1 : List Jvm.Cond := [Jvm.Cond.code x code maxLocals ret, Jvm.Cond.code ({ cls := "com/example/nestor/nestor/protocol/TimestampedOffset", name := "<init>", desc := "(JJ)V" } : Jvm.MethodName) prog_28_method_1_code (5 : Nat) (Option.none : Option Jvm.ClassFile.FieldType), Jvm.Cond.code ({ cls := "java/lang/Object", name := "<init>", desc := "()V" } : Jvm.MethodName) object_method_1_code (1 : Nat) (Option.none : Option Jvm.ClassFile.FieldType), Jvm.Cond.code ({ cls := "com/example/nestor/nestor/protocol/TimestampedOffset", name := "equals", desc := "(Ljava/lang/Object;)Z" } : Jvm.MethodName) prog_28_method_4_code (3 : Nat) (Option.some Jvm.ClassFile.FieldType.boolean), Jvm.Cond.code ({ cls := "java/lang/Long", name := "valueOf", desc := "(J)Ljava/lang/Long;" } : Jvm.MethodName) jdk_35_method_24_code (3 : Nat) (Option.some (Jvm.ClassFile.FieldType.object "java/lang/Long")), Jvm.Cond.code ({ cls := "java/lang/Long", name := "<init>", desc := "(J)V" } : Jvm.MethodName) jdk_35_method_26_code (3 : Nat) (Option.none : Option Jvm.ClassFile.FieldType), Jvm.Cond.code ({ cls := "java/lang/Number", name := "<init>", desc := "()V" } : Jvm.MethodName) jdk_18_method_1_code (1 : Nat) (Option.none : Option Jvm.ClassFile.FieldType)]
set_option maxRecDepth 65536 in
theorem codes_eq : words1.filter isCode = codes1 := rfl
theorem w_codes : ∀ c ∈ words1.filter isCode, c.before args0 about1 = true := by
  rw [codes_eq]
  intro c hc
  simp only [codes1, List.mem_cons, List.not_mem_nil, or_false] at hc
  rcases hc with rfl | rfl | rfl | rfl | rfl | rfl | rfl
  · exact w_c0
  · exact w_c1
  · exact w_c2
  · exact w_c3
  · exact w_c4
  · exact w_c5
  · exact w_c6
set_option maxRecDepth 65536 in
theorem w_t1 : (words1.take 24).all (fun c => isCode c || c.before args0 about1) = true := by decide +kernel
set_option maxRecDepth 65536 in
theorem w_t2 : (words1.drop 24).all (fun c => isCode c || c.before args0 about1) = true := by decide +kernel
theorem w_tables : (allAtoms (Jvm.Cond.code x code maxLocals ret :: tables_1)).before args0 about1 = true := by
  rw [allAtoms_all]
  show words1.all (fun c => c.before args0 about1) = true
  refine all_split ?_ w_codes
  rw [← List.take_append_drop 24 words1, List.all_append, w_t1, w_t2]
  rfl
set_option maxRecDepth 65536 in
theorem w_rest : rest_1_c.before args0 about1 = true := by decide +kernel
set_option maxRecDepth 65536 in
theorem w_case : (Jvm.Cond.and given_1 narrow_1).before args0 about1 = true := by decide +kernel
theorem w_applies : (headSpec (Jvm.Cond.code x code maxLocals ret :: tables_1) room_1).applies x e0.platform about1 = true :=
  (Spec.applies_iff w_frames).mpr ⟨w_running, w_runnable, w_alone, w_named, w_hears, w_ripe, w_room, w_tables⟩
theorem atStart : AtStart classFile x code maxLocals ret World_1 tables_1 room_1 Calls_1 rest_1 Pre_1 launch0 p0 e0 about1 theMethod args0 below0 :=
  ⟨lists_1, trivial, launch0.admits_env _ _ _, launch0.least_env, fairChoices_fair.cas, fairChoices_fair.clock, w_frames, w_args, w_heap, w_applies, trivial, w_rest, w_case⟩
end start1
theorem witness_1 : WitnessClaimed_1 := ⟨start1.p0, start1.e0, start1.about1, start1.theMethod, start1.args0, start1.below0, start1.atStart⟩
end Jvm.Pilot.@@N@@
