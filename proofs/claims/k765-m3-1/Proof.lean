import JvmDerived
import JvmDerived.Pilot.@@N@@Statement
import JvmDerived.Pilot.@@N@@Code
set_option linter.unusedVariables false
set_option linter.unusedSimpArgs false
namespace Jvm.RoadKit
open Sem ClassFile Op Lib Jvm.Stand Jvm.Free Jvm.LawKit
section OwnGo
variable {p : Program} {l : Launch} {e : Env} {R : Room} {s : State} {m : MethodId} {args : Array Value} {below : List Frame} {meth : Method} {c : Code} {T U V : State} {locs : List Loc} {cells slots : Nat} {Q : Option Value → Heap → List Loc → Prop} {k n : Nat}
/-- from the state U the run ends within the frame, by a return of which Q holds -/
def Goes (p : Program) (e : Env) (below : List Frame) (s : State) (Q : Option Value → Heap → List Loc → Prop) (k n : Nat) (U : State) : Prop :=
  ∃ s₂ o, Steps p.tables e below U s₂ ∧ s₂.status = .running ∧ Ended s₂ below o ∧ ∃ v L, o = .returned v ∧ Q v s₂.heap L ∧ FrameEnd s o s₂ L k n
theorem Goes.st (st : ∀ t, Steps p.tables e below V t → Steps p.tables e below U t) (h : Goes p e below s Q k n V) : Goes p e below s Q k n U := by
  obtain ⟨s₂, o, h1, h2⟩ := h
  exact ⟨s₂, o, st _ h1, h2⟩
theorem Goes.tr (st : Steps p.tables e below U V) (h : Goes p e below s Q k n V) : Goes p e below s Q k n U := Goes.st (fun _ q => st.trans q) h
theorem Goes.cast {g g' : JFrame} (q : g = g') (h : Goes p e below s Q k n (T.setTop g')) : Goes p e below s Q k n (T.setTop g) := q ▸ h
theorem Goes.retN (X : Stand p l e R s m args below meth c T locs cells slots) (hx : p.tables.exec = Jvm.exec) {pc : Nat} {Ls : Array Slot} {z : Int32} {t : FieldType} {rest : List Value} (hret : meth.sig.returnType = some t) (hlk : meth.locks = false) (ht : t = .boolean ∨ t = .byte ∨ t = .char ∨ t = .short)
    (hd : decode c.code pc = .ok (.ireturn, 1)) (hc : cells ≤ k) (hs : slots ≤ n) (hq : Q (some (.int (nar t z))) T.heap locs) : Goes p e below s Q k n (T.setTop (mkF m pc Ls (.int z :: rest))) := by
  obtain ⟨fs, hr, hrun, hended, hW, hsame⟩ := X.leave (v := some (.int (nar t z))) (fun h => by rw [hret] at h; cases h) hlk
  exact ⟨_, _, Jvm.RoadKit.retN X hx hret ht hd hr, hrun, hended, _, _, rfl, hq, ⟨_, rfl⟩, hW, hsame.mono hc hs⟩
theorem Goes.retO (X : Stand p l e R s m args below meth c T locs cells slots) (hx : p.tables.exec = Jvm.exec) {pc : Nat} {Ls : Array Slot} {w : Value} {t : FieldType} {i : Instr} {rest : List Value} (hret : meth.sig.returnType = some t) (hlk : meth.locks = false) (hn : narrow t w = w)
    (hi : (i = .ireturn ∧ (t = .int ∨ t = .boolean ∨ t = .byte ∨ t = .char ∨ t = .short) ∧ ∃ z, w = .int z) ∨ (i = .lreturn ∧ t = .long ∧ ∃ z, w = .long z) ∨ (i = .dreturn ∧ t = .double ∧ ∃ z, w = .double z) ∨ (i = .freturn ∧ t = .float ∧ ∃ z, w = .float z) ∨ (i = .areturn ∧ t.isReference = true ∧ w.isRef = true))
    (hd : decode c.code pc = .ok (i, 1)) (hc : cells ≤ k) (hs : slots ≤ n) (hq : Q (some w) T.heap locs) : Goes p e below s Q k n (T.setTop (mkF m pc Ls (w :: rest))) := by
  obtain ⟨fs, hr, hrun, hended, hW, hsame⟩ := X.leave (v := some w) (fun h => by rw [hret] at h; cases h) hlk
  exact ⟨_, _, Jvm.RoadKit.retOut X hx hret hn hi hd hr, hrun, hended, _, _, rfl, hq, ⟨_, rfl⟩, hW, hsame.mono hc hs⟩
theorem Goes.ret0 (X : Stand p l e R s m args below meth c T locs cells slots) (hx : p.tables.exec = Jvm.exec) {pc : Nat} {Ls : Array Slot} (hret : meth.sig.returnType = none) (hlk : meth.locks = false)
    (hd : decode c.code pc = .ok (.return_, 1)) (hc : cells ≤ k) (hs : slots ≤ n) (hq : Q none T.heap locs) : Goes p e below s Q k n (T.setTop (mkF m pc Ls [])) := by
  obtain ⟨fs, hr, hrun, hended, hW, hsame⟩ := X.leave (v := none) (fun _ => rfl) hlk
  exact ⟨_, _, X.returnOut hx hret hd hr, hrun, hended, _, _, rfl, hq, ⟨_, rfl⟩, hW, hsame.mono hc hs⟩
end OwnGo
end Jvm.RoadKit
namespace Jvm.Pilot.@@N@@
open Jvm Jvm.ClassFile Sem Op Lib Jvm.Free Jvm.Stand Jvm.LawKit Jvm.RoadKit Bundle Jvm.Pilot.@@N@@.Jvm.D
theorem own_selp {Z s : State} {a0 args : Array Value} {y : MethodName} {n : Nat} (hZ : Z.Warmed39 s.vm) (wi : (Jvm.Cond.instantiable y.cls n).before a0 Z = true) (wm : (Jvm.Cond.instanceMethod y).before a0 Z = true) (wp : (Jvm.Cond.privateMethod y).before a0 Z = true) (hy : y.cls ≠ "java/lang/invoke/MethodHandle" ∧ y.cls ≠ "java/lang/invoke/VarHandle") : (Jvm.Cond.selects y.cls y y).before args s = true := by
  obtain ⟨c, k, h1, h2, h3, h4, -⟩ := Cond.instantiable_spec (mvT hZ wi (args := args))
  have h5 : k.isInterface = false := by cases hi : k.isInterface <;> simp [hi] at h4 ⊢
  exact selects_self_of_private h1 h2 h5 (Cond.privateMethod_at (mvP hZ wp (args := args))) (mvT hZ wm) hy
def own_bI (b : Bool) : Int32 := bif b then 1 else 0
theorem own_cat {v : Value} (h : v.isRef = true) : v.category = 1 := by cases v <;> simp [Value.isRef, Value.category] at h ⊢
theorem own_feq {args : Array Value} {s : State} {t u : Term} {C n d : String} {a w : Addr} (h : (Jvm.Cond.eq (.field t C n d) u).value args s none s [] = some true) (ht : t.eval args s none [] s = some (.ref a)) (hu : u.eval args s none [] s = some (.ref w)) : Fld s s.heap a C n d (.ref w) := by
  obtain ⟨x, y, e1, e2, k1, k2⟩ := cmp_v (Or.inl h)
  cases hu.symm.trans e2
  have hx : x.isRef = true := k2.2
  have q := gotT (eq_R e1 hu hx rfl) h
  subst q
  rw [fld_at ht] at e1
  exact Fld.start e1
theorem own_oeq {args : Array Value} {s : State} {t : Term} {C n d : String} {a : Addr} {k : Int32} (h : (Jvm.Cond.eq (.field t C n d) (.int k)).value args s none s [] = some true) (ht : t.eval args s none [] s = some (.ref a)) : Fld s s.heap a C n d (.int k) := by
  obtain ⟨x, y, e1, e2, k1, k2⟩ := cmp_v (Or.inl h)
  cases (Term.int_eval k).symm.trans e2
  obtain ⟨z, rfl⟩ := k2
  have q : z = k := by simpa [Jvm.Cond.value, e1, e2] using h
  subst q
  rw [fld_at ht] at e1
  exact Fld.start e1
def own_QB (Z : State) (b : Bool) (h0 : Heap) (n0 : Nat) (v : Option Value) (h : Heap) (L : List Loc) : Prop := v = some (.int (own_bI b)) ∧ Fr n0 L ∧ h = h0
def own_Q0 (Z : State) (h0 : Heap) (n0 : Nat) (v : Option Value) (h : Heap) (L : List Loc) : Prop := v = some (.int 1) ∧ Fr n0 L
theorem own_d_prog_2_7_0 : decode prog_2_method_7_code 0 = .ok (.aload_n 0, 1) := by decide +kernel
theorem own_d_prog_2_7_1 : decode prog_2_method_7_code 1 = .ok (.getfield 39, 3) := by decide +kernel
theorem own_d_prog_2_7_4 : decode prog_2_method_7_code 4 = .ok (.getstatic 82, 3) := by decide +kernel
theorem own_d_prog_2_7_7 : decode prog_2_method_7_code 7 = .ok (.if_acmp .ne 7, 3) := by decide +kernel
theorem own_d_prog_2_7_10 : decode prog_2_method_7_code 10 = .ok (.iconst 1, 1) := by decide +kernel
theorem own_d_prog_2_7_11 : decode prog_2_method_7_code 11 = .ok (.goto 4, 3) := by decide +kernel
theorem own_d_prog_2_7_15 : decode prog_2_method_7_code 15 = .ok (.ireturn, 1) := by decide +kernel
theorem own_d_prog_2_7_14 : decode prog_2_method_7_code 14 = .ok (.iconst 0, 1) := by decide +kernel
theorem own_pn8 : plainName "com/example/torniquete/torniquete/auth/AuthMethod" = true := by first | (simp [plainName, overriddenIn]; done) | decide +kernel
theorem own_d_prog_2_8_0 : decode prog_2_method_8_code 0 = .ok (.aload_n 0, 1) := by decide +kernel
theorem own_d_prog_2_8_1 : decode prog_2_method_8_code 1 = .ok (.getfield 39, 3) := by decide +kernel
theorem own_d_prog_2_8_4 : decode prog_2_method_8_code 4 = .ok (.getstatic 87, 3) := by decide +kernel
theorem own_d_prog_2_8_7 : decode prog_2_method_8_code 7 = .ok (.if_acmp .ne 7, 3) := by decide +kernel
theorem own_d_prog_2_8_10 : decode prog_2_method_8_code 10 = .ok (.iconst 1, 1) := by decide +kernel
theorem own_d_prog_2_8_11 : decode prog_2_method_8_code 11 = .ok (.goto 4, 3) := by decide +kernel
theorem own_d_prog_2_8_15 : decode prog_2_method_8_code 15 = .ok (.ireturn, 1) := by decide +kernel
theorem own_d_prog_2_8_14 : decode prog_2_method_8_code 14 = .ok (.iconst 0, 1) := by decide +kernel
theorem own_pd17 : parseMethodDescriptor "()Z" = some ⟨[], some .boolean⟩ := by decide +kernel
theorem own_pn18 : plainName "com/example/torniquete/torniquete/auth/AuthMethodNeedsUsersPinLaw" = true := by first | (simp [plainName, overriddenIn]; done) | decide +kernel
theorem own_rmU_ef (m : MethodId) (a1 : Addr) : entryFrame m #[(.ref a1)] 1 = mkF m 0 #[.val (.ref a1)] [] := by first | (simp [entryFrame, mkF, argsToLocals, Value.category]; done) | rfl
set_option maxRecDepth 65536 in
set_option maxHeartbeats 40000000 in
theorem own_rmU (l : Launch) (Z : State) (a0 : Array Value) (hw : ∀ d ∈ tables_1, d.before a0 Z = true) (ws : List Jvm.Cond) (a1 w2 w4 : Addr) (b : Bool) (h0 : Heap) (n0 : Nat) (Z0 : n0 ≤ h0.size) (F1 : Fld Z h0 a1 "com/example/torniquete/torniquete/auth/AuthMethod" "registers" "Lcom/example/torniquete/torniquete/auth/AuthMethod$Registers;" (.ref w2)) (S1 : Sta Z h0 "com/example/torniquete/torniquete/auth/AuthMethod$Registers" "USERS" "Lcom/example/torniquete/torniquete/auth/AuthMethod$Registers;" (.ref w4)) (hb1 : decide (w2 = w4) = b) :
    MetFree l (⟨"com/example/torniquete/torniquete/auth/AuthMethod", "needsUsers", "()Z"⟩ : MethodName) (head1 (Jvm.Cond.code (⟨"com/example/torniquete/torniquete/auth/AuthMethod", "needsUsers", "()Z"⟩ : MethodName) prog_2_method_7_code 1 (some .boolean) :: ws) ({ frames := 0, cells := 0, slots := 0, locals := 0 } : Room)) (fun aa_ U => aa_ = #[(.ref a1)] ∧ Z.Warmed39 U.vm ∧ U.heap = h0) (fun _ _ _ _ _ => True) (fun _ U oo_ U' => ∃ vv_ LL_, oo_ = .returned vv_ ∧ own_QB Z b h0 n0 vv_ U'.heap LL_ ∧ FrameEnd U oo_ U' LL_ ({ frames := 0, cells := 0, slots := 0, locals := 0 } : Room).cells ({ frames := 0, cells := 0, slots := 0, locals := 0 } : Room).slots) := by
  refine MetFree.of_bodySF (plainFor_of_name own_pn8) hisR ?_
  intro p e s m args below meth c s₁ Bd hml0 hP hK
  obtain ⟨rfl, hZ, hh⟩ := hP
  have hx := Bd.exec
  have hby := Bd.bytes
  have hml : c.maxLocals = 1 := hml0
  have hown : s.vm.findClass "com/example/torniquete/torniquete/auth/AuthMethod" = some m.cls := findClass_of_methodNamed Bd.named
  have hnm := (name_of_methodNamed Bd.named Bd.method).1
  have hlk := Bd.notSynchronized
  have hret := Bd.returns
  have X0 : Stand p l e ({ frames := 0, cells := 0, slots := 0, locals := 0 } : Room) s m #[(.ref a1)] below meth c s₁ [] 0 0 := Stand.of_body Bd
  have e0 : s₁.heap = h0 := by rw [← hh, Bd.state]; rfl
  have N0 := Fr.nil n0
  show Goes p e below s (own_QB Z b h0 n0) ({ frames := 0, cells := 0, slots := 0, locals := 0 } : Room).cells ({ frames := 0, cells := 0, slots := 0, locals := 0 } : Room).slots _
  refine Goes.cast (own_rmU_ef m a1) ?_
  show Goes p e below s _ _ _ (s₁.setTop (mkF m 0 #[.val (.ref a1)] []))
  refine Goes.st (fun t k => XS.aloadN X0.here hx rfl (hb hby own_d_prog_2_7_0) rfl rfl k) ?_
  show Goes p e below s _ _ _ (s₁.setTop (mkF m 1 #[.val (.ref a1)] [(.ref a1)]))
  obtain ⟨T1, X1, e1, st1⟩ := getF X0 hx hZ hown (host := "") (Or.inl (hw _ (List.mem_of_getElem? (i := 8) rfl))) Via.refl e0 F1 (g := (mkF m 1 #[.val (.ref a1)] [(.ref a1)])) rfl rfl (hb hby own_d_prog_2_7_1)
  refine Goes.st st1 ?_
  show Goes p e below s _ _ _ (T1.setTop (mkF m 4 #[.val (.ref a1)] [(.ref w2)]))
  obtain ⟨T2, X2, e2, st2⟩ := getS2 X1 hx hZ hown (host := "") (Or.inl (hw _ (List.mem_of_getElem? (i := 12) rfl))) Via.refl e1 S1 (g := (mkF m 4 #[.val (.ref a1)] [(.ref w2)])) rfl (hb hby own_d_prog_2_7_4)
  refine Goes.st st2 ?_
  show Goes p e below s _ _ _ (T2.setTop (mkF m 7 #[.val (.ref a1)] [(.ref w4), (.ref w2)]))
  by_cases hc : w2 = w4
  · refine Goes.st (fun t k => Jvm.RoadKit.acmp (g := (mkF m 7 #[.val (.ref a1)] [(.ref w4), (.ref w2)])) X2 hx rfl rfl rfl (pc0 := 7) (pc' := 10) (same := true) rfl (hb hby own_d_prog_2_7_7) rfl (decide_eq_true (congrArg Value.ref hc)) (by decide) (by decide) k) ?_
    have hb2 : b = true := by rw [← hb1]; exact decide_eq_true hc
    show Goes p e below s _ _ _ (T2.setTop (mkF m 10 #[.val (.ref a1)] []))
    refine Goes.st (fun t k => XS.iconst X2.here hx rfl (hb hby own_d_prog_2_7_10) k) ?_
    show Goes p e below s _ _ _ (T2.setTop (mkF m 11 #[.val (.ref a1)] [(.int (1 : Int32))]))
    refine Goes.st (fun t k => XS.goto X2.here hx rfl (pc0 := 11) (pc' := 15) rfl (hb hby own_d_prog_2_7_11) (by decide) (by decide) k) ?_
    show Goes p e below s _ _ _ (T2.setTop (mkF m 15 #[.val (.ref a1)] [(.int (1 : Int32))]))
    exact Goes.retN X2 hx (t := .boolean) hret hlk (by simp) (hb hby own_d_prog_2_7_15) (by decide) (by decide) (⟨by rw [hb2]; rfl, N0, e2⟩)
  · refine Goes.st (fun t k => Jvm.RoadKit.acmp (g := (mkF m 7 #[.val (.ref a1)] [(.ref w4), (.ref w2)])) X2 hx rfl rfl rfl (pc0 := 7) (pc' := 14) (same := false) rfl (hb hby own_d_prog_2_7_7) rfl (decide_eq_false fun q => hc (Value.ref.inj q)) (by decide) (by decide) k) ?_
    have hb2 : b = false := by rw [← hb1]; exact decide_eq_false hc
    show Goes p e below s _ _ _ (T2.setTop (mkF m 14 #[.val (.ref a1)] []))
    refine Goes.st (fun t k => XS.iconst X2.here hx rfl (hb hby own_d_prog_2_7_14) k) ?_
    show Goes p e below s _ _ _ (T2.setTop (mkF m 15 #[.val (.ref a1)] [(.int (0 : Int32))]))
    exact Goes.retN X2 hx (t := .boolean) hret hlk (by simp) (hb hby own_d_prog_2_7_15) (by decide) (by decide) (⟨by rw [hb2]; rfl, N0, e2⟩)
theorem own_rmC_ef (m : MethodId) (a1 : Addr) : entryFrame m #[(.ref a1)] 1 = mkF m 0 #[.val (.ref a1)] [] := by first | (simp [entryFrame, mkF, argsToLocals, Value.category]; done) | rfl
set_option maxRecDepth 65536 in
set_option maxHeartbeats 40000000 in
theorem own_rmC (l : Launch) (Z : State) (a0 : Array Value) (hw : ∀ d ∈ tables_1, d.before a0 Z = true) (ws : List Jvm.Cond) (a1 w2 w4 : Addr) (b : Bool) (h0 : Heap) (n0 : Nat) (Z0 : n0 ≤ h0.size) (F1 : Fld Z h0 a1 "com/example/torniquete/torniquete/auth/AuthMethod" "registers" "Lcom/example/torniquete/torniquete/auth/AuthMethod$Registers;" (.ref w2)) (S1 : Sta Z h0 "com/example/torniquete/torniquete/auth/AuthMethod$Registers" "CERTIFICATES" "Lcom/example/torniquete/torniquete/auth/AuthMethod$Registers;" (.ref w4)) (hb1 : decide (w2 = w4) = b) :
    MetFree l (⟨"com/example/torniquete/torniquete/auth/AuthMethod", "needsCertificates", "()Z"⟩ : MethodName) (head1 (Jvm.Cond.code (⟨"com/example/torniquete/torniquete/auth/AuthMethod", "needsCertificates", "()Z"⟩ : MethodName) prog_2_method_8_code 1 (some .boolean) :: ws) ({ frames := 0, cells := 0, slots := 0, locals := 0 } : Room)) (fun aa_ U => aa_ = #[(.ref a1)] ∧ Z.Warmed39 U.vm ∧ U.heap = h0) (fun _ _ _ _ _ => True) (fun _ U oo_ U' => ∃ vv_ LL_, oo_ = .returned vv_ ∧ own_QB Z b h0 n0 vv_ U'.heap LL_ ∧ FrameEnd U oo_ U' LL_ ({ frames := 0, cells := 0, slots := 0, locals := 0 } : Room).cells ({ frames := 0, cells := 0, slots := 0, locals := 0 } : Room).slots) := by
  refine MetFree.of_bodySF (plainFor_of_name own_pn8) hisR ?_
  intro p e s m args below meth c s₁ Bd hml0 hP hK
  obtain ⟨rfl, hZ, hh⟩ := hP
  have hx := Bd.exec
  have hby := Bd.bytes
  have hml : c.maxLocals = 1 := hml0
  have hown : s.vm.findClass "com/example/torniquete/torniquete/auth/AuthMethod" = some m.cls := findClass_of_methodNamed Bd.named
  have hnm := (name_of_methodNamed Bd.named Bd.method).1
  have hlk := Bd.notSynchronized
  have hret := Bd.returns
  have X0 : Stand p l e ({ frames := 0, cells := 0, slots := 0, locals := 0 } : Room) s m #[(.ref a1)] below meth c s₁ [] 0 0 := Stand.of_body Bd
  have e0 : s₁.heap = h0 := by rw [← hh, Bd.state]; rfl
  have N0 := Fr.nil n0
  show Goes p e below s (own_QB Z b h0 n0) ({ frames := 0, cells := 0, slots := 0, locals := 0 } : Room).cells ({ frames := 0, cells := 0, slots := 0, locals := 0 } : Room).slots _
  refine Goes.cast (own_rmC_ef m a1) ?_
  show Goes p e below s _ _ _ (s₁.setTop (mkF m 0 #[.val (.ref a1)] []))
  refine Goes.st (fun t k => XS.aloadN X0.here hx rfl (hb hby own_d_prog_2_8_0) rfl rfl k) ?_
  show Goes p e below s _ _ _ (s₁.setTop (mkF m 1 #[.val (.ref a1)] [(.ref a1)]))
  obtain ⟨T3, X3, e3, st3⟩ := getF X0 hx hZ hown (host := "") (Or.inl (hw _ (List.mem_of_getElem? (i := 8) rfl))) Via.refl e0 F1 (g := (mkF m 1 #[.val (.ref a1)] [(.ref a1)])) rfl rfl (hb hby own_d_prog_2_8_1)
  refine Goes.st st3 ?_
  show Goes p e below s _ _ _ (T3.setTop (mkF m 4 #[.val (.ref a1)] [(.ref w2)]))
  obtain ⟨T4, X4, e4, st4⟩ := getS2 X3 hx hZ hown (host := "") (Or.inl (hw _ (List.mem_of_getElem? (i := 18) rfl))) Via.refl e3 S1 (g := (mkF m 4 #[.val (.ref a1)] [(.ref w2)])) rfl (hb hby own_d_prog_2_8_4)
  refine Goes.st st4 ?_
  show Goes p e below s _ _ _ (T4.setTop (mkF m 7 #[.val (.ref a1)] [(.ref w4), (.ref w2)]))
  by_cases hc : w2 = w4
  · refine Goes.st (fun t k => Jvm.RoadKit.acmp (g := (mkF m 7 #[.val (.ref a1)] [(.ref w4), (.ref w2)])) X4 hx rfl rfl rfl (pc0 := 7) (pc' := 10) (same := true) rfl (hb hby own_d_prog_2_8_7) rfl (decide_eq_true (congrArg Value.ref hc)) (by decide) (by decide) k) ?_
    have hb2 : b = true := by rw [← hb1]; exact decide_eq_true hc
    show Goes p e below s _ _ _ (T4.setTop (mkF m 10 #[.val (.ref a1)] []))
    refine Goes.st (fun t k => XS.iconst X4.here hx rfl (hb hby own_d_prog_2_8_10) k) ?_
    show Goes p e below s _ _ _ (T4.setTop (mkF m 11 #[.val (.ref a1)] [(.int (1 : Int32))]))
    refine Goes.st (fun t k => XS.goto X4.here hx rfl (pc0 := 11) (pc' := 15) rfl (hb hby own_d_prog_2_8_11) (by decide) (by decide) k) ?_
    show Goes p e below s _ _ _ (T4.setTop (mkF m 15 #[.val (.ref a1)] [(.int (1 : Int32))]))
    exact Goes.retN X4 hx (t := .boolean) hret hlk (by simp) (hb hby own_d_prog_2_8_15) (by decide) (by decide) (⟨by rw [hb2]; rfl, N0, e4⟩)
  · refine Goes.st (fun t k => Jvm.RoadKit.acmp (g := (mkF m 7 #[.val (.ref a1)] [(.ref w4), (.ref w2)])) X4 hx rfl rfl rfl (pc0 := 7) (pc' := 14) (same := false) rfl (hb hby own_d_prog_2_8_7) rfl (decide_eq_false fun q => hc (Value.ref.inj q)) (by decide) (by decide) k) ?_
    have hb2 : b = false := by rw [← hb1]; exact decide_eq_false hc
    show Goes p e below s _ _ _ (T4.setTop (mkF m 14 #[.val (.ref a1)] []))
    refine Goes.st (fun t k => XS.iconst X4.here hx rfl (hb hby own_d_prog_2_8_14) k) ?_
    show Goes p e below s _ _ _ (T4.setTop (mkF m 15 #[.val (.ref a1)] [(.int (0 : Int32))]))
    exact Goes.retN X4 hx (t := .boolean) hret hlk (by simp) (hb hby own_d_prog_2_8_15) (by decide) (by decide) (⟨by rw [hb2]; rfl, N0, e4⟩)
theorem own_rm0_ef (m : MethodId) (p0 : Int32) : entryFrame m #[(.int p0)] maxLocals = mkF m 0 #[.val (.int p0), .unset, .unset, .unset, .unset] [] := by first | (simp [entryFrame, mkF, argsToLocals, Value.category, maxLocals]; done) | rfl
set_option maxRecDepth 65536 in
set_option maxHeartbeats 40000000 in
theorem own_rm0 (l : Launch) (Z : State) (a0 : Array Value) (hw : ∀ d ∈ tables_1, d.before a0 Z = true) (ws : List Jvm.Cond) (p0 : Int32) (a0_ a1 a2 a3 wU wC wN : Addr) (h0 : Heap) (n0 : Nat) (Z0 : n0 ≤ h0.size) (S0 : Sta Z h0 "com/example/torniquete/torniquete/auth/AuthMethod" "DIGEST" "Lcom/example/torniquete/torniquete/auth/AuthMethod;" (.ref a0_)) (E0 : Exa Z h0 a0_ "com/example/torniquete/torniquete/auth/AuthMethod") (F0 : Fld Z h0 a0_ "com/example/torniquete/torniquete/auth/AuthMethod" "registers" "Lcom/example/torniquete/torniquete/auth/AuthMethod$Registers;" (.ref wU)) (S1 : Sta Z h0 "com/example/torniquete/torniquete/auth/AuthMethod" "CLEAR" "Lcom/example/torniquete/torniquete/auth/AuthMethod;" (.ref a1)) (E1 : Exa Z h0 a1 "com/example/torniquete/torniquete/auth/AuthMethod") (F1 : Fld Z h0 a1 "com/example/torniquete/torniquete/auth/AuthMethod" "registers" "Lcom/example/torniquete/torniquete/auth/AuthMethod$Registers;" (.ref wU)) (S2 : Sta Z h0 "com/example/torniquete/torniquete/auth/AuthMethod" "CERTIFICATE" "Lcom/example/torniquete/torniquete/auth/AuthMethod;" (.ref a2)) (E2 : Exa Z h0 a2 "com/example/torniquete/torniquete/auth/AuthMethod") (F2 : Fld Z h0 a2 "com/example/torniquete/torniquete/auth/AuthMethod" "registers" "Lcom/example/torniquete/torniquete/auth/AuthMethod$Registers;" (.ref wC)) (S3 : Sta Z h0 "com/example/torniquete/torniquete/auth/AuthMethod" "NONE" "Lcom/example/torniquete/torniquete/auth/AuthMethod;" (.ref a3)) (E3 : Exa Z h0 a3 "com/example/torniquete/torniquete/auth/AuthMethod") (F3 : Fld Z h0 a3 "com/example/torniquete/torniquete/auth/AuthMethod" "registers" "Lcom/example/torniquete/torniquete/auth/AuthMethod$Registers;" (.ref wN)) (SU : Sta Z h0 "com/example/torniquete/torniquete/auth/AuthMethod$Registers" "USERS" "Lcom/example/torniquete/torniquete/auth/AuthMethod$Registers;" (.ref wU)) (SC : Sta Z h0 "com/example/torniquete/torniquete/auth/AuthMethod$Registers" "CERTIFICATES" "Lcom/example/torniquete/torniquete/auth/AuthMethod$Registers;" (.ref wC)) (nUC : wU ≠ wC) (nUN : wU ≠ wN) (nCN : wC ≠ wN) :
    MetFree l x (head1 (Jvm.Cond.code x code maxLocals ret :: ws) room_1) (fun aa_ U => aa_ = #[(.int p0)] ∧ Z.Warmed39 U.vm ∧ U.heap = h0) (fun _ _ _ _ _ => True) (fun _ U oo_ U' => ∃ vv_ LL_, oo_ = .returned vv_ ∧ own_Q0 Z  h0 n0 vv_ U'.heap LL_ ∧ FrameEnd U oo_ U' LL_ 0 0) := by
  refine MetFree.of_bodySF (plainFor_of_name own_pn18) hisR ?_
  intro p e s m args below meth c s₁ Bd hml0 hP hK
  obtain ⟨rfl, hZ, hh⟩ := hP
  have hx := Bd.exec
  have hby := Bd.bytes
  have hml : c.maxLocals = 5 := hml0
  have hown : s.vm.findClass "com/example/torniquete/torniquete/auth/AuthMethodNeedsUsersPinLaw" = some m.cls := findClass_of_methodNamed Bd.named
  have hnm := (name_of_methodNamed Bd.named Bd.method).1
  have hlk := Bd.notSynchronized
  have hret := Bd.returns
  have X0 : Stand p l e room_1 s m #[(.int p0)] below meth c s₁ [] 0 0 := Stand.of_body Bd
  have e0 : s₁.heap = h0 := by rw [← hh, Bd.state]; rfl
  have N0 := Fr.nil n0
  show Goes p e below s (own_Q0 Z  h0 n0) (0) (0) _
  refine Goes.cast (own_rm0_ef m p0) ?_
  show Goes p e below s _ _ _ (s₁.setTop (mkF m 0 #[.val (.int p0), .unset, .unset, .unset, .unset] []))
  refine Goes.st (fun t k => XS.iloadN X0.here hx rfl (hb hby at_0) rfl  k) ?_
  show Goes p e below s _ _ _ (s₁.setTop (mkF m 1 #[.val (.int p0), .unset, .unset, .unset, .unset] [(.int p0)]))
  refine Goes.st (fun t k => XS.iconst X0.here hx rfl (hb hby at_1) k) ?_
  show Goes p e below s _ _ _ (s₁.setTop (mkF m 2 #[.val (.int p0), .unset, .unset, .unset, .unset] [(.int (3 : Int32)), (.int p0)]))
  refine Goes.st (fun t k => XS.iand X0.here hx rfl (hb hby at_2) rfl k) ?_
  show Goes p e below s _ _ _ (s₁.setTop (mkF m 3 #[.val (.int p0), .unset, .unset, .unset, .unset] [(.int (p0 &&& (3 : Int32)))]))
  refine Goes.st (fun t k => XS.istoreN X0.here hx rfl (hb hby at_3) rfl  (l' := #[.val (.int p0), .val (.int (p0 &&& (3 : Int32))), .unset, .unset, .unset]) rfl k) ?_
  show Goes p e below s _ _ _ (s₁.setTop (mkF m 4 #[.val (.int p0), .val (.int (p0 &&& (3 : Int32))), .unset, .unset, .unset] []))
  refine Goes.st (fun t k => XS.iloadN X0.here hx rfl (hb hby at_4) rfl  k) ?_
  show Goes p e below s _ _ _ (s₁.setTop (mkF m 5 #[.val (.int p0), .val (.int (p0 &&& (3 : Int32))), .unset, .unset, .unset] [(.int (p0 &&& (3 : Int32)))]))
  have hj : ∀ (T : State) (X : Stand p l e room_1 s m #[(.int p0)] below meth c T [] 0 0) (eT : T.heap = h0) (a w : Addr) (bu bc : Bool) (Ea : Exa Z h0 a "com/example/torniquete/torniquete/auth/AuthMethod") (Fa : Fld Z h0 a "com/example/torniquete/torniquete/auth/AuthMethod" "registers" "Lcom/example/torniquete/torniquete/auth/AuthMethod$Registers;" (.ref w)) (hu : decide (w = wU) = bu) (hc : decide (w = wC) = bc) (hh : bu = true → bc = false), Goes p e below s (own_Q0 Z h0 n0) 0 0 (T.setTop (mkF m 51 #[.val (.int p0), .val (.int (p0 &&& (3 : Int32))), .val (.ref a), .val (.int (own_bI bu)), .unset] [])) := by
    intro T X eT a w bu bc Ea Fa hu hc hh
    show Goes p e below s _ _ _ (T.setTop (mkF m 51 #[.val (.int p0), .val (.int (p0 &&& (3 : Int32))), .val (.ref a), .val (.int (own_bI bu)), .unset] []))
    refine Goes.st (fun t k => XS.aloadN X.here hx rfl (hb hby at_51) rfl rfl k) ?_
    show Goes p e below s _ _ _ (T.setTop (mkF m 52 #[.val (.int p0), .val (.int (p0 &&& (3 : Int32))), .val (.ref a), .val (.int (own_bI bu)), .unset] [(.ref a)]))
    obtain ⟨cq5, kq5, q5a, q5b, q5c⟩ := isOf hZ eT Ea
    obtain ⟨_, _, ⟨T5, L5, k5, n5⟩, -, X5, ⟨Lc5, hQ5, l5, y5, z5⟩, st5⟩ := X.virtualBack hx (y := (⟨"com/example/torniquete/torniquete/auth/AuthMethod", "needsUsers", "()Z"⟩ : MethodName)) (z := (⟨"com/example/torniquete/torniquete/auth/AuthMethod", "needsUsers", "()Z"⟩ : MethodName)) hown (mvT hZ (hw _ (List.mem_of_getElem? (i := 3) rfl))) (mvT hZ (hw _ (List.mem_of_getElem? (i := 4) rfl))) (notFace_of_selects (args := #[]) (mvT hZ (hw _ (List.mem_of_getElem? (i := 6) rfl)))) (mvT hZ (hw _ (List.mem_of_getElem? (i := 6) rfl))) (mvT hZ (hw _ (List.mem_of_getElem? (i := 5) rfl))) (by decide) (backOf (W := 0) (own_rmU l Z a0 hw [] a w wU bu h0 n0 Z0 Fa SU hu) hZ (hw _ (List.mem_of_getElem? (i := 7) rfl)) (hw _ (List.mem_of_getElem? (i := 1) rfl)) (by decide) (by decide)) q5a q5c (g := (mkF m 52 #[.val (.int p0), .val (.int (p0 &&& (3 : Int32))), .val (.ref a), .val (.int (own_bI bu)), .unset] [(.ref a)])) rfl (by rw [hml]; rfl) (Steps.refl _) (argsL := []) (rest := []) (lenOf own_pd17 rfl) rfl (by show 2 * 0 + _ ≤ _; exact Nat.le_of_eq rfl) (hb hby at_52) (fun _ _ => ⟨rfl, eT, (by decide : 0 + 0 ≤ _), (by decide : 0 + 0 ≤ _)⟩)
    dsimp only [Pt.U, Pt.locs, Pt.cells, Pt.slots] at X5 l5 y5 z5 st5 hQ5
    subst l5 y5 z5
    obtain ⟨rfl, N5q, EQ1⟩ := hQ5
    have N5 := Fr.app N0 N5q
    refine Goes.tr st5 ?_
    show Goes p e below s _ _ _ (T5.setTop (mkF m 55 #[.val (.int p0), .val (.int (p0 &&& (3 : Int32))), .val (.ref a), .val (.int (own_bI bu)), .unset] [(.int (own_bI bu))]))
    refine Goes.st (fun t k => XS.istore X5.here hx rfl (hb hby at_55) rfl  (l' := #[.val (.int p0), .val (.int (p0 &&& (3 : Int32))), .val (.ref a), .val (.int (own_bI bu)), .val (.int (own_bI bu))]) rfl k) ?_
    show Goes p e below s _ _ _ (T5.setTop (mkF m 57 #[.val (.int p0), .val (.int (p0 &&& (3 : Int32))), .val (.ref a), .val (.int (own_bI bu)), .val (.int (own_bI bu))] []))
    refine Goes.st (fun t k => XS.iload X5.here hx rfl (hb hby at_57) rfl  k) ?_
    show Goes p e below s _ _ _ (T5.setTop (mkF m 59 #[.val (.int p0), .val (.int (p0 &&& (3 : Int32))), .val (.ref a), .val (.int (own_bI bu)), .val (.int (own_bI bu))] [(.int (own_bI bu))]))
    refine Goes.st (fun t k => XS.iloadN X5.here hx rfl (hb hby at_59) rfl  k) ?_
    show Goes p e below s _ _ _ (T5.setTop (mkF m 60 #[.val (.int p0), .val (.int (p0 &&& (3 : Int32))), .val (.ref a), .val (.int (own_bI bu)), .val (.int (own_bI bu))] [(.int (own_bI bu)), (.int (own_bI bu))]))
    refine Goes.st (fun t k => XS.icmpYes X5.here hx rfl (pc0 := 60) (pc' := 65) rfl (hb hby at_60) rfl (teq (rfl : own_bI bu = own_bI bu)).1 (by decide) (by decide) k) ?_
    show Goes p e below s _ _ _ (T5.setTop (mkF m 65 #[.val (.int p0), .val (.int (p0 &&& (3 : Int32))), .val (.ref a), .val (.int (own_bI bu)), .val (.int (own_bI bu))] []))
    refine Goes.st (fun t k => XS.iload X5.here hx rfl (hb hby at_65) rfl  k) ?_
    show Goes p e below s _ _ _ (T5.setTop (mkF m 67 #[.val (.int p0), .val (.int (p0 &&& (3 : Int32))), .val (.ref a), .val (.int (own_bI bu)), .val (.int (own_bI bu))] [(.int (own_bI bu))]))
    cases bu
    · refine Goes.st (fun t k => XS.ifYes X5.here hx rfl (pc0 := 67) (pc' := 79) rfl (hb hby at_67) rfl ((if0 _ _).trans (teq (rfl : own_bI false = 0)).1) (by decide) (by decide) k) ?_
      show Goes p e below s _ _ _ (T5.setTop (mkF m 79 #[.val (.int p0), .val (.int (p0 &&& (3 : Int32))), .val (.ref a), .val (.int (own_bI false)), .val (.int (own_bI false))] []))
      refine Goes.st (fun t k => XS.iconst X5.here hx rfl (hb hby at_79) k) ?_
      show Goes p e below s _ _ _ (T5.setTop (mkF m 80 #[.val (.int p0), .val (.int (p0 &&& (3 : Int32))), .val (.ref a), .val (.int (own_bI false)), .val (.int (own_bI false))] [(.int (1 : Int32))]))
      exact Goes.retN X5 hx (t := .boolean) hret hlk (by simp) (hb hby at_80) (by decide) (by decide) (⟨rfl, N5⟩)
    · refine Goes.st (fun t k => XS.ifNo X5.here hx rfl (hb hby at_67) rfl ((if0 _ _).trans (feq (by decide : ¬ own_bI true = 0)).1) k) ?_
      show Goes p e below s _ _ _ (T5.setTop (mkF m 70 #[.val (.int p0), .val (.int (p0 &&& (3 : Int32))), .val (.ref a), .val (.int (own_bI true)), .val (.int (own_bI true))] []))
      refine Goes.st (fun t k => XS.aloadN X5.here hx rfl (hb hby at_70) rfl rfl k) ?_
      show Goes p e below s _ _ _ (T5.setTop (mkF m 71 #[.val (.int p0), .val (.int (p0 &&& (3 : Int32))), .val (.ref a), .val (.int (own_bI true)), .val (.int (own_bI true))] [(.ref a)]))
      obtain rfl := hh rfl
      obtain ⟨cq6, kq6, q6a, q6b, q6c⟩ := isOf hZ EQ1 Ea
      obtain ⟨_, _, ⟨T6, L6, k6, n6⟩, -, X6, ⟨Lc6, hQ6, l6, y6, z6⟩, st6⟩ := X5.virtualBack hx (y := (⟨"com/example/torniquete/torniquete/auth/AuthMethod", "needsCertificates", "()Z"⟩ : MethodName)) (z := (⟨"com/example/torniquete/torniquete/auth/AuthMethod", "needsCertificates", "()Z"⟩ : MethodName)) hown (mvT hZ (hw _ (List.mem_of_getElem? (i := 13) rfl))) (mvT hZ (hw _ (List.mem_of_getElem? (i := 14) rfl))) (notFace_of_selects (args := #[]) (mvT hZ (hw _ (List.mem_of_getElem? (i := 16) rfl)))) (mvT hZ (hw _ (List.mem_of_getElem? (i := 16) rfl))) (mvT hZ (hw _ (List.mem_of_getElem? (i := 15) rfl))) (by decide) (backOf (W := 0) (own_rmC l Z a0 hw [] a w wC false h0 n0 Z0 Fa SC hc) hZ (hw _ (List.mem_of_getElem? (i := 17) rfl)) (hw _ (List.mem_of_getElem? (i := 1) rfl)) (by decide) (by decide)) q6a q6c (g := (mkF m 71 #[.val (.int p0), .val (.int (p0 &&& (3 : Int32))), .val (.ref a), .val (.int (own_bI true)), .val (.int (own_bI true))] [(.ref a)])) rfl (by rw [hml]; rfl) (Steps.refl _) (argsL := []) (rest := []) (lenOf own_pd17 rfl) rfl (by show 2 * 0 + _ ≤ _; exact Nat.le_of_eq rfl) (hb hby at_71) (fun _ _ => ⟨rfl, EQ1, (by decide : 0 + 0 ≤ _), (by decide : 0 + 0 ≤ _)⟩)
      dsimp only [Pt.U, Pt.locs, Pt.cells, Pt.slots] at X6 l6 y6 z6 st6 hQ6
      subst l6 y6 z6
      obtain ⟨rfl, N6q, EQ2⟩ := hQ6
      have N6 := Fr.app N5 N6q
      refine Goes.tr st6 ?_
      show Goes p e below s _ _ _ (T6.setTop (mkF m 74 #[.val (.int p0), .val (.int (p0 &&& (3 : Int32))), .val (.ref a), .val (.int (own_bI true)), .val (.int (own_bI true))] [(.int (own_bI false))]))
      refine Goes.st (fun t k => XS.ifYes X6.here hx rfl (pc0 := 74) (pc' := 79) rfl (hb hby at_74) rfl ((if0 _ _).trans (teq (rfl : own_bI false = 0)).1) (by decide) (by decide) k) ?_
      show Goes p e below s _ _ _ (T6.setTop (mkF m 79 #[.val (.int p0), .val (.int (p0 &&& (3 : Int32))), .val (.ref a), .val (.int (own_bI true)), .val (.int (own_bI true))] []))
      refine Goes.st (fun t k => XS.iconst X6.here hx rfl (hb hby at_79) k) ?_
      show Goes p e below s _ _ _ (T6.setTop (mkF m 80 #[.val (.int p0), .val (.int (p0 &&& (3 : Int32))), .val (.ref a), .val (.int (own_bI true)), .val (.int (own_bI true))] [(.int (1 : Int32))]))
      exact Goes.retN X6 hx (t := .boolean) hret hlk (by simp) (hb hby at_80) (by decide) (by decide) (⟨rfl, N6⟩)
  by_cases hk0 : (p0 &&& (3 : Int32)) = (0 : Int32)
  · refine Goes.st (fun t k => XS.ifNo X0.here hx rfl (hb hby at_5) rfl ((if0 _ _).trans (teq hk0).2) k) ?_
    show Goes p e below s _ _ _ (s₁.setTop (mkF m 8 #[.val (.int p0), .val (.int (p0 &&& (3 : Int32))), .unset, .unset, .unset] []))
    obtain ⟨T7, X7, e7, st7⟩ := getS2 X0 hx hZ hown (host := "") (Or.inl (hw _ (List.mem_of_getElem? (i := 0) rfl))) Via.refl e0 S0 (g := (mkF m 8 #[.val (.int p0), .val (.int (p0 &&& (3 : Int32))), .unset, .unset, .unset] [])) rfl (hb hby at_8)
    refine Goes.st st7 ?_
    show Goes p e below s _ _ _ (T7.setTop (mkF m 11 #[.val (.int p0), .val (.int (p0 &&& (3 : Int32))), .unset, .unset, .unset] [(.ref a0_)]))
    refine Goes.st (fun t k => XS.astoreN X7.here hx rfl (hb hby at_11) rfl rfl (l' := #[.val (.int p0), .val (.int (p0 &&& (3 : Int32))), .val (.ref a0_), .unset, .unset]) rfl k) ?_
    show Goes p e below s _ _ _ (T7.setTop (mkF m 12 #[.val (.int p0), .val (.int (p0 &&& (3 : Int32))), .val (.ref a0_), .unset, .unset] []))
    refine Goes.st (fun t k => XS.iconst X7.here hx rfl (hb hby at_12) k) ?_
    show Goes p e below s _ _ _ (T7.setTop (mkF m 13 #[.val (.int p0), .val (.int (p0 &&& (3 : Int32))), .val (.ref a0_), .unset, .unset] [(.int (1 : Int32))]))
    refine Goes.st (fun t k => XS.istoreN X7.here hx rfl (hb hby at_13) rfl  (l' := #[.val (.int p0), .val (.int (p0 &&& (3 : Int32))), .val (.ref a0_), .val (.int (1 : Int32)), .unset]) rfl k) ?_
    show Goes p e below s _ _ _ (T7.setTop (mkF m 14 #[.val (.int p0), .val (.int (p0 &&& (3 : Int32))), .val (.ref a0_), .val (.int (1 : Int32)), .unset] []))
    refine Goes.st (fun t k => XS.goto X7.here hx rfl (pc0 := 14) (pc' := 51) rfl (hb hby at_14) (by decide) (by decide) k) ?_
    show Goes p e below s _ _ _ (T7.setTop (mkF m 51 #[.val (.int p0), .val (.int (p0 &&& (3 : Int32))), .val (.ref a0_), .val (.int (1 : Int32)), .unset] []))
    exact hj _ X7 e7 _ _ true false E0 F0 (decide_eq_true rfl) (decide_eq_false nUC) (by decide)
  · refine Goes.st (fun t k => XS.ifYes X0.here hx rfl (pc0 := 5) (pc' := 17) rfl (hb hby at_5) rfl ((if0 _ _).trans (feq hk0).2) (by decide) (by decide) k) ?_
    show Goes p e below s _ _ _ (s₁.setTop (mkF m 17 #[.val (.int p0), .val (.int (p0 &&& (3 : Int32))), .unset, .unset, .unset] []))
    refine Goes.st (fun t k => XS.iloadN X0.here hx rfl (hb hby at_17) rfl  k) ?_
    show Goes p e below s _ _ _ (s₁.setTop (mkF m 18 #[.val (.int p0), .val (.int (p0 &&& (3 : Int32))), .unset, .unset, .unset] [(.int (p0 &&& (3 : Int32)))]))
    refine Goes.st (fun t k => XS.iconst X0.here hx rfl (hb hby at_18) k) ?_
    show Goes p e below s _ _ _ (s₁.setTop (mkF m 19 #[.val (.int p0), .val (.int (p0 &&& (3 : Int32))), .unset, .unset, .unset] [(.int (1 : Int32)), (.int (p0 &&& (3 : Int32)))]))
    by_cases hk1 : (p0 &&& (3 : Int32)) = (1 : Int32)
    · refine Goes.st (fun t k => XS.icmpNo X0.here hx rfl (hb hby at_19) rfl (teq hk1).2 k) ?_
      show Goes p e below s _ _ _ (s₁.setTop (mkF m 22 #[.val (.int p0), .val (.int (p0 &&& (3 : Int32))), .unset, .unset, .unset] []))
      obtain ⟨T8, X8, e8, st8⟩ := getS2 X0 hx hZ hown (host := "") (Or.inl (hw _ (List.mem_of_getElem? (i := 25) rfl))) Via.refl e0 S1 (g := (mkF m 22 #[.val (.int p0), .val (.int (p0 &&& (3 : Int32))), .unset, .unset, .unset] [])) rfl (hb hby at_22)
      refine Goes.st st8 ?_
      show Goes p e below s _ _ _ (T8.setTop (mkF m 25 #[.val (.int p0), .val (.int (p0 &&& (3 : Int32))), .unset, .unset, .unset] [(.ref a1)]))
      refine Goes.st (fun t k => XS.astoreN X8.here hx rfl (hb hby at_25) rfl rfl (l' := #[.val (.int p0), .val (.int (p0 &&& (3 : Int32))), .val (.ref a1), .unset, .unset]) rfl k) ?_
      show Goes p e below s _ _ _ (T8.setTop (mkF m 26 #[.val (.int p0), .val (.int (p0 &&& (3 : Int32))), .val (.ref a1), .unset, .unset] []))
      refine Goes.st (fun t k => XS.iconst X8.here hx rfl (hb hby at_26) k) ?_
      show Goes p e below s _ _ _ (T8.setTop (mkF m 27 #[.val (.int p0), .val (.int (p0 &&& (3 : Int32))), .val (.ref a1), .unset, .unset] [(.int (1 : Int32))]))
      refine Goes.st (fun t k => XS.istoreN X8.here hx rfl (hb hby at_27) rfl  (l' := #[.val (.int p0), .val (.int (p0 &&& (3 : Int32))), .val (.ref a1), .val (.int (1 : Int32)), .unset]) rfl k) ?_
      show Goes p e below s _ _ _ (T8.setTop (mkF m 28 #[.val (.int p0), .val (.int (p0 &&& (3 : Int32))), .val (.ref a1), .val (.int (1 : Int32)), .unset] []))
      refine Goes.st (fun t k => XS.goto X8.here hx rfl (pc0 := 28) (pc' := 51) rfl (hb hby at_28) (by decide) (by decide) k) ?_
      show Goes p e below s _ _ _ (T8.setTop (mkF m 51 #[.val (.int p0), .val (.int (p0 &&& (3 : Int32))), .val (.ref a1), .val (.int (1 : Int32)), .unset] []))
      exact hj _ X8 e8 _ _ true false E1 F1 (decide_eq_true rfl) (decide_eq_false nUC) (by decide)
    · refine Goes.st (fun t k => XS.icmpYes X0.here hx rfl (pc0 := 19) (pc' := 31) rfl (hb hby at_19) rfl (feq hk1).2 (by decide) (by decide) k) ?_
      show Goes p e below s _ _ _ (s₁.setTop (mkF m 31 #[.val (.int p0), .val (.int (p0 &&& (3 : Int32))), .unset, .unset, .unset] []))
      refine Goes.st (fun t k => XS.iloadN X0.here hx rfl (hb hby at_31) rfl  k) ?_
      show Goes p e below s _ _ _ (s₁.setTop (mkF m 32 #[.val (.int p0), .val (.int (p0 &&& (3 : Int32))), .unset, .unset, .unset] [(.int (p0 &&& (3 : Int32)))]))
      refine Goes.st (fun t k => XS.iconst X0.here hx rfl (hb hby at_32) k) ?_
      show Goes p e below s _ _ _ (s₁.setTop (mkF m 33 #[.val (.int p0), .val (.int (p0 &&& (3 : Int32))), .unset, .unset, .unset] [(.int (2 : Int32)), (.int (p0 &&& (3 : Int32)))]))
      by_cases hk2 : (p0 &&& (3 : Int32)) = (2 : Int32)
      · refine Goes.st (fun t k => XS.icmpNo X0.here hx rfl (hb hby at_33) rfl (teq hk2).2 k) ?_
        show Goes p e below s _ _ _ (s₁.setTop (mkF m 36 #[.val (.int p0), .val (.int (p0 &&& (3 : Int32))), .unset, .unset, .unset] []))
        obtain ⟨T9, X9, e9, st9⟩ := getS2 X0 hx hZ hown (host := "") (Or.inl (hw _ (List.mem_of_getElem? (i := 23) rfl))) Via.refl e0 S2 (g := (mkF m 36 #[.val (.int p0), .val (.int (p0 &&& (3 : Int32))), .unset, .unset, .unset] [])) rfl (hb hby at_36)
        refine Goes.st st9 ?_
        show Goes p e below s _ _ _ (T9.setTop (mkF m 39 #[.val (.int p0), .val (.int (p0 &&& (3 : Int32))), .unset, .unset, .unset] [(.ref a2)]))
        refine Goes.st (fun t k => XS.astoreN X9.here hx rfl (hb hby at_39) rfl rfl (l' := #[.val (.int p0), .val (.int (p0 &&& (3 : Int32))), .val (.ref a2), .unset, .unset]) rfl k) ?_
        show Goes p e below s _ _ _ (T9.setTop (mkF m 40 #[.val (.int p0), .val (.int (p0 &&& (3 : Int32))), .val (.ref a2), .unset, .unset] []))
        refine Goes.st (fun t k => XS.iconst X9.here hx rfl (hb hby at_40) k) ?_
        show Goes p e below s _ _ _ (T9.setTop (mkF m 41 #[.val (.int p0), .val (.int (p0 &&& (3 : Int32))), .val (.ref a2), .unset, .unset] [(.int (0 : Int32))]))
        refine Goes.st (fun t k => XS.istoreN X9.here hx rfl (hb hby at_41) rfl  (l' := #[.val (.int p0), .val (.int (p0 &&& (3 : Int32))), .val (.ref a2), .val (.int (0 : Int32)), .unset]) rfl k) ?_
        show Goes p e below s _ _ _ (T9.setTop (mkF m 42 #[.val (.int p0), .val (.int (p0 &&& (3 : Int32))), .val (.ref a2), .val (.int (0 : Int32)), .unset] []))
        refine Goes.st (fun t k => XS.goto X9.here hx rfl (pc0 := 42) (pc' := 51) rfl (hb hby at_42) (by decide) (by decide) k) ?_
        show Goes p e below s _ _ _ (T9.setTop (mkF m 51 #[.val (.int p0), .val (.int (p0 &&& (3 : Int32))), .val (.ref a2), .val (.int (0 : Int32)), .unset] []))
        exact hj _ X9 e9 _ _ false true E2 F2 (decide_eq_false (Ne.symm nUC)) (decide_eq_true rfl) (by decide)
      · refine Goes.st (fun t k => XS.icmpYes X0.here hx rfl (pc0 := 33) (pc' := 45) rfl (hb hby at_33) rfl (feq hk2).2 (by decide) (by decide) k) ?_
        show Goes p e below s _ _ _ (s₁.setTop (mkF m 45 #[.val (.int p0), .val (.int (p0 &&& (3 : Int32))), .unset, .unset, .unset] []))
        obtain ⟨T10, X10, e10, st10⟩ := getS2 X0 hx hZ hown (host := "") (Or.inl (hw _ (List.mem_of_getElem? (i := 20) rfl))) Via.refl e0 S3 (g := (mkF m 45 #[.val (.int p0), .val (.int (p0 &&& (3 : Int32))), .unset, .unset, .unset] [])) rfl (hb hby at_45)
        refine Goes.st st10 ?_
        show Goes p e below s _ _ _ (T10.setTop (mkF m 48 #[.val (.int p0), .val (.int (p0 &&& (3 : Int32))), .unset, .unset, .unset] [(.ref a3)]))
        refine Goes.st (fun t k => XS.astoreN X10.here hx rfl (hb hby at_48) rfl rfl (l' := #[.val (.int p0), .val (.int (p0 &&& (3 : Int32))), .val (.ref a3), .unset, .unset]) rfl k) ?_
        show Goes p e below s _ _ _ (T10.setTop (mkF m 49 #[.val (.int p0), .val (.int (p0 &&& (3 : Int32))), .val (.ref a3), .unset, .unset] []))
        refine Goes.st (fun t k => XS.iconst X10.here hx rfl (hb hby at_49) k) ?_
        show Goes p e below s _ _ _ (T10.setTop (mkF m 50 #[.val (.int p0), .val (.int (p0 &&& (3 : Int32))), .val (.ref a3), .unset, .unset] [(.int (0 : Int32))]))
        refine Goes.st (fun t k => XS.istoreN X10.here hx rfl (hb hby at_50) rfl  (l' := #[.val (.int p0), .val (.int (p0 &&& (3 : Int32))), .val (.ref a3), .val (.int (0 : Int32)), .unset]) rfl k) ?_
        show Goes p e below s _ _ _ (T10.setTop (mkF m 51 #[.val (.int p0), .val (.int (p0 &&& (3 : Int32))), .val (.ref a3), .val (.int (0 : Int32)), .unset] []))
        exact hj _ X10 e10 _ _ false false E3 F3 (decide_eq_false (Ne.symm nUN)) (decide_eq_false (Ne.symm nCN)) (by decide)
set_option maxRecDepth 65536 in
set_option maxHeartbeats 40000000 in
theorem comes_1 {Post : Tables → Env → Array Value → State → Outcome → State → Prop} (hpost : ∀ tb e args s v u, (limb_1_1.after args s (.returned v) u = true ∧ limb_1_2.after args s (.returned v) u = true ∧ True) → FrameEnd s (.returned v) u (Jvm.fieldLocs frame_1_writes args s ++ Jvm.arrayLocs frame_1_arrays args s ++ Jvm.staticLocs frame_1_statics s) 0 0 → Post tb e args s (.returned v) u) :
    ArmFor flags0 classFile x code maxLocals ret World_1 tables_1 room_1 Calls_1 rest_1 Pre_1 Post := by
  intro l hfl _ _ p e ha hc hk s m args below hf hA hF happ hP
  obtain ⟨hcalls, hrest, hpre⟩ := hP
  obtain ⟨-, -, -, hnamed, -, -, -, hat⟩ := (Spec.applies_iff hf).mp happ
  obtain ⟨hg, hn⟩ := and_e (Cond.before_iff.mp (show (Jvm.Cond.and given_1 narrow_1).before args s = true from hpre))
  obtain ⟨g0, gr0⟩ := and_e hg
  have ga0 := gr0
  obtain ⟨w0, rfl⟩ : ∃ w0 : Value, args = #[w0] := by
    have hs : args.size = 1 := by simpa [Cond.value, given_1] using g0
    obtain ⟨L⟩ := args
    match L, hs with
    | [w0], _ => exact ⟨w0, rfl⟩
  have hw := fun d (hd : d ∈ tables_1) => atoms_spec (ws := Jvm.Cond.code x code maxLocals ret :: tables_1) hat d (List.mem_cons_of_mem _ hd)
  have hfit : Fit s := fun {y c} hc i hi => by
    obtain ⟨ha, rfl⟩ := Array.getElem?_eq_some_iff.mp hc
    have q := List.all_eq_true.mp ((Array.all_eq_true_iff_forall_mem.mp hF) _ (Array.getElem_mem ha)) i (List.mem_range.mpr hi)
    simpa [Array.getElem?_eq_getElem hi] using q
  obtain ⟨i0, ei0⟩ := is_v ga0
  obtain rfl : w0 = (.int i0) := Option.some.inj ei0
  have hn' : narrow_1.value #[(.int i0)] s none s [] = some true := hn
  unfold narrow_1 at hn'
  obtain ⟨n_xD, hn'⟩ := and_e hn'
  obtain ⟨n_xU, hn'⟩ := and_e hn'
  obtain ⟨n_fD, hn'⟩ := and_e hn'
  obtain ⟨n_xC, hn'⟩ := and_e hn'
  obtain ⟨n_oU, hn'⟩ := and_e hn'
  obtain ⟨n_oC, hn'⟩ := and_e hn'
  obtain ⟨n_xN, hn'⟩ := and_e hn'
  obtain ⟨n_xG, hn'⟩ := and_e hn'
  obtain ⟨n_fN, hn'⟩ := and_e hn'
  obtain ⟨n_oG, hn'⟩ := and_e hn'
  obtain ⟨n_xR, hn'⟩ := and_e hn'
  obtain ⟨n_fR, hn'⟩ := and_e hn'
  obtain ⟨n_xL, hn'⟩ := and_e hn'
  have n_fL := hn'
  obtain ⟨a0_, ev_a0_⟩ := exa_v n_xD
  have X_a0_ := Exa.start ev_a0_ n_xD
  have S_a0_ := Sta.start ev_a0_ (Or.inr ⟨(hw _ (List.mem_of_getElem? (i := 1) rfl)), (hw _ (List.mem_of_getElem? (i := 2) rfl))⟩)
  obtain ⟨a1, ev_a1⟩ := exa_v n_xL
  have X_a1 := Exa.start ev_a1 n_xL
  have S_a1 := Sta.start ev_a1 (Or.inr ⟨(hw _ (List.mem_of_getElem? (i := 1) rfl)), (hw _ (List.mem_of_getElem? (i := 26) rfl))⟩)
  obtain ⟨a2, ev_a2⟩ := exa_v n_xR
  have X_a2 := Exa.start ev_a2 n_xR
  have S_a2 := Sta.start ev_a2 (Or.inr ⟨(hw _ (List.mem_of_getElem? (i := 1) rfl)), (hw _ (List.mem_of_getElem? (i := 24) rfl))⟩)
  obtain ⟨a3, ev_a3⟩ := exa_v n_xN
  have X_a3 := Exa.start ev_a3 n_xN
  have S_a3 := Sta.start ev_a3 (Or.inr ⟨(hw _ (List.mem_of_getElem? (i := 1) rfl)), (hw _ (List.mem_of_getElem? (i := 21) rfl))⟩)
  obtain ⟨wU, ev_wU⟩ := exa_v n_xU
  have X_wU := Exa.start ev_wU n_xU
  have S_wU := Sta.start ev_wU (Or.inr ⟨(hw _ (List.mem_of_getElem? (i := 10) rfl)), (hw _ (List.mem_of_getElem? (i := 11) rfl))⟩)
  obtain ⟨wC, ev_wC⟩ := exa_v n_xC
  have X_wC := Exa.start ev_wC n_xC
  have S_wC := Sta.start ev_wC (Or.inr ⟨(hw _ (List.mem_of_getElem? (i := 10) rfl)), (hw _ (List.mem_of_getElem? (i := 19) rfl))⟩)
  obtain ⟨wN, ev_wN⟩ := exa_v n_xG
  have X_wN := Exa.start ev_wN n_xG
  have S_wN := Sta.start ev_wN (Or.inr ⟨(hw _ (List.mem_of_getElem? (i := 10) rfl)), (hw _ (List.mem_of_getElem? (i := 22) rfl))⟩)
  have F_a0_ := own_feq n_fD ev_a0_ ev_wU
  have F_a1 := own_feq n_fL ev_a1 ev_wU
  have F_a2 := own_feq n_fR ev_a2 ev_wC
  have F_a3 := own_feq n_fN ev_a3 ev_wN
  have O_wU := own_oeq n_oU ev_wU
  have O_wC := own_oeq n_oC ev_wC
  have O_wN := own_oeq n_oG ev_wN
  obtain ⟨n, o, h1, h2, h3, _, L, rfl, ⟨rfl, N⟩, hq⟩ := own_rm0 l s _ hw tables_1 i0 a0_ a1 a2 a3 wU wC wN s.heap s.heap.size (Nat.le_refl _) S_a0_ X_a0_ F_a0_ S_a1 X_a1 F_a1 S_a2 X_a2 F_a2 S_a3 X_a3 F_a3 S_wU S_wC (O_wU.ne O_wC (by decide)) (O_wU.ne O_wN (by decide)) (O_wC.ne O_wN (by decide)) p e ha hc hk s m _ below hf ((Spec.applies_iff_loose hf).mp happ).1 ⟨rfl, State.Warmed39.refl s, rfl⟩ trivial
  refine ⟨n, _, h1, h2, h3, hpost _ _ _ _ _ _ ⟨Cond.after_iff.mpr rfl, Cond.after_iff.mpr (eq_i res_at (Term.int_eval (1)) rfl), trivial⟩ ⟨hq.1, hq.2.1, (hq.2.2.sift fun y hy => Or.inr (N y hy)).mono (by decide) (by decide)⟩⟩
theorem main_1_1 : Claimed_1_1 := comes_1 fun _ _ _ _ _ _ h hF => ⟨h.1, hF⟩
theorem main_1_2 : Claimed_1_2 := comes_1 fun _ _ _ _ _ _ h hF => ⟨h.2.1, hF⟩
end Jvm.Pilot.@@N@@
namespace Jvm.Pilot.@@N@@
open Jvm Jvm.ClassFile Sem Op Lib Jvm.Free Jvm.Stand Jvm.Pilot.@@N@@.Jvm.D
/-! MADE BY PROGRAM (witnessworld.py) out of the Statement's table words and the real class files: 13 classes; the members and pool entries that the words name. The judged class is class 1, her method 1. -/
namespace start1
open Jvm.ClassFile
def u (s : String) : CpInfo := .utf8 (stringToUtf16 s)
/-- a pool by its gaps: so many unusable entries, then the entry; so many at the end -/
def gap : Nat → List CpInfo → List CpInfo
  | 0, r => r
  | n + 1, r => .unusable :: gap n r
def poolList (es : List (Nat × CpInfo)) (last : Nat) : List CpInfo := es.foldr (fun e r => gap e.1 (e.2 :: r)) (gap last [])
def pool (es : List (Nat × CpInfo)) (last : Nat) : Array CpInfo := ⟨poolList es last⟩
def fileOf (pool : Array CpInfo) (this : Nat) (attrs : Array Attribute := #[]) (ms : Array MethodInfo := #[]) (fl : Nat := 33) (sup : Nat := 0) (ifs : Array Nat := #[]) (fds : Array FieldInfo := #[]) : ClassFile where
  minorVersion := 0
  majorVersion := 65
  constantPool := pool
  accessFlags := fl
  thisClass := this
  superClass := sup
  interfaces := ifs
  fields := fds
  methods := ms
  attributes := attrs
def plain (name : String) (sup : Option ClassId) : Class where
  name := name
  kind := .ordinary
  loader := none
  accessFlags := 33
  super := sup
  interfaces := #[]
  cf := none
  fields := #[]
  methods := #[]
  instanceTypes := #[]
  staticTypes := #[]
  resolved := #[]
  callSites := []
  init := .initialized
  statics := none
  mirror := none

def pool0 : Array CpInfo := pool [(5, u "<init>"), (0, u "()V"), (1, .class_ 10), (1, u "java/lang/Object")] 113

def k0m0 : Method := { name := "<init>", desc := "()V", sig := { parameters := [], returnType := none }, accessFlags := 1, code := none }
/-- java/lang/Object -/
def k0 : Class := { plain "java/lang/Object" none with
  accessFlags := 33
  interfaces := #[]
  cf := some (fileOf pool0 8 #[] #[{ accessFlags := 1, nameIndex := 5, descriptorIndex := 6, attributes := #[] }] 33 0 #[] #[])
  fields := #[]
  methods := #[k0m0]
  instanceTypes := #[]
  staticTypes := #[]
  resolved := Array.replicate 124 none
  statics := none }

def pool1 : Array CpInfo := pool [(2, .class_ 4), (1, u "java/lang/Object"), (0, u "<init>"), (0, u "()V"), (0, .fieldref 8 9), (0, .class_ 10), (0, .nameAndType 11 12), (0, u "com/example/torniquete/torniquete/auth/AuthMethod"), (0, u "DIGEST"), (0, u "Lcom/example/torniquete/torniquete/auth/AuthMethod;"), (0, .fieldref 8 14), (0, .nameAndType 15 12), (0, u "CLEAR"), (0, .fieldref 8 17), (0, .nameAndType 18 12), (0, u "CERTIFICATE"), (0, .fieldref 8 20), (0, .nameAndType 21 12), (0, u "NONE"), (0, .methodref 8 23), (0, .nameAndType 24 25), (0, u "needsUsers"), (0, u "()Z"), (0, .methodref 8 27), (0, .nameAndType 28 25), (0, u "needsCertificates"), (0, .class_ 30), (0, u "com/example/torniquete/torniquete/auth/AuthMethodNeedsUsersPinLaw"), (2, u "law"), (0, u "(I)Z")] 3

def k1m0 : Method := { name := "<init>", desc := "()V", sig := { parameters := [], returnType := none }, accessFlags := 1, code := none }
def k1c1 : Code := { maxStack := 2, maxLocals := 5, code := code, exceptionTable := #[], attributes := #[] }
def k1m1 : Method := { name := "law", desc := "(I)Z", sig := { parameters := [.int], returnType := some .boolean }, accessFlags := 9, code := some k1c1 }
/-- com/example/torniquete/torniquete/auth/AuthMethodNeedsUsersPinLaw -/
def k1 : Class := { plain "com/example/torniquete/torniquete/auth/AuthMethodNeedsUsersPinLaw" (some 0) with
  accessFlags := 49
  interfaces := #[]
  cf := some (fileOf pool1 29 #[] #[{ accessFlags := 1, nameIndex := 5, descriptorIndex := 6, attributes := #[] }, { accessFlags := 9, nameIndex := 33, descriptorIndex := 34, attributes := #[] }] 49 2 #[] #[])
  fields := #[]
  methods := #[k1m0, k1m1]
  instanceTypes := #[]
  staticTypes := #[]
  resolved := Array.replicate 38 none
  statics := none }

def pool2 : Array CpInfo := pool [(1, .class_ 2), (0, u "java/lang/constant/Constable"), (0, .class_ 4), (0, u "java/lang/Object")] 6

/-- java/lang/constant/Constable -/
def k2 : Class := { plain "java/lang/constant/Constable" (some 0) with
  accessFlags := 1537
  interfaces := #[]
  cf := some (fileOf pool2 1 #[] #[] 1537 3 #[] #[])
  fields := #[]
  methods := #[]
  instanceTypes := #[]
  staticTypes := #[]
  resolved := Array.replicate 11 none
  statics := none }

def pool3 : Array CpInfo := pool [(1, .class_ 2), (0, u "java/lang/Comparable"), (0, .class_ 4), (0, u "java/lang/Object")] 7

/-- java/lang/Comparable -/
def k3 : Class := { plain "java/lang/Comparable" (some 0) with
  accessFlags := 1537
  interfaces := #[]
  cf := some (fileOf pool3 1 #[] #[] 1537 3 #[] #[])
  fields := #[]
  methods := #[]
  instanceTypes := #[]
  staticTypes := #[]
  resolved := Array.replicate 12 none
  statics := none }

def pool4 : Array CpInfo := pool [(1, .class_ 2), (0, u "java/io/Serializable"), (0, .class_ 4), (0, u "java/lang/Object")] 2

/-- java/io/Serializable -/
def k4 : Class := { plain "java/io/Serializable" (some 0) with
  accessFlags := 1537
  interfaces := #[]
  cf := some (fileOf pool4 1 #[] #[] 1537 3 #[] #[])
  fields := #[]
  methods := #[]
  instanceTypes := #[]
  staticTypes := #[]
  resolved := Array.replicate 7 none
  statics := none }

def pool5 : Array CpInfo := pool [(2, .class_ 4), (1, u "java/lang/Enum"), (0, u "name"), (0, u "Ljava/lang/String;"), (2, u "ordinal"), (0, u "I"), (1, .class_ 14), (1, u "java/lang/Object"), (4, u "hash"), (86, .class_ 108), (1, u "java/lang/Enum$EnumDesc"), (2, .class_ 112), (0, u "java/lang/constant/Constable"), (0, .class_ 114), (0, u "java/lang/Comparable"), (0, .class_ 116), (0, u "java/io/Serializable")] 87

/-- java/lang/Enum -/
def k5 : Class := { plain "java/lang/Enum" (some 0) with
  accessFlags := 1057
  interfaces := #[2, 3, 4]
  cf := some (fileOf pool5 2 #[.nestMembers #[106]] #[] 1057 12 #[111, 113, 115] #[{ accessFlags := 18, nameIndex := 5, descriptorIndex := 6, attributes := #[] }, { accessFlags := 18, nameIndex := 9, descriptorIndex := 10, attributes := #[] }, { accessFlags := 2, nameIndex := 19, descriptorIndex := 10, attributes := #[] }])
  fields := #[{ name := "name", type := (.object "java/lang/String"), accessFlags := 18, slot := 0, constantValue := 0 }, { name := "ordinal", type := .int, accessFlags := 18, slot := 1, constantValue := 0 }, { name := "hash", type := .int, accessFlags := 2, slot := 2, constantValue := 0 }]
  methods := #[]
  instanceTypes := #[(.object "java/lang/String"), .int, .int]
  staticTypes := #[]
  resolved := Array.replicate 204 none
  statics := none }

def pool6 : Array CpInfo := pool [(1, .class_ 2), (0, u "com/example/torniquete/torniquete/auth/AuthMethod"), (2, u "DIGEST"), (0, u "Lcom/example/torniquete/torniquete/auth/AuthMethod;"), (2, u "CLEAR"), (2, u "CERTIFICATE"), (2, u "NONE"), (2, u "$VALUES"), (0, u "[Lcom/example/torniquete/torniquete/auth/AuthMethod;"), (6, .class_ 28), (1, u "java/lang/Enum"), (8, u "name"), (0, u "Ljava/lang/String;"), (0, .fieldref 1 40), (0, .nameAndType 41 42), (0, u "registers"), (0, u "Lcom/example/torniquete/torniquete/auth/AuthMethod$Registers;"), (2, u "challenge"), (36, .fieldref 83 84), (0, .class_ 85), (0, .nameAndType 86 42), (0, u "com/example/torniquete/torniquete/auth/AuthMethod$Registers"), (0, u "USERS"), (0, .fieldref 83 88), (0, .nameAndType 89 42), (0, u "CERTIFICATES"), (41, u "needsUsers"), (0, u "()Z"), (0, u "needsCertificates")] 8

def k6c0 : Code := { maxStack := 2, maxLocals := 1, code := prog_2_method_7_code, exceptionTable := #[], attributes := #[] }
def k6m0 : Method := { name := "needsUsers", desc := "()Z", sig := { parameters := [], returnType := some .boolean }, accessFlags := 1, code := some k6c0 }
def k6c1 : Code := { maxStack := 2, maxLocals := 1, code := prog_2_method_8_code, exceptionTable := #[], attributes := #[] }
def k6m1 : Method := { name := "needsCertificates", desc := "()Z", sig := { parameters := [], returnType := some .boolean }, accessFlags := 1, code := some k6c1 }
/-- com/example/torniquete/torniquete/auth/AuthMethod -/
def k6 : Class := { plain "com/example/torniquete/torniquete/auth/AuthMethod" (some 5) with
  accessFlags := 16433
  interfaces := #[]
  cf := some (fileOf pool6 1 #[.nestMembers #[83]] #[{ accessFlags := 1, nameIndex := 131, descriptorIndex := 132, attributes := #[] }, { accessFlags := 1, nameIndex := 133, descriptorIndex := 132, attributes := #[] }] 16433 26 #[] #[{ accessFlags := 16409, nameIndex := 5, descriptorIndex := 6, attributes := #[] }, { accessFlags := 16409, nameIndex := 9, descriptorIndex := 6, attributes := #[] }, { accessFlags := 16409, nameIndex := 12, descriptorIndex := 6, attributes := #[] }, { accessFlags := 16409, nameIndex := 15, descriptorIndex := 6, attributes := #[] }, { accessFlags := 18, nameIndex := 37, descriptorIndex := 38, attributes := #[] }, { accessFlags := 18, nameIndex := 41, descriptorIndex := 42, attributes := #[] }, { accessFlags := 18, nameIndex := 45, descriptorIndex := 38, attributes := #[] }, { accessFlags := 4122, nameIndex := 18, descriptorIndex := 19, attributes := #[] }])
  fields := #[{ name := "DIGEST", type := (.object "com/example/torniquete/torniquete/auth/AuthMethod"), accessFlags := 16409, slot := 0, constantValue := 0 }, { name := "CLEAR", type := (.object "com/example/torniquete/torniquete/auth/AuthMethod"), accessFlags := 16409, slot := 1, constantValue := 0 }, { name := "CERTIFICATE", type := (.object "com/example/torniquete/torniquete/auth/AuthMethod"), accessFlags := 16409, slot := 2, constantValue := 0 }, { name := "NONE", type := (.object "com/example/torniquete/torniquete/auth/AuthMethod"), accessFlags := 16409, slot := 3, constantValue := 0 }, { name := "name", type := (.object "java/lang/String"), accessFlags := 18, slot := 3, constantValue := 0 }, { name := "registers", type := (.object "com/example/torniquete/torniquete/auth/AuthMethod$Registers"), accessFlags := 18, slot := 4, constantValue := 0 }, { name := "challenge", type := (.object "java/lang/String"), accessFlags := 18, slot := 5, constantValue := 0 }, { name := "$VALUES", type := (.array (.object "com/example/torniquete/torniquete/auth/AuthMethod")), accessFlags := 4122, slot := 4, constantValue := 0 }]
  methods := #[k6m0, k6m1]
  instanceTypes := #[(.object "java/lang/String"), .int, .int, (.object "java/lang/String"), (.object "com/example/torniquete/torniquete/auth/AuthMethod$Registers"), (.object "java/lang/String")]
  staticTypes := #[(.object "com/example/torniquete/torniquete/auth/AuthMethod"), (.object "com/example/torniquete/torniquete/auth/AuthMethod"), (.object "com/example/torniquete/torniquete/auth/AuthMethod"), (.object "com/example/torniquete/torniquete/auth/AuthMethod"), (.array (.object "com/example/torniquete/torniquete/auth/AuthMethod"))]
  resolved := Array.replicate 142 none
  statics := some 0 }

def pool7 : Array CpInfo := pool [(1, .class_ 2), (0, u "com/example/torniquete/torniquete/auth/AuthMethod$Registers"), (2, u "USERS"), (0, u "Lcom/example/torniquete/torniquete/auth/AuthMethod$Registers;"), (2, u "CERTIFICATES"), (2, u "NOTHING"), (2, u "$VALUES"), (0, u "[Lcom/example/torniquete/torniquete/auth/AuthMethod$Registers;"), (6, .class_ 25), (1, u "java/lang/Enum"), (26, .class_ 53), (0, u "com/example/torniquete/torniquete/auth/AuthMethod")] 2

/-- com/example/torniquete/torniquete/auth/AuthMethod$Registers -/
def k7 : Class := { plain "com/example/torniquete/torniquete/auth/AuthMethod$Registers" (some 5) with
  accessFlags := 16432
  interfaces := #[]
  cf := some (fileOf pool7 1 #[.nestHost 52] #[] 16432 23 #[] #[{ accessFlags := 16409, nameIndex := 5, descriptorIndex := 6, attributes := #[] }, { accessFlags := 16409, nameIndex := 9, descriptorIndex := 6, attributes := #[] }, { accessFlags := 16409, nameIndex := 12, descriptorIndex := 6, attributes := #[] }, { accessFlags := 4122, nameIndex := 15, descriptorIndex := 16, attributes := #[] }])
  fields := #[{ name := "USERS", type := (.object "com/example/torniquete/torniquete/auth/AuthMethod$Registers"), accessFlags := 16409, slot := 0, constantValue := 0 }, { name := "CERTIFICATES", type := (.object "com/example/torniquete/torniquete/auth/AuthMethod$Registers"), accessFlags := 16409, slot := 1, constantValue := 0 }, { name := "NOTHING", type := (.object "com/example/torniquete/torniquete/auth/AuthMethod$Registers"), accessFlags := 16409, slot := 2, constantValue := 0 }, { name := "$VALUES", type := (.array (.object "com/example/torniquete/torniquete/auth/AuthMethod$Registers")), accessFlags := 4122, slot := 3, constantValue := 0 }]
  methods := #[]
  instanceTypes := #[(.object "java/lang/String"), .int, .int]
  staticTypes := #[(.object "com/example/torniquete/torniquete/auth/AuthMethod$Registers"), (.object "com/example/torniquete/torniquete/auth/AuthMethod$Registers"), (.object "com/example/torniquete/torniquete/auth/AuthMethod$Registers"), (.array (.object "com/example/torniquete/torniquete/auth/AuthMethod$Registers"))]
  resolved := Array.replicate 56 none
  statics := some 1 }

def pool8 : Array CpInfo := pool [(1, u "java/lang/Cloneable"), (0, .class_ 1), (0, u "java/lang/Object"), (0, .class_ 3)] 3

/-- java/lang/Cloneable -/
def k8 : Class := { plain "java/lang/Cloneable" (some 0) with
  accessFlags := 1537
  interfaces := #[]
  cf := some (fileOf pool8 2 #[] #[] 1537 4 #[] #[])
  fields := #[]
  methods := #[]
  instanceTypes := #[]
  staticTypes := #[]
  resolved := Array.replicate 8 none
  statics := none }

/-- the primitive byte -/
def k9 : Class := { plain "byte" none with kind := .primitive 'B', accessFlags := 0x411 }
/-- [B -/
def k10 : Class := { plain "[B" (some 0) with kind := .array 9 .byte, interfaces := #[8, 4], accessFlags := 1041 }

/-- the primitive int -/
def k11 : Class := { plain "int" none with kind := .primitive 'I', accessFlags := 0x411 }
/-- [I -/
def k12 : Class := { plain "[I" (some 0) with kind := .array 11 .int, interfaces := #[8, 4], accessFlags := 1041 }

def heap : Heap := #[{ cls := 6, slots := #[.ref 5, .ref 6, .ref 7, .ref 8, .null], vm := .statics 6 },
  { cls := 7, slots := #[.ref 2, .ref 3, .ref 4, .null], vm := .statics 7 },
  { cls := 7, slots := #[.null, .int 0, .int 0], vm := .none },
  { cls := 7, slots := #[.null, .int 1, .int 0], vm := .none },
  { cls := 7, slots := #[.null, .int 2, .int 0], vm := .none },
  { cls := 6, slots := #[.null, .int 0, .int 0, .null, .ref 2, .null], vm := .none },
  { cls := 6, slots := #[.null, .int 1, .int 0, .null, .ref 2, .null], vm := .none },
  { cls := 6, slots := #[.null, .int 2, .int 0, .null, .ref 3, .null], vm := .none },
  { cls := 6, slots := #[.null, .int 3, .int 0, .null, .ref 4, .null], vm := .none }]
def classes : Array Class := #[k0, k1, k2, k3, k4, k5, k6, k7, k8, k9, k10, k11, k12]
def interned : List (Array UInt16 × Addr) := []
def slotsUsed : Nat := 42
def theMethod : MethodId := ⟨1, 1⟩
def args0 : Array Value := #[.int 5]
def aboutOver (below : List Frame) : State where
  vm := { classes := classes, interned := interned.toArray }
  heap := heap
  slotsUsed := slotsUsed
  threads := #[{ frames := .invoking theMethod args0 :: below }]
def below0 : List Frame := [.native { method := ⟨0, 0⟩, args := #[] }]
def about1 : State := aboutOver below0
def p0 : Program := .bare "" "" ""
def e0 : Env := launch0.env 0 0 0
theorem w_frames : about1.frames = Frame.invoking theMethod args0 :: below0 := rfl
set_option maxRecDepth 65536 in
theorem w_args : argsFit about1.vm theMethod args0 = true := by decide +kernel
set_option maxRecDepth 65536 in
theorem w_heap : heapFits about1 = true := by decide +kernel
set_option maxRecDepth 65536 in
theorem w_runnable : about1.curStatus? = some .runnable := by decide +kernel
set_option maxRecDepth 65536 in
theorem w_alone : about1.alone = true := by decide +kernel
set_option maxRecDepth 65536 in
theorem w_named : about1.methodNamed? x = some theMethod := by decide +kernel
set_option maxRecDepth 65536 in
theorem w_hears : about1.hears theMethod below0 = true := by decide +kernel
set_option maxRecDepth 65536 in
theorem w_ripe : about1.ripe theMethod args0 below0 = true := by decide +kernel
theorem w_running : about1.status = .running := rfl
set_option maxRecDepth 65536 in
theorem w_room : about1.hasRoom e0.platform room_1 = true :=
  launch0.hasRoom_least _ room_1 (by decide +kernel) (by decide +kernel) (by decide +kernel) (by decide +kernel) (by decide +kernel) (by decide +kernel)
theorem allAtoms_all (ts : List Jvm.Cond) (a : Array Jvm.Value) (st : Jvm.State) : (allAtoms ts).before a st = ts.all (fun c => c.before a st) := by
  induction ts with
  | nil => rfl
  | cons c t ih =>
    show (Jvm.Cond.and c (allAtoms t)).before a st = _
    rw [Jvm.Cond.before_and, ih, List.all_cons]
def words1 : List Jvm.Cond := Jvm.Cond.code x code maxLocals ret :: tables_1
/-- a 'code' word, met by the world's own term for the bytes: nothing is compared byte by byte -/
theorem code_word {y : MethodName} {bytes : ByteArray} {mx : Nat} {rt : Option FieldType} {a : Array Value} {s : State} {m : MethodId} {meth : Method} {c : Code} (h1 : s.methodNamed? y = some m) (h2 : s.vm.method? m = some meth) (h3 : meth.code = some c) (h4 : c.code = bytes)
    (h5 : (c.maxLocals == mx && c.exceptionTable.isEmpty && decide (c.maxStack ≤ mostOperands) && decide (meth.sig.returnType = rt) && !meth.locks && decide (parseMethodDescriptor y.desc = some meth.sig)) = true) : (Jvm.Cond.code y bytes mx rt).before a s = true := by
  simp only [Bool.and_eq_true, beq_iff_eq, Bool.not_eq_true', decide_eq_true_eq] at h5
  obtain ⟨⟨⟨⟨⟨g1, g2⟩, g3⟩, g4⟩, g5⟩, g6⟩ := h5
  simp [Cond.before, Cond.holds, Cond.value, h1, h2, h3, h4, g1, g2, g3, g4, g5, g6]
def isCode : Jvm.Cond → Bool
  | .code _ _ _ _ => true
  | _ => false
theorem all_split {L : List Jvm.Cond} {P : Jvm.Cond → Bool} (h1 : L.all (fun c => isCode c || P c) = true) (h2 : ∀ c ∈ L.filter isCode, P c = true) : L.all P = true := by
  refine List.all_eq_true.mpr fun c hc => ?_
  have h := List.all_eq_true.mp h1 c hc
  rcases Bool.eq_false_or_eq_true (isCode c) with hi | hi
  · exact h2 c (List.mem_filter.mpr ⟨hc, hi⟩)
  · simpa [hi] using h
set_option maxRecDepth 65536 in
theorem w_c0 : (Jvm.Cond.code x code maxLocals ret).before args0 about1 = true := code_word (m := ⟨1, 1⟩) (meth := k1m1) (c := k1c1) (by decide +kernel) rfl rfl rfl (by decide +kernel)
set_option maxRecDepth 65536 in
theorem w_c1 : (Jvm.Cond.code ({ cls := "com/example/torniquete/torniquete/auth/AuthMethod", name := "needsUsers", desc := "()Z" } : Jvm.MethodName) prog_2_method_7_code (1 : Nat) (Option.some Jvm.ClassFile.FieldType.boolean)).before args0 about1 = true := code_word (m := ⟨6, 0⟩) (meth := k6m0) (c := k6c0) (by decide +kernel) rfl rfl rfl (by decide +kernel)
set_option maxRecDepth 65536 in
theorem w_c2 : (Jvm.Cond.code ({ cls := "com/example/torniquete/torniquete/auth/AuthMethod", name := "needsCertificates", desc := "()Z" } : Jvm.MethodName) prog_2_method_8_code (1 : Nat) (Option.some Jvm.ClassFile.FieldType.boolean)).before args0 about1 = true := code_word (m := ⟨6, 1⟩) (meth := k6m1) (c := k6c1) (by decide +kernel) rfl rfl rfl (by decide +kernel)
def codes1 : List Jvm.Cond := [Jvm.Cond.code x code maxLocals ret, Jvm.Cond.code ({ cls := "com/example/torniquete/torniquete/auth/AuthMethod", name := "needsUsers", desc := "()Z" } : Jvm.MethodName) prog_2_method_7_code (1 : Nat) (Option.some Jvm.ClassFile.FieldType.boolean), Jvm.Cond.code ({ cls := "com/example/torniquete/torniquete/auth/AuthMethod", name := "needsCertificates", desc := "()Z" } : Jvm.MethodName) prog_2_method_8_code (1 : Nat) (Option.some Jvm.ClassFile.FieldType.boolean)]
set_option maxRecDepth 65536 in
theorem codes_eq : words1.filter isCode = codes1 := rfl
theorem w_codes : ∀ c ∈ words1.filter isCode, c.before args0 about1 = true := by
  rw [codes_eq]
  intro c hc
  simp only [codes1, List.mem_cons, List.not_mem_nil, or_false] at hc
  rcases hc with rfl | rfl | rfl
  · exact w_c0
  · exact w_c1
  · exact w_c2
set_option maxRecDepth 65536 in
theorem w_t1 : (words1.take 24).all (fun c => isCode c || c.before args0 about1) = true := by decide +kernel
set_option maxRecDepth 65536 in
theorem w_t2 : (words1.drop 24).all (fun c => isCode c || c.before args0 about1) = true := by decide +kernel
theorem w_tables : (allAtoms (Jvm.Cond.code x code maxLocals ret :: tables_1)).before args0 about1 = true := by
  rw [allAtoms_all]
  show words1.all (fun c => c.before args0 about1) = true
  refine all_split ?_ w_codes
  rw [← List.take_append_drop 24 words1, List.all_append, w_t1, w_t2]
  rfl
set_option maxRecDepth 65536 in
theorem w_case : (Jvm.Cond.and given_1 narrow_1).before args0 about1 = true := by decide +kernel
theorem w_applies : (headSpec (Jvm.Cond.code x code maxLocals ret :: tables_1) room_1).applies x e0.platform about1 = true :=
  (Spec.applies_iff w_frames).mpr ⟨w_running, w_runnable, w_alone, w_named, w_hears, w_ripe, w_room, w_tables⟩
theorem atStart : AtStart classFile x code maxLocals ret World_1 tables_1 room_1 Calls_1 rest_1 Pre_1 launch0 p0 e0 about1 theMethod args0 below0 :=
  ⟨lists_1, trivial, launch0.admits_env _ _ _, launch0.least_env, fairChoices_fair.cas, fairChoices_fair.clock, w_frames, w_args, w_heap, w_applies, trivial, trivial, w_case⟩
end start1
theorem witness_1 : WitnessClaimed_1 := ⟨start1.p0, start1.e0, start1.about1, start1.theMethod, start1.args0, start1.below0, start1.atStart⟩
end Jvm.Pilot.@@N@@
