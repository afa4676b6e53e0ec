import JvmDerived
import JvmDerived.Pilot.@@N@@Statement
import JvmDerived.Pilot.@@N@@Code
set_option linter.unusedVariables false
set_option linter.unusedSimpArgs false
namespace Jvm.RoadKit
open Sem ClassFile Op Lib Jvm.Stand Jvm.Free Jvm.LawKit
section OwnGo
variable {p : Program} {l : Launch} {e : Env} {R : Room} {s : State} {m : MethodId} {args : Array Value} {below : List Frame} {meth : Method} {c : Code} {T U V : State} {locs : List Loc} {cells slots : Nat} {Q : Option Value → Heap → List Loc → Prop} {k n : Nat}
/-- from the state U the run ends within the frame, by a return of which Q holds -/
def Goes (p : Program) (e : Env) (below : List Frame) (s : State) (Q : Option Value → Heap → List Loc → Prop) (k n : Nat) (U : State) : Prop :=
  ∃ s₂ o, Steps p.tables e below U s₂ ∧ s₂.status = .running ∧ Ended s₂ below o ∧ ∃ v L, o = .returned v ∧ Q v s₂.heap L ∧ FrameEnd s o s₂ L k n
theorem Goes.st (st : ∀ t, Steps p.tables e below V t → Steps p.tables e below U t) (h : Goes p e below s Q k n V) : Goes p e below s Q k n U := by
  obtain ⟨s₂, o, h1, h2⟩ := h
  exact ⟨s₂, o, st _ h1, h2⟩
theorem Goes.tr (st : Steps p.tables e below U V) (h : Goes p e below s Q k n V) : Goes p e below s Q k n U := Goes.st (fun _ q => st.trans q) h
theorem Goes.cast {g g' : JFrame} (q : g = g') (h : Goes p e below s Q k n (T.setTop g')) : Goes p e below s Q k n (T.setTop g) := q ▸ h
theorem Goes.retN (X : Stand p l e R s m args below meth c T locs cells slots) (hx : p.tables.exec = Jvm.exec) {pc : Nat} {Ls : Array Slot} {z : Int32} {t : FieldType} {rest : List Value} (hret : meth.sig.returnType = some t) (hlk : meth.locks = false) (ht : t = .boolean ∨ t = .byte ∨ t = .char ∨ t = .short)
    (hd : decode c.code pc = .ok (.ireturn, 1)) (hc : cells ≤ k) (hs : slots ≤ n) (hq : Q (some (.int (nar t z))) T.heap locs) : Goes p e below s Q k n (T.setTop (mkF m pc Ls (.int z :: rest))) := by
  obtain ⟨fs, hr, hrun, hended, hW, hsame⟩ := X.leave (v := some (.int (nar t z))) (fun h => by rw [hret] at h; cases h) hlk
  exact ⟨_, _, Jvm.RoadKit.retN X hx hret ht hd hr, hrun, hended, _, _, rfl, hq, ⟨_, rfl⟩, hW, hsame.mono hc hs⟩
theorem Goes.retO (X : Stand p l e R s m args below meth c T locs cells slots) (hx : p.tables.exec = Jvm.exec) {pc : Nat} {Ls : Array Slot} {w : Value} {t : FieldType} {i : Instr} {rest : List Value} (hret : meth.sig.returnType = some t) (hlk : meth.locks = false) (hn : narrow t w = w)
    (hi : (i = .ireturn ∧ (t = .int ∨ t = .boolean ∨ t = .byte ∨ t = .char ∨ t = .short) ∧ ∃ z, w = .int z) ∨ (i = .lreturn ∧ t = .long ∧ ∃ z, w = .long z) ∨ (i = .dreturn ∧ t = .double ∧ ∃ z, w = .double z) ∨ (i = .freturn ∧ t = .float ∧ ∃ z, w = .float z) ∨ (i = .areturn ∧ t.isReference = true ∧ w.isRef = true))
    (hd : decode c.code pc = .ok (i, 1)) (hc : cells ≤ k) (hs : slots ≤ n) (hq : Q (some w) T.heap locs) : Goes p e below s Q k n (T.setTop (mkF m pc Ls (w :: rest))) := by
  obtain ⟨fs, hr, hrun, hended, hW, hsame⟩ := X.leave (v := some w) (fun h => by rw [hret] at h; cases h) hlk
  exact ⟨_, _, Jvm.RoadKit.retOut X hx hret hn hi hd hr, hrun, hended, _, _, rfl, hq, ⟨_, rfl⟩, hW, hsame.mono hc hs⟩
theorem Goes.ret0 (X : Stand p l e R s m args below meth c T locs cells slots) (hx : p.tables.exec = Jvm.exec) {pc : Nat} {Ls : Array Slot} (hret : meth.sig.returnType = none) (hlk : meth.locks = false)
    (hd : decode c.code pc = .ok (.return_, 1)) (hc : cells ≤ k) (hs : slots ≤ n) (hq : Q none T.heap locs) : Goes p e below s Q k n (T.setTop (mkF m pc Ls [])) := by
  obtain ⟨fs, hr, hrun, hended, hW, hsame⟩ := X.leave (v := none) (fun _ => rfl) hlk
  exact ⟨_, _, X.returnOut hx hret hd hr, hrun, hended, _, _, rfl, hq, ⟨_, rfl⟩, hW, hsame.mono hc hs⟩
end OwnGo
end Jvm.RoadKit
namespace Jvm.Pilot.@@N@@
open Jvm Jvm.ClassFile Sem Op Lib Jvm.Free Jvm.Stand Jvm.LawKit Jvm.RoadKit Bundle Jvm.Pilot.@@N@@.Jvm.D
theorem own_selp {Z s : State} {a0 args : Array Value} {y : MethodName} {n : Nat} (hZ : Z.Warmed39 s.vm) (wi : (Jvm.Cond.instantiable y.cls n).before a0 Z = true) (wm : (Jvm.Cond.instanceMethod y).before a0 Z = true) (wp : (Jvm.Cond.privateMethod y).before a0 Z = true) (hy : y.cls ≠ "java/lang/invoke/MethodHandle" ∧ y.cls ≠ "java/lang/invoke/VarHandle") : (Jvm.Cond.selects y.cls y y).before args s = true := by
  obtain ⟨c, k, h1, h2, h3, h4, -⟩ := Cond.instantiable_spec (mvT hZ wi (args := args))
  have h5 : k.isInterface = false := by cases hi : k.isInterface <;> simp [hi] at h4 ⊢
  exact selects_self_of_private h1 h2 h5 (Cond.privateMethod_at (mvP hZ wp (args := args))) (mvT hZ wm) hy
def own_bI (b : Bool) : Int32 := bif b then 1 else 0
theorem own_cat {v : Value} (h : v.isRef = true) : v.category = 1 := by cases v <;> simp [Value.isRef, Value.category] at h ⊢
theorem own_feq {args : Array Value} {s : State} {t u : Term} {C n d : String} {a w : Addr} (h : (Jvm.Cond.eq (.field t C n d) u).value args s none s [] = some true) (ht : t.eval args s none [] s = some (.ref a)) (hu : u.eval args s none [] s = some (.ref w)) : Fld s s.heap a C n d (.ref w) := by
  obtain ⟨x, y, e1, e2, k1, k2⟩ := cmp_v (Or.inl h)
  cases hu.symm.trans e2
  have hx : x.isRef = true := k2.2
  have q := gotT (eq_R e1 hu hx rfl) h
  subst q
  rw [fld_at ht] at e1
  exact Fld.start e1
theorem own_oeq {args : Array Value} {s : State} {t : Term} {C n d : String} {a : Addr} {k : Int32} (h : (Jvm.Cond.eq (.field t C n d) (.int k)).value args s none s [] = some true) (ht : t.eval args s none [] s = some (.ref a)) : Fld s s.heap a C n d (.int k) := by
  obtain ⟨x, y, e1, e2, k1, k2⟩ := cmp_v (Or.inl h)
  cases (Term.int_eval k).symm.trans e2
  obtain ⟨z, rfl⟩ := k2
  have q : z = k := by simpa [Jvm.Cond.value, e1, e2] using h
  subst q
  rw [fld_at ht] at e1
  exact Fld.start e1
section OwnRefs
variable {p : Program} {l : Launch} {e : Env} {R : Room} {s : State} {m : MethodId} {args : Array Value} {below : List Frame} {meth : Method} {c : Code} {T : State} {locs : List Loc} {cells slots : Nat} {Z : State} {a0 : Array Value} {h : Heap}
/-- invokespecial of a constructor whose pool entry has been resolved, by the callee's own contract -/
theorem own_specialRef (X : Stand p l e R s m args below meth c T locs cells slots) (hx : p.tables.exec = Jvm.exec) (hZ : Z.Warmed39 s.vm) {own : String} {index : Nat} {y : MethodName} (hy1 : y.name = "<init>")
    (hown : s.vm.findClass own = some m.cls) (w : (Jvm.Cond.methodRef own index y).before a0 Z = true) (hinst : (Jvm.Cond.instanceMethod y).before args s = true)
    {bytes : ByteArray} {maxL : Nat} (hcode : (Jvm.Cond.code y bytes maxL none).before args s = true) (hy : y.cls ≠ "java/lang/invoke/MethodHandle" ∧ y.cls ≠ "java/lang/invoke/VarHandle")
    {W : Nat} {Pre : Pt → Array Value → Prop} {Post : Pt → Array Value → Option Value → Pt → Prop} (hK : Back l R p e below s args y 3 W Pre Post)
    {g : JFrame} (hg : g.method = m) (hsize : g.locals.size = c.maxLocals) {s₀ : State} (hcome : Steps p.tables e below s₀ (T.setTop g)) {a : Addr} {argsL rest : List Value}
    (hlen : ∀ sig, parseMethodDescriptor y.desc = some sig → argsL.length = sig.parameters.length) (hstack : g.stack = argsL.reverse ++ .ref a :: rest) (hW : 2 * g.monitorRoom + (rest.map fun v => v.category).sum ≤ W)
    (hdg : decode c.code g.pc = .ok (.invokespecial index, 3)) (hpre : ∀ vm₁, s.WarmedH vm₁ → Pre ⟨T.setVm vm₁, locs, cells, slots⟩ (.ref a :: argsL).toArray) :
    ∃ (v : Option Value) (vm₁ : Vm) (B : Pt), s.WarmedH vm₁ ∧ Stand p l e R s m args below meth c B.U B.locs B.cells B.slots ∧ Post ⟨T.setVm vm₁, locs, cells, slots⟩ (.ref a :: argsL).toArray v B ∧
      Steps p.tables e below s₀ (B.U.setTop { g with pc := g.pc + 3, stack := v.toList ++ rest }) := by
  obtain ⟨mk, mt, hn, hm, hst, hab⟩ := Cond.instanceMethod_spec hinst
  obtain ⟨mt', cM, hm', -, -, -, -, -, -, hsig⟩ := Cond.code_spec hn hcode
  cases hm.symm.trans hm'
  obtain ⟨kO, hkO, -⟩ := className_of_methodNamed hn
  obtain ⟨hnm1, hds⟩ := name_of_methodNamed hn hm
  have hTZ : Z.Warmed39 T.vm := wtrans hZ X.warmed
  have hnT : T.methodNamed? y = some mk := X.named hn
  have hnT' : (Z.setVm T.vm).methodNamed? y = some mk := hnT
  have hnZ : Z.methodNamed? y = some mk := by rw [← State.methodNamed?_setVm hTZ.alike]; exact hnT'
  have w' := Cond.methodRef_warmed39 hTZ hnZ hy w
  have hoT : (Z.setVm T.vm).vm.findClass own = some m.cls := (X.warmed.alike.findClass _ _).trans hown
  obtain ⟨m', c', hf, hr, hc', hnr⟩ := Cond.methodRef_named e hoT w'
  cases hf.symm.trans (State.methodFound?_of_named hnT' hy)
  cases hc'.symm.trans (findClass_of_methodNamed hnT')
  have hlook : lookupSpecial T.vm mk.cls "<init>" mt.desc = .method mk := by
    rw [X.warmed.alike.lookupSpecial, hds, ← hy1]; exact lookupSpecial_of_named hn hm hst
  obtain ⟨kT, hkT, -⟩ := X.warmed.alike.2.2 _ _ hkO
  have hmT : T.vm.method? mk = some mt := by rw [X.warmed.alike.method?]; exact hm
  obtain ⟨v, B, X', hpost, hsteps⟩ := hK m meth c ⟨T.setVm T.vm, locs, cells, slots⟩ { g with stack := rest } (.invokespecial index) mk (.ref a :: argsL).toArray X hg hsize hdg hW (X.named hn) (hpre T.vm X.warmed)
  refine ⟨v, T.vm, B, X.warmed, X', hpost, hcome.trans ?_⟩
  subst hg
  jvm_step X.here [hx, hdg, Op.invokespecial.wp_init (e := e) (s := T) (k := kT) (meth := mt) (m := mk) (a := a) (args := argsL) (rest := rest) (f := g) X.here.top hnr hr hkT hmT (by rw [hnm1]; exact hy1) hst hab hlook (hlen _ hsig) hstack]
  intro acts
  rw [doInvoke_state]
  exact hsteps
end OwnRefs
def own_tag (r : Int32) : Prop := ∃ n : Nat, n < 256 ∧ r = Int32.ofNat n ∧ r &&& 31 ≠ 31
theorem own_m255 (x : Int32) : ∃ n : Nat, n < 256 ∧ x &&& 255 = Int32.ofNat n := by
  have h := c_mask x 255 8 (by decide) (by decide)
  refine ⟨(x &&& 255).toInt.toNat, by omega, ?_⟩
  apply Int32.toInt_inj.mp
  have h2 : (Int32.ofNat (x &&& 255).toInt.toNat).toInt = ((x &&& 255).toInt.toNat : Int) := Int32.toInt_ofNat_of_lt (by omega)
  rw [h2]; omega
theorem own_xor : ∀ n : Fin 256, Int32.ofNat n.1 &&& 31 = 31 → Int32.ofNat n.1 ^^^ 1 = Int32.ofNat (n.1 ^^^ 1) ∧ n.1 ^^^ 1 < 256 ∧ (Int32.ofNat n.1 ^^^ 1) &&& 31 ≠ 31 := by decide +kernel
theorem own_tagx {x : Int32} (h : (x &&& 255) &&& 31 = 31) : own_tag ((x &&& 255) ^^^ 1) := by
  obtain ⟨n, hn, e⟩ := own_m255 x
  rw [e] at h ⊢
  obtain ⟨h1, h2, h3⟩ := own_xor ⟨n, hn⟩ h
  exact ⟨_, h2, h1, h3⟩
theorem own_tag0 {x : Int32} (h : ¬ (x &&& 255) &&& 31 = 31) : own_tag (x &&& 255) := by
  obtain ⟨n, hn, e⟩ := own_m255 x
  exact ⟨n, hn, e, h⟩
theorem own_tagb : ∀ n : Fin 256, Int32.ofNat n.1 &&& 31 ≠ 31 → ((nar .byte (Int32.ofNat n.1).toInt8.toInt32) &&& 255) &&& 31 ≠ 31 := by decide +kernel
theorem own_tagB {r : Int32} (h : own_tag r) : ¬ ((nar .byte r.toInt8.toInt32) &&& 255) &&& 31 = 31 := by
  obtain ⟨n, hn, rfl, h2⟩ := h
  exact own_tagb ⟨n, hn⟩ h2
theorem own_m3 (x : Int32) : (x &&& 2147483647) % 3 = 0 ∨ (x &&& 2147483647) % 3 = 1 ∨ (x &&& 2147483647) % 3 = 2 := by
  have h1 := c_mask x 2147483647 31 (by decide) (by decide)
  have h2 := (c_irem (x &&& 2147483647) 3 3 rfl).1 (by omega)
  have : ((x &&& 2147483647) % 3).toInt = 0 ∨ ((x &&& 2147483647) % 3).toInt = 1 ∨ ((x &&& 2147483647) % 3).toInt = 2 := by omega
  rcases this with h | h | h
  · exact Or.inl (Int32.toInt_inj.mp h)
  · exact Or.inr (Or.inl (Int32.toInt_inj.mp h))
  · exact Or.inr (Or.inr (Int32.toInt_inj.mp h))
def own_R (Z : State) (h : Heap) (a ab : Addr) (p e : Int32) : Prop := Exa Z h a "com/example/torniquete/torniquete/core/DerReader" ∧ Fld Z h a "com/example/torniquete/torniquete/core/DerReader" "bytes" "[B" (.ref ab) ∧ Fld Z h a "com/example/torniquete/torniquete/core/DerReader" "position" "I" (.int p) ∧ Fld Z h a "com/example/torniquete/torniquete/core/DerReader" "end" "I" (.int e)
def own_QT (Z : State) (h0 : Heap) (n0 : Nat) (v : Option Value) (h : Heap) (L : List Loc) : Prop := ∃ r : Int32, v = some (.int r) ∧ Fr n0 L ∧ h = h0 ∧ own_tag r
def own_QI (Z : State) (a ab : Addr) (p e : Int32) (h0 : Heap) (n0 : Nat) (v : Option Value) (h : Heap) (L : List Loc) : Prop := v = none ∧ Fr n0 L ∧ Keep h0 h [a] ∧ own_R Z h a ab p e
def own_QH (Z : State) (b : Bool) (h0 : Heap) (n0 : Nat) (v : Option Value) (h : Heap) (L : List Loc) : Prop := v = some (.int (own_bI b)) ∧ Fr n0 L ∧ h = h0
def own_QE (Z : State) (a : Addr) (h0 : Heap) (n0 : Nat) (v : Option Value) (h : Heap) (L : List Loc) : Prop := v = none ∧ Fr n0 L ∧ Keep h0 h [a]
def own_QL (Z : State) (a ab : Addr) (r p : Int32) (h0 : Heap) (n0 : Nat) (v : Option Value) (h : Heap) (L : List Loc) : Prop := v = some (.int r) ∧ Fr n0 L ∧ Keep h0 h [a] ∧ own_R Z h a ab p 6
def own_QN (Z : State) (a ab : Addr) (p : Int32) (h0 : Heap) (n0 : Nat) (v : Option Value) (h : Heap) (L : List Loc) : Prop := ∃ x : Addr, v = some (.ref x) ∧ Fr n0 L ∧ Keep h0 h [a] ∧ own_R Z h a ab p 6
def own_Q0 (Z : State) (h0 : Heap) (n0 : Nat) (v : Option Value) (h : Heap) (L : List Loc) : Prop := v = some (.int 1) ∧ Fr n0 L
theorem own_d_method_2_0 : decode method_2_code 0 = .ok (.iload_n 0, 1) := by decide +kernel
theorem own_d_method_2_1 : decode method_2_code 1 = .ok (.sipush 255, 3) := by decide +kernel
theorem own_d_method_2_4 : decode method_2_code 4 = .ok (.iand, 1) := by decide +kernel
theorem own_d_method_2_5 : decode method_2_code 5 = .ok (.istore_n 1, 1) := by decide +kernel
theorem own_d_method_2_6 : decode method_2_code 6 = .ok (.iload_n 1, 1) := by decide +kernel
theorem own_d_method_2_7 : decode method_2_code 7 = .ok (.bipush 31, 2) := by decide +kernel
theorem own_d_method_2_9 : decode method_2_code 9 = .ok (.iand, 1) := by decide +kernel
theorem own_d_method_2_10 : decode method_2_code 10 = .ok (.bipush 31, 2) := by decide +kernel
theorem own_d_method_2_12 : decode method_2_code 12 = .ok (.if_icmp .ne 7, 3) := by decide +kernel
theorem own_d_method_2_15 : decode method_2_code 15 = .ok (.iload_n 1, 1) := by decide +kernel
theorem own_d_method_2_16 : decode method_2_code 16 = .ok (.iconst 1, 1) := by decide +kernel
theorem own_d_method_2_17 : decode method_2_code 17 = .ok (.ixor, 1) := by decide +kernel
theorem own_d_method_2_18 : decode method_2_code 18 = .ok (.istore_n 1, 1) := by decide +kernel
theorem own_d_method_2_19 : decode method_2_code 19 = .ok (.iload_n 1, 1) := by decide +kernel
theorem own_d_method_2_20 : decode method_2_code 20 = .ok (.ireturn, 1) := by decide +kernel
theorem own_pn15 : plainName "com/example/torniquete/torniquete/core/DerReaderHasNextPinLaw" = true := by first | (simp [plainName, overriddenIn]; done) | decide +kernel
theorem own_d_prog_17_2_0 : decode prog_17_method_2_code 0 = .ok (.aload_n 0, 1) := by decide +kernel
theorem own_d_prog_17_2_1 : decode prog_17_method_2_code 1 = .ok (.invokespecial 7, 3) := by decide +kernel
theorem own_d_prog_17_2_4 : decode prog_17_method_2_code 4 = .ok (.aload_n 0, 1) := by decide +kernel
theorem own_d_prog_17_2_5 : decode prog_17_method_2_code 5 = .ok (.aload_n 1, 1) := by decide +kernel
theorem own_d_prog_17_2_6 : decode prog_17_method_2_code 6 = .ok (.putfield 12, 3) := by decide +kernel
theorem own_d_prog_17_2_9 : decode prog_17_method_2_code 9 = .ok (.aload_n 0, 1) := by decide +kernel
theorem own_d_prog_17_2_10 : decode prog_17_method_2_code 10 = .ok (.iload_n 2, 1) := by decide +kernel
theorem own_d_prog_17_2_11 : decode prog_17_method_2_code 11 = .ok (.putfield 16, 3) := by decide +kernel
theorem own_d_prog_17_2_14 : decode prog_17_method_2_code 14 = .ok (.aload_n 0, 1) := by decide +kernel
theorem own_d_prog_17_2_15 : decode prog_17_method_2_code 15 = .ok (.iload_n 3, 1) := by decide +kernel
theorem own_d_prog_17_2_16 : decode prog_17_method_2_code 16 = .ok (.putfield 20, 3) := by decide +kernel
theorem own_d_prog_17_2_19 : decode prog_17_method_2_code 19 = .ok (.return_, 1) := by decide +kernel
theorem own_pn28 : plainName "com/example/torniquete/torniquete/core/DerReader" = true := by first | (simp [plainName, overriddenIn]; done) | decide +kernel
theorem own_d_prog_17_1_0 : decode prog_17_method_1_code 0 = .ok (.aload_n 0, 1) := by decide +kernel
theorem own_d_prog_17_1_1 : decode prog_17_method_1_code 1 = .ok (.aload_n 1, 1) := by decide +kernel
theorem own_d_prog_17_1_2 : decode prog_17_method_1_code 2 = .ok (.iconst 0, 1) := by decide +kernel
theorem own_d_prog_17_1_3 : decode prog_17_method_1_code 3 = .ok (.aload_n 1, 1) := by decide +kernel
theorem own_d_prog_17_1_4 : decode prog_17_method_1_code 4 = .ok (.arraylength, 1) := by decide +kernel
theorem own_pd34 : parseMethodDescriptor "([BII)V" = some ⟨[(.array .byte), .int, .int], none⟩ := by decide +kernel
theorem own_d_prog_17_1_5 : decode prog_17_method_1_code 5 = .ok (.invokespecial 1, 3) := by decide +kernel
theorem own_d_prog_17_1_8 : decode prog_17_method_1_code 8 = .ok (.return_, 1) := by decide +kernel
theorem own_d_prog_17_8_0 : decode prog_17_method_8_code 0 = .ok (.aload_n 0, 1) := by decide +kernel
theorem own_d_prog_17_8_1 : decode prog_17_method_8_code 1 = .ok (.getfield 16, 3) := by decide +kernel
theorem own_d_prog_17_8_4 : decode prog_17_method_8_code 4 = .ok (.aload_n 0, 1) := by decide +kernel
theorem own_d_prog_17_8_5 : decode prog_17_method_8_code 5 = .ok (.getfield 20, 3) := by decide +kernel
theorem own_d_prog_17_8_8 : decode prog_17_method_8_code 8 = .ok (.if_icmp .ge 7, 3) := by decide +kernel
theorem own_d_prog_17_8_11 : decode prog_17_method_8_code 11 = .ok (.iconst 1, 1) := by decide +kernel
theorem own_d_prog_17_8_12 : decode prog_17_method_8_code 12 = .ok (.goto 4, 3) := by decide +kernel
theorem own_d_prog_17_8_16 : decode prog_17_method_8_code 16 = .ok (.ireturn, 1) := by decide +kernel
theorem own_d_prog_17_8_15 : decode prog_17_method_8_code 15 = .ok (.iconst 0, 1) := by decide +kernel
theorem own_d_prog_18_1_0 : decode prog_18_method_1_code 0 = .ok (.aload_n 0, 1) := by decide +kernel
theorem own_d_prog_18_1_1 : decode prog_18_method_1_code 1 = .ok (.invokespecial 3, 3) := by decide +kernel
theorem own_d_prog_18_1_4 : decode prog_18_method_1_code 4 = .ok (.aload_n 0, 1) := by decide +kernel
theorem own_d_prog_18_1_5 : decode prog_18_method_1_code 5 = .ok (.aload_n 1, 1) := by decide +kernel
theorem own_d_prog_18_1_6 : decode prog_18_method_1_code 6 = .ok (.putfield 9, 3) := by decide +kernel
theorem own_d_prog_18_1_9 : decode prog_18_method_1_code 9 = .ok (.aload_n 0, 1) := by decide +kernel
theorem own_d_prog_18_1_10 : decode prog_18_method_1_code 10 = .ok (.iload_n 2, 1) := by decide +kernel
theorem own_d_prog_18_1_11 : decode prog_18_method_1_code 11 = .ok (.putfield 15, 3) := by decide +kernel
theorem own_d_prog_18_1_14 : decode prog_18_method_1_code 14 = .ok (.aload_n 0, 1) := by decide +kernel
theorem own_d_prog_18_1_15 : decode prog_18_method_1_code 15 = .ok (.iload_n 3, 1) := by decide +kernel
theorem own_d_prog_18_1_16 : decode prog_18_method_1_code 16 = .ok (.putfield 19, 3) := by decide +kernel
theorem own_d_prog_18_1_19 : decode prog_18_method_1_code 19 = .ok (.aload_n 0, 1) := by decide +kernel
theorem own_d_prog_18_1_20 : decode prog_18_method_1_code 20 = .ok (.iload 4, 2) := by decide +kernel
theorem own_d_prog_18_1_22 : decode prog_18_method_1_code 22 = .ok (.putfield 22, 3) := by decide +kernel
theorem own_d_prog_18_1_25 : decode prog_18_method_1_code 25 = .ok (.aload_n 0, 1) := by decide +kernel
theorem own_d_prog_18_1_26 : decode prog_18_method_1_code 26 = .ok (.iload 5, 2) := by decide +kernel
theorem own_d_prog_18_1_28 : decode prog_18_method_1_code 28 = .ok (.putfield 25, 3) := by decide +kernel
theorem own_d_prog_18_1_31 : decode prog_18_method_1_code 31 = .ok (.return_, 1) := by decide +kernel
theorem own_pn64 : plainName "com/example/torniquete/torniquete/core/DerReader$Element" = true := by first | (simp [plainName, overriddenIn]; done) | decide +kernel
theorem own_d_prog_17_12_0 : decode prog_17_method_12_code 0 = .ok (.aload_n 0, 1) := by decide +kernel
theorem own_pd66 : parseMethodDescriptor "()Z" = some ⟨[], some .boolean⟩ := by decide +kernel
theorem own_d_prog_17_12_1 : decode prog_17_method_12_code 1 = .ok (.invokevirtual 34, 3) := by decide +kernel
theorem own_d_prog_17_12_4 : decode prog_17_method_12_code 4 = .ok (.ifCond .ne 9, 3) := by decide +kernel
theorem own_d_prog_17_12_13 : decode prog_17_method_12_code 13 = .ok (.aload_n 0, 1) := by decide +kernel
theorem own_d_prog_17_12_14 : decode prog_17_method_12_code 14 = .ok (.getfield 12, 3) := by decide +kernel
theorem own_d_prog_17_12_17 : decode prog_17_method_12_code 17 = .ok (.aload_n 0, 1) := by decide +kernel
theorem own_d_prog_17_12_18 : decode prog_17_method_12_code 18 = .ok (.dup, 1) := by decide +kernel
theorem own_d_prog_17_12_19 : decode prog_17_method_12_code 19 = .ok (.getfield 16, 3) := by decide +kernel
theorem own_d_prog_17_12_22 : decode prog_17_method_12_code 22 = .ok (.dup_x1, 1) := by decide +kernel
theorem own_d_prog_17_12_23 : decode prog_17_method_12_code 23 = .ok (.iconst 1, 1) := by decide +kernel
theorem own_d_prog_17_12_24 : decode prog_17_method_12_code 24 = .ok (.iadd, 1) := by decide +kernel
theorem own_d_prog_17_12_25 : decode prog_17_method_12_code 25 = .ok (.putfield 16, 3) := by decide +kernel
theorem own_d_prog_17_12_28 : decode prog_17_method_12_code 28 = .ok (.baload, 1) := by decide +kernel
theorem own_d_prog_17_12_29 : decode prog_17_method_12_code 29 = .ok (.sipush 255, 3) := by decide +kernel
theorem own_d_prog_17_12_32 : decode prog_17_method_12_code 32 = .ok (.iand, 1) := by decide +kernel
theorem own_d_prog_17_12_33 : decode prog_17_method_12_code 33 = .ok (.istore_n 1, 1) := by decide +kernel
theorem own_d_prog_17_12_34 : decode prog_17_method_12_code 34 = .ok (.iload_n 1, 1) := by decide +kernel
theorem own_d_prog_17_12_35 : decode prog_17_method_12_code 35 = .ok (.sipush 128, 3) := by decide +kernel
theorem own_d_prog_17_12_38 : decode prog_17_method_12_code 38 = .ok (.if_icmp .ge 5, 3) := by decide +kernel
theorem own_d_prog_17_12_41 : decode prog_17_method_12_code 41 = .ok (.iload_n 1, 1) := by decide +kernel
theorem own_d_prog_17_12_42 : decode prog_17_method_12_code 42 = .ok (.ireturn, 1) := by decide +kernel
theorem own_d_prog_17_12_43 : decode prog_17_method_12_code 43 = .ok (.iload_n 1, 1) := by decide +kernel
theorem own_d_prog_17_12_44 : decode prog_17_method_12_code 44 = .ok (.bipush 127, 2) := by decide +kernel
theorem own_d_prog_17_12_46 : decode prog_17_method_12_code 46 = .ok (.iand, 1) := by decide +kernel
theorem own_d_prog_17_12_47 : decode prog_17_method_12_code 47 = .ok (.istore_n 2, 1) := by decide +kernel
theorem own_d_prog_17_12_48 : decode prog_17_method_12_code 48 = .ok (.iload_n 2, 1) := by decide +kernel
theorem own_d_prog_17_12_49 : decode prog_17_method_12_code 49 = .ok (.ifCond .ne 9, 3) := by decide +kernel
theorem own_d_prog_17_12_58 : decode prog_17_method_12_code 58 = .ok (.iload_n 2, 1) := by decide +kernel
theorem own_d_prog_17_12_59 : decode prog_17_method_12_code 59 = .ok (.iconst 4, 1) := by decide +kernel
theorem own_d_prog_17_12_60 : decode prog_17_method_12_code 60 = .ok (.if_icmp .gt 16, 3) := by decide +kernel
theorem own_d_prog_17_12_63 : decode prog_17_method_12_code 63 = .ok (.iload_n 2, 1) := by decide +kernel
theorem own_d_prog_17_12_64 : decode prog_17_method_12_code 64 = .ok (.aload_n 0, 1) := by decide +kernel
theorem own_d_prog_17_12_65 : decode prog_17_method_12_code 65 = .ok (.getfield 20, 3) := by decide +kernel
theorem own_d_prog_17_12_68 : decode prog_17_method_12_code 68 = .ok (.aload_n 0, 1) := by decide +kernel
theorem own_d_prog_17_12_69 : decode prog_17_method_12_code 69 = .ok (.getfield 16, 3) := by decide +kernel
theorem own_d_prog_17_12_72 : decode prog_17_method_12_code 72 = .ok (.isub, 1) := by decide +kernel
theorem own_d_prog_17_12_73 : decode prog_17_method_12_code 73 = .ok (.if_icmp .le 13, 3) := by decide +kernel
theorem own_d_prog_17_12_86 : decode prog_17_method_12_code 86 = .ok (.lconst 0, 1) := by decide +kernel
theorem own_d_prog_17_12_87 : decode prog_17_method_12_code 87 = .ok (.lstore_n 3, 1) := by decide +kernel
theorem own_d_prog_17_12_88 : decode prog_17_method_12_code 88 = .ok (.iconst 0, 1) := by decide +kernel
theorem own_d_prog_17_12_89 : decode prog_17_method_12_code 89 = .ok (.istore 5, 2) := by decide +kernel
theorem own_d_prog_17_12_91 : decode prog_17_method_12_code 91 = .ok (.iload 5, 2) := by decide +kernel
theorem own_d_prog_17_12_93 : decode prog_17_method_12_code 93 = .ok (.iload_n 2, 1) := by decide +kernel
theorem own_d_prog_17_12_94 : decode prog_17_method_12_code 94 = .ok (.if_icmp .ge 36, 3) := by decide +kernel
theorem own_d_prog_17_12_97 : decode prog_17_method_12_code 97 = .ok (.lload_n 3, 1) := by decide +kernel
theorem own_d_prog_17_12_98 : decode prog_17_method_12_code 98 = .ok (.bipush 8, 2) := by decide +kernel
theorem own_d_prog_17_12_100 : decode prog_17_method_12_code 100 = .ok (.lshl, 1) := by decide +kernel
theorem own_d_prog_17_12_101 : decode prog_17_method_12_code 101 = .ok (.aload_n 0, 1) := by decide +kernel
theorem own_d_prog_17_12_102 : decode prog_17_method_12_code 102 = .ok (.getfield 12, 3) := by decide +kernel
theorem own_d_prog_17_12_105 : decode prog_17_method_12_code 105 = .ok (.aload_n 0, 1) := by decide +kernel
theorem own_d_prog_17_12_106 : decode prog_17_method_12_code 106 = .ok (.dup, 1) := by decide +kernel
theorem own_d_prog_17_12_107 : decode prog_17_method_12_code 107 = .ok (.getfield 16, 3) := by decide +kernel
theorem own_d_prog_17_12_110 : decode prog_17_method_12_code 110 = .ok (.dup_x1, 1) := by decide +kernel
theorem own_d_prog_17_12_111 : decode prog_17_method_12_code 111 = .ok (.iconst 1, 1) := by decide +kernel
theorem own_d_prog_17_12_112 : decode prog_17_method_12_code 112 = .ok (.iadd, 1) := by decide +kernel
theorem own_d_prog_17_12_113 : decode prog_17_method_12_code 113 = .ok (.putfield 16, 3) := by decide +kernel
theorem own_d_prog_17_12_116 : decode prog_17_method_12_code 116 = .ok (.baload, 1) := by decide +kernel
theorem own_d_prog_17_12_117 : decode prog_17_method_12_code 117 = .ok (.sipush 255, 3) := by decide +kernel
theorem own_d_prog_17_12_120 : decode prog_17_method_12_code 120 = .ok (.iand, 1) := by decide +kernel
theorem own_d_prog_17_12_121 : decode prog_17_method_12_code 121 = .ok (.i2l, 1) := by decide +kernel
theorem own_d_prog_17_12_122 : decode prog_17_method_12_code 122 = .ok (.lor, 1) := by decide +kernel
theorem own_d_prog_17_12_123 : decode prog_17_method_12_code 123 = .ok (.lstore_n 3, 1) := by decide +kernel
theorem own_d_prog_17_12_124 : decode prog_17_method_12_code 124 = .ok (.iinc 5 1, 3) := by decide +kernel
theorem own_d_prog_17_12_127 : decode prog_17_method_12_code 127 = .ok (.goto (-36), 3) := by decide +kernel
theorem own_d_prog_17_12_130 : decode prog_17_method_12_code 130 = .ok (.lload_n 3, 1) := by decide +kernel
theorem own_d_prog_17_12_131 : decode prog_17_method_12_code 131 = .ok (.ldc2_w 153, 3) := by decide +kernel
theorem own_d_prog_17_12_134 : decode prog_17_method_12_code 134 = .ok (.lcmp, 1) := by decide +kernel
theorem own_d_prog_17_12_135 : decode prog_17_method_12_code 135 = .ok (.ifCond .le 13, 3) := by decide +kernel
theorem own_d_prog_17_12_148 : decode prog_17_method_12_code 148 = .ok (.lload_n 3, 1) := by decide +kernel
theorem own_d_prog_17_12_149 : decode prog_17_method_12_code 149 = .ok (.l2i, 1) := by decide +kernel
theorem own_d_prog_17_12_150 : decode prog_17_method_12_code 150 = .ok (.ireturn, 1) := by decide +kernel
theorem own_d_prog_17_11_0 : decode prog_17_method_11_code 0 = .ok (.aload_n 0, 1) := by decide +kernel
theorem own_d_prog_17_11_1 : decode prog_17_method_11_code 1 = .ok (.invokevirtual 34, 3) := by decide +kernel
theorem own_d_prog_17_11_4 : decode prog_17_method_11_code 4 = .ok (.ifCond .ne 9, 3) := by decide +kernel
theorem own_d_prog_17_11_13 : decode prog_17_method_11_code 13 = .ok (.aload_n 0, 1) := by decide +kernel
theorem own_d_prog_17_11_14 : decode prog_17_method_11_code 14 = .ok (.getfield 16, 3) := by decide +kernel
theorem own_d_prog_17_11_17 : decode prog_17_method_11_code 17 = .ok (.istore_n 1, 1) := by decide +kernel
theorem own_d_prog_17_11_18 : decode prog_17_method_11_code 18 = .ok (.aload_n 0, 1) := by decide +kernel
theorem own_d_prog_17_11_19 : decode prog_17_method_11_code 19 = .ok (.getfield 12, 3) := by decide +kernel
theorem own_d_prog_17_11_22 : decode prog_17_method_11_code 22 = .ok (.aload_n 0, 1) := by decide +kernel
theorem own_d_prog_17_11_23 : decode prog_17_method_11_code 23 = .ok (.dup, 1) := by decide +kernel
theorem own_d_prog_17_11_24 : decode prog_17_method_11_code 24 = .ok (.getfield 16, 3) := by decide +kernel
theorem own_d_prog_17_11_27 : decode prog_17_method_11_code 27 = .ok (.dup_x1, 1) := by decide +kernel
theorem own_d_prog_17_11_28 : decode prog_17_method_11_code 28 = .ok (.iconst 1, 1) := by decide +kernel
theorem own_d_prog_17_11_29 : decode prog_17_method_11_code 29 = .ok (.iadd, 1) := by decide +kernel
theorem own_d_prog_17_11_30 : decode prog_17_method_11_code 30 = .ok (.putfield 16, 3) := by decide +kernel
theorem own_d_prog_17_11_33 : decode prog_17_method_11_code 33 = .ok (.baload, 1) := by decide +kernel
theorem own_d_prog_17_11_34 : decode prog_17_method_11_code 34 = .ok (.sipush 255, 3) := by decide +kernel
theorem own_d_prog_17_11_37 : decode prog_17_method_11_code 37 = .ok (.iand, 1) := by decide +kernel
theorem own_d_prog_17_11_38 : decode prog_17_method_11_code 38 = .ok (.istore_n 2, 1) := by decide +kernel
theorem own_d_prog_17_11_39 : decode prog_17_method_11_code 39 = .ok (.iload_n 2, 1) := by decide +kernel
theorem own_d_prog_17_11_40 : decode prog_17_method_11_code 40 = .ok (.bipush 31, 2) := by decide +kernel
theorem own_d_prog_17_11_42 : decode prog_17_method_11_code 42 = .ok (.iand, 1) := by decide +kernel
theorem own_d_prog_17_11_43 : decode prog_17_method_11_code 43 = .ok (.bipush 31, 2) := by decide +kernel
theorem own_d_prog_17_11_45 : decode prog_17_method_11_code 45 = .ok (.if_icmp .ne 9, 3) := by decide +kernel
theorem own_d_prog_17_11_54 : decode prog_17_method_11_code 54 = .ok (.aload_n 0, 1) := by decide +kernel
theorem own_pd162 : parseMethodDescriptor "()I" = some ⟨[], some .int⟩ := by decide +kernel
theorem own_d_prog_17_11_55 : decode prog_17_method_11_code 55 = .ok (.invokevirtual 137, 3) := by decide +kernel
theorem own_d_prog_17_11_58 : decode prog_17_method_11_code 58 = .ok (.istore_n 3, 1) := by decide +kernel
theorem own_d_prog_17_11_59 : decode prog_17_method_11_code 59 = .ok (.iload_n 3, 1) := by decide +kernel
theorem own_d_prog_17_11_60 : decode prog_17_method_11_code 60 = .ok (.aload_n 0, 1) := by decide +kernel
theorem own_d_prog_17_11_61 : decode prog_17_method_11_code 61 = .ok (.getfield 20, 3) := by decide +kernel
theorem own_d_prog_17_11_64 : decode prog_17_method_11_code 64 = .ok (.aload_n 0, 1) := by decide +kernel
theorem own_d_prog_17_11_65 : decode prog_17_method_11_code 65 = .ok (.getfield 16, 3) := by decide +kernel
theorem own_d_prog_17_11_68 : decode prog_17_method_11_code 68 = .ok (.isub, 1) := by decide +kernel
theorem own_d_prog_17_11_69 : decode prog_17_method_11_code 69 = .ok (.if_icmp .le 9, 3) := by decide +kernel
theorem own_d_prog_17_11_78 : decode prog_17_method_11_code 78 = .ok (.new 62, 3) := by decide +kernel
theorem own_d_prog_17_11_81 : decode prog_17_method_11_code 81 = .ok (.dup, 1) := by decide +kernel
theorem own_d_prog_17_11_82 : decode prog_17_method_11_code 82 = .ok (.aload_n 0, 1) := by decide +kernel
theorem own_d_prog_17_11_83 : decode prog_17_method_11_code 83 = .ok (.getfield 12, 3) := by decide +kernel
theorem own_d_prog_17_11_86 : decode prog_17_method_11_code 86 = .ok (.iload_n 2, 1) := by decide +kernel
theorem own_d_prog_17_11_87 : decode prog_17_method_11_code 87 = .ok (.iload_n 1, 1) := by decide +kernel
theorem own_d_prog_17_11_88 : decode prog_17_method_11_code 88 = .ok (.aload_n 0, 1) := by decide +kernel
theorem own_d_prog_17_11_89 : decode prog_17_method_11_code 89 = .ok (.getfield 16, 3) := by decide +kernel
theorem own_d_prog_17_11_92 : decode prog_17_method_11_code 92 = .ok (.aload_n 0, 1) := by decide +kernel
theorem own_d_prog_17_11_93 : decode prog_17_method_11_code 93 = .ok (.getfield 16, 3) := by decide +kernel
theorem own_d_prog_17_11_96 : decode prog_17_method_11_code 96 = .ok (.iload_n 3, 1) := by decide +kernel
theorem own_d_prog_17_11_97 : decode prog_17_method_11_code 97 = .ok (.iadd, 1) := by decide +kernel
theorem own_pd184 : parseMethodDescriptor "([BIIII)V" = some ⟨[(.array .byte), .int, .int, .int, .int], none⟩ := by decide +kernel
theorem own_d_prog_17_11_98 : decode prog_17_method_11_code 98 = .ok (.invokespecial 142, 3) := by decide +kernel
theorem own_d_prog_17_11_101 : decode prog_17_method_11_code 101 = .ok (.astore 4, 2) := by decide +kernel
theorem own_d_prog_17_11_103 : decode prog_17_method_11_code 103 = .ok (.aload_n 0, 1) := by decide +kernel
theorem own_d_prog_17_11_104 : decode prog_17_method_11_code 104 = .ok (.dup, 1) := by decide +kernel
theorem own_d_prog_17_11_105 : decode prog_17_method_11_code 105 = .ok (.getfield 16, 3) := by decide +kernel
theorem own_d_prog_17_11_108 : decode prog_17_method_11_code 108 = .ok (.iload_n 3, 1) := by decide +kernel
theorem own_d_prog_17_11_109 : decode prog_17_method_11_code 109 = .ok (.iadd, 1) := by decide +kernel
theorem own_d_prog_17_11_110 : decode prog_17_method_11_code 110 = .ok (.putfield 16, 3) := by decide +kernel
theorem own_d_prog_17_11_113 : decode prog_17_method_11_code 113 = .ok (.aload 4, 2) := by decide +kernel
theorem own_d_prog_17_11_115 : decode prog_17_method_11_code 115 = .ok (.areturn, 1) := by decide +kernel
theorem own_pd195 : parseMethodDescriptor "(I)I" = some ⟨[.int], some .int⟩ := by decide +kernel
theorem own_pd196 : parseMethodDescriptor "([B)V" = some ⟨[(.array .byte)], none⟩ := by decide +kernel
theorem own_pd197 : parseMethodDescriptor "()Lcom/example/torniquete/torniquete/core/DerReader$Element;" = some ⟨[], some (.object "com/example/torniquete/torniquete/core/DerReader$Element")⟩ := by decide +kernel
theorem own_rmT_ef (m : MethodId) (x : Int32) : entryFrame m #[(.int x)] 2 = mkF m 0 #[.val (.int x), .unset] [] := by first | (simp [entryFrame, mkF, argsToLocals, Value.category]; done) | rfl
set_option maxRecDepth 65536 in
set_option maxHeartbeats 40000000 in
theorem own_rmT (l : Launch) (Z : State) (a0 : Array Value) (hw : ∀ d ∈ tables_1, d.before a0 Z = true) (ws : List Jvm.Cond) (x : Int32) (h0 : Heap) (n0 : Nat) (Z0 : n0 ≤ h0.size)  :
    MetFree l (⟨"com/example/torniquete/torniquete/core/DerReaderHasNextPinLaw", "tag", "(I)I"⟩ : MethodName) (head1 (Jvm.Cond.code (⟨"com/example/torniquete/torniquete/core/DerReaderHasNextPinLaw", "tag", "(I)I"⟩ : MethodName) method_2_code 2 (some .int) :: ws) ({ frames := 0, cells := 0, slots := 0, locals := 0 } : Room)) (fun aa_ U => aa_ = #[(.int x)] ∧ Z.Warmed39 U.vm ∧ U.heap = h0) (fun _ _ _ _ _ => True) (fun _ U oo_ U' => ∃ vv_ LL_, oo_ = .returned vv_ ∧ own_QT Z  h0 n0 vv_ U'.heap LL_ ∧ FrameEnd U oo_ U' LL_ ({ frames := 0, cells := 0, slots := 0, locals := 0 } : Room).cells ({ frames := 0, cells := 0, slots := 0, locals := 0 } : Room).slots) := by
  refine MetFree.of_bodySF (plainFor_of_name own_pn15) hisR ?_
  intro p e s m args below meth c s₁ Bd hml0 hP hK
  obtain ⟨rfl, hZ, hh⟩ := hP
  have hx := Bd.exec
  have hby := Bd.bytes
  have hml : c.maxLocals = 2 := hml0
  have hown : s.vm.findClass "com/example/torniquete/torniquete/core/DerReaderHasNextPinLaw" = some m.cls := findClass_of_methodNamed Bd.named
  have hnm := (name_of_methodNamed Bd.named Bd.method).1
  have hlk := Bd.notSynchronized
  have hret := Bd.returns
  have X0 : Stand p l e ({ frames := 0, cells := 0, slots := 0, locals := 0 } : Room) s m #[(.int x)] below meth c s₁ [] 0 0 := Stand.of_body Bd
  have e0 : s₁.heap = h0 := by rw [← hh, Bd.state]; rfl
  have N0 := Fr.nil n0
  show Goes p e below s (own_QT Z  h0 n0) ({ frames := 0, cells := 0, slots := 0, locals := 0 } : Room).cells ({ frames := 0, cells := 0, slots := 0, locals := 0 } : Room).slots _
  refine Goes.cast (own_rmT_ef m x) ?_
  show Goes p e below s _ _ _ (s₁.setTop (mkF m 0 #[.val (.int x), .unset] []))
  refine Goes.st (fun t_ k_ => XS.iloadN X0.here hx rfl (hb hby own_d_method_2_0) rfl  k_) ?_
  show Goes p e below s _ _ _ (s₁.setTop (mkF m 1 #[.val (.int x), .unset] [(.int x)]))
  refine Goes.st (fun t_ k_ => XS.sipush X0.here hx rfl (hb hby own_d_method_2_1) k_) ?_
  show Goes p e below s _ _ _ (s₁.setTop (mkF m 4 #[.val (.int x), .unset] [(.int (255 : Int32)), (.int x)]))
  refine Goes.st (fun t_ k_ => XS.iand X0.here hx rfl (hb hby own_d_method_2_4) rfl k_) ?_
  show Goes p e below s _ _ _ (s₁.setTop (mkF m 5 #[.val (.int x), .unset] [(.int (x &&& (255 : Int32)))]))
  refine Goes.st (fun t_ k_ => XS.istoreN X0.here hx rfl (hb hby own_d_method_2_5) rfl  (l' := #[.val (.int x), .val (.int (x &&& (255 : Int32)))]) rfl k_) ?_
  show Goes p e below s _ _ _ (s₁.setTop (mkF m 6 #[.val (.int x), .val (.int (x &&& (255 : Int32)))] []))
  refine Goes.st (fun t_ k_ => XS.iloadN X0.here hx rfl (hb hby own_d_method_2_6) rfl  k_) ?_
  show Goes p e below s _ _ _ (s₁.setTop (mkF m 7 #[.val (.int x), .val (.int (x &&& (255 : Int32)))] [(.int (x &&& (255 : Int32)))]))
  refine Goes.st (fun t_ k_ => XS.bipush X0.here hx rfl (hb hby own_d_method_2_7) k_) ?_
  show Goes p e below s _ _ _ (s₁.setTop (mkF m 9 #[.val (.int x), .val (.int (x &&& (255 : Int32)))] [(.int (31 : Int32)), (.int (x &&& (255 : Int32)))]))
  refine Goes.st (fun t_ k_ => XS.iand X0.here hx rfl (hb hby own_d_method_2_9) rfl k_) ?_
  show Goes p e below s _ _ _ (s₁.setTop (mkF m 10 #[.val (.int x), .val (.int (x &&& (255 : Int32)))] [(.int ((x &&& (255 : Int32)) &&& (31 : Int32)))]))
  refine Goes.st (fun t_ k_ => XS.bipush X0.here hx rfl (hb hby own_d_method_2_10) k_) ?_
  show Goes p e below s _ _ _ (s₁.setTop (mkF m 12 #[.val (.int x), .val (.int (x &&& (255 : Int32)))] [(.int (31 : Int32)), (.int ((x &&& (255 : Int32)) &&& (31 : Int32)))]))
  by_cases hc : ((x &&& (255 : Int32)) &&& (31 : Int32)) = (31 : Int32)
  · refine Goes.st (fun t_ k_ => XS.icmpNo X0.here hx rfl (hb hby own_d_method_2_12) rfl (teq hc).2 k_) ?_
    show Goes p e below s _ _ _ (s₁.setTop (mkF m 15 #[.val (.int x), .val (.int (x &&& (255 : Int32)))] []))
    refine Goes.st (fun t_ k_ => XS.iloadN X0.here hx rfl (hb hby own_d_method_2_15) rfl  k_) ?_
    show Goes p e below s _ _ _ (s₁.setTop (mkF m 16 #[.val (.int x), .val (.int (x &&& (255 : Int32)))] [(.int (x &&& (255 : Int32)))]))
    refine Goes.st (fun t_ k_ => XS.iconst X0.here hx rfl (hb hby own_d_method_2_16) k_) ?_
    show Goes p e below s _ _ _ (s₁.setTop (mkF m 17 #[.val (.int x), .val (.int (x &&& (255 : Int32)))] [(.int (1 : Int32)), (.int (x &&& (255 : Int32)))]))
    refine Goes.st (fun t_ k_ => XS.ixor X0.here hx rfl (hb hby own_d_method_2_17) rfl k_) ?_
    show Goes p e below s _ _ _ (s₁.setTop (mkF m 18 #[.val (.int x), .val (.int (x &&& (255 : Int32)))] [(.int ((x &&& (255 : Int32)) ^^^ (1 : Int32)))]))
    refine Goes.st (fun t_ k_ => XS.istoreN X0.here hx rfl (hb hby own_d_method_2_18) rfl  (l' := #[.val (.int x), .val (.int ((x &&& (255 : Int32)) ^^^ (1 : Int32)))]) rfl k_) ?_
    show Goes p e below s _ _ _ (s₁.setTop (mkF m 19 #[.val (.int x), .val (.int ((x &&& (255 : Int32)) ^^^ (1 : Int32)))] []))
    refine Goes.st (fun t_ k_ => XS.iloadN X0.here hx rfl (hb hby own_d_method_2_19) rfl  k_) ?_
    show Goes p e below s _ _ _ (s₁.setTop (mkF m 20 #[.val (.int x), .val (.int ((x &&& (255 : Int32)) ^^^ (1 : Int32)))] [(.int ((x &&& (255 : Int32)) ^^^ (1 : Int32)))]))
    exact Goes.retO X0 hx hret hlk rfl (Or.inl ⟨rfl, Or.inl rfl, _, rfl⟩) (hb hby own_d_method_2_20) (by decide) (by decide) (⟨_, rfl, N0, e0, own_tagx hc⟩)
  · refine Goes.st (fun t_ k_ => XS.icmpYes X0.here hx rfl (pc0 := 12) (pc' := 19) rfl (hb hby own_d_method_2_12) rfl (feq hc).2 (by decide) (by decide) k_) ?_
    show Goes p e below s _ _ _ (s₁.setTop (mkF m 19 #[.val (.int x), .val (.int (x &&& (255 : Int32)))] []))
    refine Goes.st (fun t_ k_ => XS.iloadN X0.here hx rfl (hb hby own_d_method_2_19) rfl  k_) ?_
    show Goes p e below s _ _ _ (s₁.setTop (mkF m 20 #[.val (.int x), .val (.int (x &&& (255 : Int32)))] [(.int (x &&& (255 : Int32)))]))
    exact Goes.retO X0 hx hret hlk rfl (Or.inl ⟨rfl, Or.inl rfl, _, rfl⟩) (hb hby own_d_method_2_20) (by decide) (by decide) (⟨_, rfl, N0, e0, own_tag0 hc⟩)
theorem own_rmI2_ef (m : MethodId) (a : Addr) (ab : Addr) (p0 : Int32) (p1 : Int32) : entryFrame m #[(.ref a), (.ref ab), (.int p0), (.int p1)] 4 = mkF m 0 #[.val (.ref a), .val (.ref ab), .val (.int p0), .val (.int p1)] [] := by first | (simp [entryFrame, mkF, argsToLocals, Value.category]; done) | rfl
set_option maxRecDepth 65536 in
set_option maxHeartbeats 40000000 in
theorem own_rmI2 (l : Launch) (Z : State) (a0 : Array Value) (hw : ∀ d ∈ tables_1, d.before a0 Z = true) (ws : List Jvm.Cond) (a ab : Addr) (p0 p1 : Int32) (h0 : Heap) (n0 : Nat) (Z0 : n0 ≤ h0.size) (E_a : Exa Z h0 a "com/example/torniquete/torniquete/core/DerReader") (Fbytes : Fld Z h0 a "com/example/torniquete/torniquete/core/DerReader" "bytes" "[B" .null) (Fposition : Fld Z h0 a "com/example/torniquete/torniquete/core/DerReader" "position" "I" (.int (0 : Int32))) (Fend : Fld Z h0 a "com/example/torniquete/torniquete/core/DerReader" "end" "I" (.int (0 : Int32))) (g_a : n0 ≤ a) :
    MetFree l (⟨"com/example/torniquete/torniquete/core/DerReader", "<init>", "([BII)V"⟩ : MethodName) (head1 (Jvm.Cond.code (⟨"com/example/torniquete/torniquete/core/DerReader", "<init>", "([BII)V"⟩ : MethodName) prog_17_method_2_code 4 none :: ws) ({ frames := 1, cells := 0, slots := 0, locals := 12 } : Room)) (fun aa_ U => aa_ = #[(.ref a), (.ref ab), (.int p0), (.int p1)] ∧ Z.Warmed39 U.vm ∧ U.heap = h0) (fun _ _ _ _ _ => True) (fun _ U oo_ U' => ∃ vv_ LL_, oo_ = .returned vv_ ∧ own_QI Z a ab p0 p1 h0 n0 vv_ U'.heap LL_ ∧ FrameEnd U oo_ U' LL_ ({ frames := 1, cells := 0, slots := 0, locals := 12 } : Room).cells ({ frames := 1, cells := 0, slots := 0, locals := 12 } : Room).slots) := by
  refine MetFree.of_bodySF (plainFor_of_name own_pn28) hisR ?_
  intro p e s m args below meth c s₁ Bd hml0 hP hK
  obtain ⟨rfl, hZ, hh⟩ := hP
  have hx := Bd.exec
  have hby := Bd.bytes
  have hml : c.maxLocals = 4 := hml0
  have hown : s.vm.findClass "com/example/torniquete/torniquete/core/DerReader" = some m.cls := findClass_of_methodNamed Bd.named
  have hnm := (name_of_methodNamed Bd.named Bd.method).1
  have hlk := Bd.notSynchronized
  have hret := Bd.returns
  have X0 : Stand p l e ({ frames := 1, cells := 0, slots := 0, locals := 12 } : Room) s m #[(.ref a), (.ref ab), (.int p0), (.int p1)] below meth c s₁ [] 0 0 := Stand.of_body Bd
  have e0 : s₁.heap = h0 := by rw [← hh, Bd.state]; rfl
  have N0 := Fr.nil n0
  show Goes p e below s (own_QI Z a ab p0 p1 h0 n0) ({ frames := 1, cells := 0, slots := 0, locals := 12 } : Room).cells ({ frames := 1, cells := 0, slots := 0, locals := 12 } : Room).slots _
  refine Goes.cast (own_rmI2_ef m a ab p0 p1) ?_
  have K0 := Keep.refl h0 [a]
  show Goes p e below s _ _ _ (s₁.setTop (mkF m 0 #[.val (.ref a), .val (.ref ab), .val (.int p0), .val (.int p1)] []))
  refine Goes.st (fun t_ k_ => XS.aloadN X0.here hx rfl (hb hby own_d_prog_17_2_0) rfl rfl k_) ?_
  show Goes p e below s _ _ _ (s₁.setTop (mkF m 1 #[.val (.ref a), .val (.ref ab), .val (.int p0), .val (.int p1)] [(.ref a)]))
  obtain ⟨T1, X1, e1, st1⟩ := initO X0 hx hZ hown (hw _ (List.mem_of_getElem? (i := 15) rfl)) (hw _ (List.mem_of_getElem? (i := 16) rfl)) (hw _ (List.mem_of_getElem? (i := 17) rfl)) e0 (g := (mkF m 1 #[.val (.ref a), .val (.ref ab), .val (.int p0), .val (.int p1)] [(.ref a)])) rfl (by rw [hml]; rfl) rfl (hb hby own_d_prog_17_2_1) (by decide) (W := 0) (by show 2 * 0 + _ ≤ _; exact Nat.le_of_eq rfl) (by decide)
  refine Goes.st st1 ?_
  show Goes p e below s _ _ _ (T1.setTop (mkF m 4 #[.val (.ref a), .val (.ref ab), .val (.int p0), .val (.int p1)] []))
  refine Goes.st (fun t_ k_ => XS.aloadN X1.here hx rfl (hb hby own_d_prog_17_2_4) rfl rfl k_) ?_
  show Goes p e below s _ _ _ (T1.setTop (mkF m 5 #[.val (.ref a), .val (.ref ab), .val (.int p0), .val (.int p1)] [(.ref a)]))
  refine Goes.st (fun t_ k_ => XS.aloadN X1.here hx rfl (hb hby own_d_prog_17_2_5) rfl rfl k_) ?_
  show Goes p e below s _ _ _ (T1.setTop (mkF m 6 #[.val (.ref a), .val (.ref ab), .val (.int p0), .val (.int p1)] [(.ref ab), (.ref a)]))
  obtain ⟨T2, h2, X2, e2, W2, st2⟩ := putF X1 hx hZ hown (host := "") (Or.inl (hw _ (List.mem_of_getElem? (i := 18) rfl))) Via.refl e1 Fbytes E_a (Or.inr ⟨(hw _ (List.mem_of_getElem? (i := 19) rfl)), rfl, hnm⟩) (hw _ (List.mem_of_getElem? (i := 7) rfl)) (ty := (.array .byte)) (by decide) rfl rfl (g := (mkF m 6 #[.val (.ref a), .val (.ref ab), .val (.int p0), .val (.int p1)] [(.ref ab), (.ref a)])) rfl rfl (hb hby own_d_prog_17_2_6)
  refine Goes.st st2 ?_
  have E_a := E_a.wr W2
  have Fbytes := Fbytes.same W2
  have Fposition := Fposition.other W2 (Or.inr (slot_ne (Or.inl (hw _ (List.mem_of_getElem? (i := 21) rfl))) (Or.inr (hw _ (List.mem_of_getElem? (i := 19) rfl))) (by decide) (t := .int) (t' := (.array .byte)) (by decide) (by decide)))
  have Fend := Fend.other W2 (Or.inr (slot_ne (Or.inr (hw _ (List.mem_of_getElem? (i := 23) rfl))) (Or.inr (hw _ (List.mem_of_getElem? (i := 19) rfl))) (by decide) (t := .int) (t' := (.array .byte)) (by decide) (by decide)))
  have N2 := Fr.snoc X2 N0 g_a
  have Z0' := Nat.le_trans Z0 (Keep.of_wr W2).1
  have K0 := K0.wr W2 (Or.inl (List.mem_of_getElem? (i := 0) rfl))
  show Goes p e below s _ _ _ (T2.setTop (mkF m 9 #[.val (.ref a), .val (.ref ab), .val (.int p0), .val (.int p1)] []))
  refine Goes.st (fun t_ k_ => XS.aloadN X2.here hx rfl (hb hby own_d_prog_17_2_9) rfl rfl k_) ?_
  show Goes p e below s _ _ _ (T2.setTop (mkF m 10 #[.val (.ref a), .val (.ref ab), .val (.int p0), .val (.int p1)] [(.ref a)]))
  refine Goes.st (fun t_ k_ => XS.iloadN X2.here hx rfl (hb hby own_d_prog_17_2_10) rfl  k_) ?_
  show Goes p e below s _ _ _ (T2.setTop (mkF m 11 #[.val (.ref a), .val (.ref ab), .val (.int p0), .val (.int p1)] [(.int p0), (.ref a)]))
  obtain ⟨T3, h3, X3, e3, W3, st3⟩ := putF X2 hx hZ hown (host := "") (Or.inl (hw _ (List.mem_of_getElem? (i := 20) rfl))) Via.refl e2 Fposition E_a (Or.inl (hw _ (List.mem_of_getElem? (i := 21) rfl))) (hw _ (List.mem_of_getElem? (i := 7) rfl)) (ty := .int) (by decide) rfl rfl (g := (mkF m 11 #[.val (.ref a), .val (.ref ab), .val (.int p0), .val (.int p1)] [(.int p0), (.ref a)])) rfl rfl (hb hby own_d_prog_17_2_11)
  refine Goes.st st3 ?_
  have E_a := E_a.wr W3
  have Fbytes := Fbytes.other W3 (Or.inr (slot_ne (Or.inr (hw _ (List.mem_of_getElem? (i := 19) rfl))) (Or.inl (hw _ (List.mem_of_getElem? (i := 21) rfl))) (by decide) (t := (.array .byte)) (t' := .int) (by decide) (by decide)))
  have Fposition := Fposition.same W3
  have Fend := Fend.other W3 (Or.inr (slot_ne (Or.inr (hw _ (List.mem_of_getElem? (i := 23) rfl))) (Or.inl (hw _ (List.mem_of_getElem? (i := 21) rfl))) (by decide) (t := .int) (t' := .int) (by decide) (by decide)))
  have N3 := Fr.snoc X3 N2 g_a
  have Z0'' := Nat.le_trans Z0' (Keep.of_wr W3).1
  have K0 := K0.wr W3 (Or.inl (List.mem_of_getElem? (i := 0) rfl))
  show Goes p e below s _ _ _ (T3.setTop (mkF m 14 #[.val (.ref a), .val (.ref ab), .val (.int p0), .val (.int p1)] []))
  refine Goes.st (fun t_ k_ => XS.aloadN X3.here hx rfl (hb hby own_d_prog_17_2_14) rfl rfl k_) ?_
  show Goes p e below s _ _ _ (T3.setTop (mkF m 15 #[.val (.ref a), .val (.ref ab), .val (.int p0), .val (.int p1)] [(.ref a)]))
  refine Goes.st (fun t_ k_ => XS.iloadN X3.here hx rfl (hb hby own_d_prog_17_2_15) rfl  k_) ?_
  show Goes p e below s _ _ _ (T3.setTop (mkF m 16 #[.val (.ref a), .val (.ref ab), .val (.int p0), .val (.int p1)] [(.int p1), (.ref a)]))
  obtain ⟨T4, h4, X4, e4, W4, st4⟩ := putF X3 hx hZ hown (host := "") (Or.inl (hw _ (List.mem_of_getElem? (i := 22) rfl))) Via.refl e3 Fend E_a (Or.inr ⟨(hw _ (List.mem_of_getElem? (i := 23) rfl)), rfl, hnm⟩) (hw _ (List.mem_of_getElem? (i := 7) rfl)) (ty := .int) (by decide) rfl rfl (g := (mkF m 16 #[.val (.ref a), .val (.ref ab), .val (.int p0), .val (.int p1)] [(.int p1), (.ref a)])) rfl rfl (hb hby own_d_prog_17_2_16)
  refine Goes.st st4 ?_
  have E_a := E_a.wr W4
  have Fbytes := Fbytes.other W4 (Or.inr (slot_ne (Or.inr (hw _ (List.mem_of_getElem? (i := 19) rfl))) (Or.inr (hw _ (List.mem_of_getElem? (i := 23) rfl))) (by decide) (t := (.array .byte)) (t' := .int) (by decide) (by decide)))
  have Fposition := Fposition.other W4 (Or.inr (slot_ne (Or.inl (hw _ (List.mem_of_getElem? (i := 21) rfl))) (Or.inr (hw _ (List.mem_of_getElem? (i := 23) rfl))) (by decide) (t := .int) (t' := .int) (by decide) (by decide)))
  have Fend := Fend.same W4
  have N4 := Fr.snoc X4 N3 g_a
  have Z0''' := Nat.le_trans Z0'' (Keep.of_wr W4).1
  have K0 := K0.wr W4 (Or.inl (List.mem_of_getElem? (i := 0) rfl))
  show Goes p e below s _ _ _ (T4.setTop (mkF m 19 #[.val (.ref a), .val (.ref ab), .val (.int p0), .val (.int p1)] []))
  rw [← e4] at K0 E_a Fbytes Fposition Fend
  exact Goes.ret0 X4 hx hret hlk (hb hby own_d_prog_17_2_19) (by decide) (by decide) (⟨rfl, N4, K0, E_a, Fbytes, Fposition, Fend⟩)
theorem own_rmI1_ef (m : MethodId) (a : Addr) (ab : Addr) : entryFrame m #[(.ref a), (.ref ab)] 2 = mkF m 0 #[.val (.ref a), .val (.ref ab)] [] := by first | (simp [entryFrame, mkF, argsToLocals, Value.category]; done) | rfl
set_option maxRecDepth 65536 in
set_option maxHeartbeats 40000000 in
theorem own_rmI1 (l : Launch) (Z : State) (a0 : Array Value) (hw : ∀ d ∈ tables_1, d.before a0 Z = true) (ws : List Jvm.Cond) (a ab : Addr) (k : ClassId) (z : Int32) (vs : List Value) (h0 : Heap) (n0 : Nat) (Z0 : n0 ≤ h0.size) (E_a : Exa Z h0 a "com/example/torniquete/torniquete/core/DerReader") (Fbytes : Fld Z h0 a "com/example/torniquete/torniquete/core/DerReader" "bytes" "[B" .null) (Fposition : Fld Z h0 a "com/example/torniquete/torniquete/core/DerReader" "position" "I" (.int (0 : Int32))) (Fend : Fld Z h0 a "com/example/torniquete/torniquete/core/DerReader" "end" "I" (.int (0 : Int32))) (V_ab : Arv Z h0 ab k .byte z vs (.int (0 : Int32))) (g_a : n0 ≤ a) :
    MetFree l (⟨"com/example/torniquete/torniquete/core/DerReader", "<init>", "([B)V"⟩ : MethodName) (head1 (Jvm.Cond.code (⟨"com/example/torniquete/torniquete/core/DerReader", "<init>", "([B)V"⟩ : MethodName) prog_17_method_1_code 2 none :: ws) ({ frames := 2, cells := 0, slots := 0, locals := 27 } : Room)) (fun aa_ U => aa_ = #[(.ref a), (.ref ab)] ∧ Z.Warmed39 U.vm ∧ U.heap = h0) (fun _ _ _ _ _ => True) (fun _ U oo_ U' => ∃ vv_ LL_, oo_ = .returned vv_ ∧ own_QI Z a ab 0 z h0 n0 vv_ U'.heap LL_ ∧ FrameEnd U oo_ U' LL_ ({ frames := 2, cells := 0, slots := 0, locals := 27 } : Room).cells ({ frames := 2, cells := 0, slots := 0, locals := 27 } : Room).slots) := by
  refine MetFree.of_bodySF (plainFor_of_name own_pn28) hisR ?_
  intro p e s m args below meth c s₁ Bd hml0 hP hK
  obtain ⟨rfl, hZ, hh⟩ := hP
  have hx := Bd.exec
  have hby := Bd.bytes
  have hml : c.maxLocals = 2 := hml0
  have hown : s.vm.findClass "com/example/torniquete/torniquete/core/DerReader" = some m.cls := findClass_of_methodNamed Bd.named
  have hnm := (name_of_methodNamed Bd.named Bd.method).1
  have hlk := Bd.notSynchronized
  have hret := Bd.returns
  have X0 : Stand p l e ({ frames := 2, cells := 0, slots := 0, locals := 27 } : Room) s m #[(.ref a), (.ref ab)] below meth c s₁ [] 0 0 := Stand.of_body Bd
  have e0 : s₁.heap = h0 := by rw [← hh, Bd.state]; rfl
  have N0 := Fr.nil n0
  show Goes p e below s (own_QI Z a ab 0 z h0 n0) ({ frames := 2, cells := 0, slots := 0, locals := 27 } : Room).cells ({ frames := 2, cells := 0, slots := 0, locals := 27 } : Room).slots _
  refine Goes.cast (own_rmI1_ef m a ab) ?_
  show Goes p e below s _ _ _ (s₁.setTop (mkF m 0 #[.val (.ref a), .val (.ref ab)] []))
  refine Goes.st (fun t_ k_ => XS.aloadN X0.here hx rfl (hb hby own_d_prog_17_1_0) rfl rfl k_) ?_
  show Goes p e below s _ _ _ (s₁.setTop (mkF m 1 #[.val (.ref a), .val (.ref ab)] [(.ref a)]))
  refine Goes.st (fun t_ k_ => XS.aloadN X0.here hx rfl (hb hby own_d_prog_17_1_1) rfl rfl k_) ?_
  show Goes p e below s _ _ _ (s₁.setTop (mkF m 2 #[.val (.ref a), .val (.ref ab)] [(.ref ab), (.ref a)]))
  refine Goes.st (fun t_ k_ => XS.iconst X0.here hx rfl (hb hby own_d_prog_17_1_2) k_) ?_
  show Goes p e below s _ _ _ (s₁.setTop (mkF m 3 #[.val (.ref a), .val (.ref ab)] [(.int (0 : Int32)), (.ref ab), (.ref a)]))
  refine Goes.st (fun t_ k_ => XS.aloadN X0.here hx rfl (hb hby own_d_prog_17_1_3) rfl rfl k_) ?_
  show Goes p e below s _ _ _ (s₁.setTop (mkF m 4 #[.val (.ref a), .val (.ref ab)] [(.ref ab), (.int (0 : Int32)), (.ref ab), (.ref a)]))
  have VV5 := V_ab
  obtain ⟨cl5, Ar5, -, S5, M5, -, -⟩ := VV5
  refine Goes.st (fun t_ k_ => X0.arraylength hx (by rw [e0]; exact Ar5.1) (State.isArrayOf_alike hZ.alike Ar5.2.1) (g := (mkF m 4 #[.val (.ref a), .val (.ref ab)] [(.ref ab), (.int (0 : Int32)), (.ref ab), (.ref a)])) rfl rfl (hb hby own_d_prog_17_1_4) _ k_) ?_
  rw [len_of S5 M5]
  show Goes p e below s _ _ _ (s₁.setTop (mkF m 5 #[.val (.ref a), .val (.ref ab)] [(.int z), (.int (0 : Int32)), (.ref ab), (.ref a)]))
  obtain ⟨_, _, ⟨T6, L6, k6, n6⟩, -, X6, ⟨Lc6, hQ6, l6, y6, z6⟩, st6⟩ := X0.specialBack hx (y := (⟨"com/example/torniquete/torniquete/core/DerReader", "<init>", "([BII)V"⟩ : MethodName)) rfl hown (mvT hZ (hw _ (List.mem_of_getElem? (i := 12) rfl))) (mvT hZ (hw _ (List.mem_of_getElem? (i := 13) rfl))) (mvT hZ (hw _ (List.mem_of_getElem? (i := 14) rfl))) (by decide) (backOf (W := 0) (own_rmI2 l Z a0 hw [] a ab 0 z h0 n0 Z0 E_a Fbytes Fposition Fend g_a) hZ (hw _ (List.mem_of_getElem? (i := 14) rfl)) (hw _ (List.mem_of_getElem? (i := 8) rfl)) (by decide) (by decide)) (g := (mkF m 5 #[.val (.ref a), .val (.ref ab)] [(.int z), (.int (0 : Int32)), (.ref ab), (.ref a)])) rfl (by rw [hml]; rfl) (Steps.refl _) (a := a) (argsL := [(.ref ab), (.int (0 : Int32)), (.int z)]) (rest := []) (lenOf own_pd34 rfl) rfl (by show 2 * 0 + _ ≤ _; exact Nat.le_of_eq rfl) (hb hby own_d_prog_17_1_5) (fun _ _ => ⟨rfl, e0, (by decide : 0 + 0 ≤ _), (by decide : 0 + 0 ≤ _)⟩)
  dsimp only [Pt.U, Pt.locs, Pt.cells, Pt.slots] at X6 l6 y6 z6 st6 hQ6
  subst l6 y6 z6
  obtain ⟨rfl, N6q, KI, HR⟩ := hQ6
  have N6 := Fr.app N0 N6q
  refine Goes.tr st6 ?_
  have Z0' := Nat.le_trans Z0 KI.1
  show Goes p e below s _ _ _ (T6.setTop (mkF m 8 #[.val (.ref a), .val (.ref ab)] []))
  exact Goes.ret0 X6 hx hret hlk (hb hby own_d_prog_17_1_8) (by decide) (by decide) (⟨rfl, N6, KI, HR⟩)
theorem own_rmH_ef (m : MethodId) (a : Addr) : entryFrame m #[(.ref a)] 1 = mkF m 0 #[.val (.ref a)] [] := by first | (simp [entryFrame, mkF, argsToLocals, Value.category]; done) | rfl
set_option maxRecDepth 65536 in
set_option maxHeartbeats 40000000 in
theorem own_rmH (l : Launch) (Z : State) (a0 : Array Value) (hw : ∀ d ∈ tables_1, d.before a0 Z = true) (ws : List Jvm.Cond) (a ab : Addr) (p1 e1 : Int32) (b : Bool) (h0 : Heap) (n0 : Nat) (Z0 : n0 ≤ h0.size) (HR : own_R Z h0 a ab p1 e1) (hb1 : decide (p1 < e1) = b) :
    MetFree l (⟨"com/example/torniquete/torniquete/core/DerReader", "hasNext", "()Z"⟩ : MethodName) (head1 (Jvm.Cond.code (⟨"com/example/torniquete/torniquete/core/DerReader", "hasNext", "()Z"⟩ : MethodName) prog_17_method_8_code 1 (some .boolean) :: ws) ({ frames := 0, cells := 0, slots := 0, locals := 0 } : Room)) (fun aa_ U => aa_ = #[(.ref a)] ∧ Z.Warmed39 U.vm ∧ U.heap = h0) (fun _ _ _ _ _ => True) (fun _ U oo_ U' => ∃ vv_ LL_, oo_ = .returned vv_ ∧ own_QH Z b h0 n0 vv_ U'.heap LL_ ∧ FrameEnd U oo_ U' LL_ ({ frames := 0, cells := 0, slots := 0, locals := 0 } : Room).cells ({ frames := 0, cells := 0, slots := 0, locals := 0 } : Room).slots) := by
  refine MetFree.of_bodySF (plainFor_of_name own_pn28) hisR ?_
  intro p e s m args below meth c s₁ Bd hml0 hP hK
  obtain ⟨rfl, hZ, hh⟩ := hP
  have hx := Bd.exec
  have hby := Bd.bytes
  have hml : c.maxLocals = 1 := hml0
  have hown : s.vm.findClass "com/example/torniquete/torniquete/core/DerReader" = some m.cls := findClass_of_methodNamed Bd.named
  have hnm := (name_of_methodNamed Bd.named Bd.method).1
  have hlk := Bd.notSynchronized
  have hret := Bd.returns
  have X0 : Stand p l e ({ frames := 0, cells := 0, slots := 0, locals := 0 } : Room) s m #[(.ref a)] below meth c s₁ [] 0 0 := Stand.of_body Bd
  have e0 : s₁.heap = h0 := by rw [← hh, Bd.state]; rfl
  have N0 := Fr.nil n0
  show Goes p e below s (own_QH Z b h0 n0) ({ frames := 0, cells := 0, slots := 0, locals := 0 } : Room).cells ({ frames := 0, cells := 0, slots := 0, locals := 0 } : Room).slots _
  refine Goes.cast (own_rmH_ef m a) ?_
  obtain ⟨E_a, Fb_a, Fp_a, Fe_a⟩ := HR
  show Goes p e below s _ _ _ (s₁.setTop (mkF m 0 #[.val (.ref a)] []))
  refine Goes.st (fun t_ k_ => XS.aloadN X0.here hx rfl (hb hby own_d_prog_17_8_0) rfl rfl k_) ?_
  show Goes p e below s _ _ _ (s₁.setTop (mkF m 1 #[.val (.ref a)] [(.ref a)]))
  obtain ⟨T7, X7, e7, st7⟩ := getF X0 hx hZ hown (host := "") (Or.inl (hw _ (List.mem_of_getElem? (i := 20) rfl))) Via.refl e0 Fp_a (g := (mkF m 1 #[.val (.ref a)] [(.ref a)])) rfl rfl (hb hby own_d_prog_17_8_1)
  refine Goes.st st7 ?_
  show Goes p e below s _ _ _ (T7.setTop (mkF m 4 #[.val (.ref a)] [(.int p1)]))
  refine Goes.st (fun t_ k_ => XS.aloadN X7.here hx rfl (hb hby own_d_prog_17_8_4) rfl rfl k_) ?_
  show Goes p e below s _ _ _ (T7.setTop (mkF m 5 #[.val (.ref a)] [(.ref a), (.int p1)]))
  obtain ⟨T8, X8, e8, st8⟩ := getF X7 hx hZ hown (host := "") (Or.inl (hw _ (List.mem_of_getElem? (i := 22) rfl))) Via.refl e7 Fe_a (g := (mkF m 5 #[.val (.ref a)] [(.ref a), (.int p1)])) rfl rfl (hb hby own_d_prog_17_8_5)
  refine Goes.st st8 ?_
  show Goes p e below s _ _ _ (T8.setTop (mkF m 8 #[.val (.ref a)] [(.int e1), (.int p1)]))
  by_cases hc : p1 < e1
  · refine Goes.st (fun t_ k_ => XS.icmpNo X8.here hx rfl (hb hby own_d_prog_17_8_8) rfl (tlt hc).2.1 k_) ?_
    have hb2 : b = true := by rw [← hb1]; exact decide_eq_true hc
    show Goes p e below s _ _ _ (T8.setTop (mkF m 11 #[.val (.ref a)] []))
    refine Goes.st (fun t_ k_ => XS.iconst X8.here hx rfl (hb hby own_d_prog_17_8_11) k_) ?_
    show Goes p e below s _ _ _ (T8.setTop (mkF m 12 #[.val (.ref a)] [(.int (1 : Int32))]))
    refine Goes.st (fun t_ k_ => XS.goto X8.here hx rfl (pc0 := 12) (pc' := 16) rfl (hb hby own_d_prog_17_8_12) (by decide) (by decide) k_) ?_
    show Goes p e below s _ _ _ (T8.setTop (mkF m 16 #[.val (.ref a)] [(.int (1 : Int32))]))
    exact Goes.retN X8 hx (t := .boolean) hret hlk (by simp) (hb hby own_d_prog_17_8_16) (by decide) (by decide) (⟨by rw [hb2]; rfl, N0, e8⟩)
  · refine Goes.st (fun t_ k_ => XS.icmpYes X8.here hx rfl (pc0 := 8) (pc' := 15) rfl (hb hby own_d_prog_17_8_8) rfl (flt hc).2.1 (by decide) (by decide) k_) ?_
    have hb2 : b = false := by rw [← hb1]; exact decide_eq_false hc
    show Goes p e below s _ _ _ (T8.setTop (mkF m 15 #[.val (.ref a)] []))
    refine Goes.st (fun t_ k_ => XS.iconst X8.here hx rfl (hb hby own_d_prog_17_8_15) k_) ?_
    show Goes p e below s _ _ _ (T8.setTop (mkF m 16 #[.val (.ref a)] [(.int (0 : Int32))]))
    exact Goes.retN X8 hx (t := .boolean) hret hlk (by simp) (hb hby own_d_prog_17_8_16) (by decide) (by decide) (⟨by rw [hb2]; rfl, N0, e8⟩)
theorem own_rmE_ef (m : MethodId) (a : Addr) (ab : Addr) (q1 : Int32) (q2 : Int32) (q3 : Int32) (q4 : Int32) : entryFrame m #[(.ref a), (.ref ab), (.int q1), (.int q2), (.int q3), (.int q4)] 6 = mkF m 0 #[.val (.ref a), .val (.ref ab), .val (.int q1), .val (.int q2), .val (.int q3), .val (.int q4)] [] := by first | (simp [entryFrame, mkF, argsToLocals, Value.category]; done) | rfl
set_option maxRecDepth 65536 in
set_option maxHeartbeats 40000000 in
theorem own_rmE (l : Launch) (Z : State) (a0 : Array Value) (hw : ∀ d ∈ tables_1, d.before a0 Z = true) (ws : List Jvm.Cond) (a ab : Addr) (q1 q2 q3 q4 : Int32) (h0 : Heap) (n0 : Nat) (Z0 : n0 ≤ h0.size) (E_a : Exa Z h0 a "com/example/torniquete/torniquete/core/DerReader$Element") (Fbytes : Fld Z h0 a "com/example/torniquete/torniquete/core/DerReader$Element" "bytes" "[B" .null) (Ftag : Fld Z h0 a "com/example/torniquete/torniquete/core/DerReader$Element" "tag" "I" (.int (0 : Int32))) (Fstart : Fld Z h0 a "com/example/torniquete/torniquete/core/DerReader$Element" "start" "I" (.int (0 : Int32))) (FcontentsStart : Fld Z h0 a "com/example/torniquete/torniquete/core/DerReader$Element" "contentsStart" "I" (.int (0 : Int32))) (Fend : Fld Z h0 a "com/example/torniquete/torniquete/core/DerReader$Element" "end" "I" (.int (0 : Int32))) (g_a : n0 ≤ a) :
    MetFree l (⟨"com/example/torniquete/torniquete/core/DerReader$Element", "<init>", "([BIIII)V"⟩ : MethodName) (head1 (Jvm.Cond.code (⟨"com/example/torniquete/torniquete/core/DerReader$Element", "<init>", "([BIIII)V"⟩ : MethodName) prog_18_method_1_code 6 none :: ws) ({ frames := 1, cells := 0, slots := 0, locals := 12 } : Room)) (fun aa_ U => aa_ = #[(.ref a), (.ref ab), (.int q1), (.int q2), (.int q3), (.int q4)] ∧ Z.Warmed39 U.vm ∧ U.heap = h0) (fun _ _ _ _ _ => True) (fun _ U oo_ U' => ∃ vv_ LL_, oo_ = .returned vv_ ∧ own_QE Z a h0 n0 vv_ U'.heap LL_ ∧ FrameEnd U oo_ U' LL_ ({ frames := 1, cells := 0, slots := 0, locals := 12 } : Room).cells ({ frames := 1, cells := 0, slots := 0, locals := 12 } : Room).slots) := by
  refine MetFree.of_bodySF (plainFor_of_name own_pn64) hisR ?_
  intro p e s m args below meth c s₁ Bd hml0 hP hK
  obtain ⟨rfl, hZ, hh⟩ := hP
  have hx := Bd.exec
  have hby := Bd.bytes
  have hml : c.maxLocals = 6 := hml0
  have hown : s.vm.findClass "com/example/torniquete/torniquete/core/DerReader$Element" = some m.cls := findClass_of_methodNamed Bd.named
  have hnm := (name_of_methodNamed Bd.named Bd.method).1
  have hlk := Bd.notSynchronized
  have hret := Bd.returns
  have X0 : Stand p l e ({ frames := 1, cells := 0, slots := 0, locals := 12 } : Room) s m #[(.ref a), (.ref ab), (.int q1), (.int q2), (.int q3), (.int q4)] below meth c s₁ [] 0 0 := Stand.of_body Bd
  have e0 : s₁.heap = h0 := by rw [← hh, Bd.state]; rfl
  have N0 := Fr.nil n0
  show Goes p e below s (own_QE Z a h0 n0) ({ frames := 1, cells := 0, slots := 0, locals := 12 } : Room).cells ({ frames := 1, cells := 0, slots := 0, locals := 12 } : Room).slots _
  refine Goes.cast (own_rmE_ef m a ab q1 q2 q3 q4) ?_
  have K0 := Keep.refl h0 [a]
  show Goes p e below s _ _ _ (s₁.setTop (mkF m 0 #[.val (.ref a), .val (.ref ab), .val (.int q1), .val (.int q2), .val (.int q3), .val (.int q4)] []))
  refine Goes.st (fun t_ k_ => XS.aloadN X0.here hx rfl (hb hby own_d_prog_18_1_0) rfl rfl k_) ?_
  show Goes p e below s _ _ _ (s₁.setTop (mkF m 1 #[.val (.ref a), .val (.ref ab), .val (.int q1), .val (.int q2), .val (.int q3), .val (.int q4)] [(.ref a)]))
  obtain ⟨T9, X9, e9, st9⟩ := initO X0 hx hZ hown (hw _ (List.mem_of_getElem? (i := 45) rfl)) (hw _ (List.mem_of_getElem? (i := 16) rfl)) (hw _ (List.mem_of_getElem? (i := 17) rfl)) e0 (g := (mkF m 1 #[.val (.ref a), .val (.ref ab), .val (.int q1), .val (.int q2), .val (.int q3), .val (.int q4)] [(.ref a)])) rfl (by rw [hml]; rfl) rfl (hb hby own_d_prog_18_1_1) (by decide) (W := 0) (by show 2 * 0 + _ ≤ _; exact Nat.le_of_eq rfl) (by decide)
  refine Goes.st st9 ?_
  show Goes p e below s _ _ _ (T9.setTop (mkF m 4 #[.val (.ref a), .val (.ref ab), .val (.int q1), .val (.int q2), .val (.int q3), .val (.int q4)] []))
  refine Goes.st (fun t_ k_ => XS.aloadN X9.here hx rfl (hb hby own_d_prog_18_1_4) rfl rfl k_) ?_
  show Goes p e below s _ _ _ (T9.setTop (mkF m 5 #[.val (.ref a), .val (.ref ab), .val (.int q1), .val (.int q2), .val (.int q3), .val (.int q4)] [(.ref a)]))
  refine Goes.st (fun t_ k_ => XS.aloadN X9.here hx rfl (hb hby own_d_prog_18_1_5) rfl rfl k_) ?_
  show Goes p e below s _ _ _ (T9.setTop (mkF m 6 #[.val (.ref a), .val (.ref ab), .val (.int q1), .val (.int q2), .val (.int q3), .val (.int q4)] [(.ref ab), (.ref a)]))
  obtain ⟨T10, h10, X10, e10, W10, st10⟩ := putF X9 hx hZ hown (host := "") (Or.inl (hw _ (List.mem_of_getElem? (i := 46) rfl))) Via.refl e9 Fbytes E_a (Or.inr ⟨(hw _ (List.mem_of_getElem? (i := 47) rfl)), rfl, hnm⟩) (hw _ (List.mem_of_getElem? (i := 40) rfl)) (ty := (.array .byte)) (by decide) rfl rfl (g := (mkF m 6 #[.val (.ref a), .val (.ref ab), .val (.int q1), .val (.int q2), .val (.int q3), .val (.int q4)] [(.ref ab), (.ref a)])) rfl rfl (hb hby own_d_prog_18_1_6)
  refine Goes.st st10 ?_
  have E_a := E_a.wr W10
  have Fbytes := Fbytes.same W10
  have Ftag := Ftag.other W10 (Or.inr (slot_ne (Or.inr (hw _ (List.mem_of_getElem? (i := 49) rfl))) (Or.inr (hw _ (List.mem_of_getElem? (i := 47) rfl))) (by decide) (t := .int) (t' := (.array .byte)) (by decide) (by decide)))
  have Fstart := Fstart.other W10 (Or.inr (slot_ne (Or.inr (hw _ (List.mem_of_getElem? (i := 51) rfl))) (Or.inr (hw _ (List.mem_of_getElem? (i := 47) rfl))) (by decide) (t := .int) (t' := (.array .byte)) (by decide) (by decide)))
  have FcontentsStart := FcontentsStart.other W10 (Or.inr (slot_ne (Or.inr (hw _ (List.mem_of_getElem? (i := 53) rfl))) (Or.inr (hw _ (List.mem_of_getElem? (i := 47) rfl))) (by decide) (t := .int) (t' := (.array .byte)) (by decide) (by decide)))
  have Fend := Fend.other W10 (Or.inr (slot_ne (Or.inr (hw _ (List.mem_of_getElem? (i := 55) rfl))) (Or.inr (hw _ (List.mem_of_getElem? (i := 47) rfl))) (by decide) (t := .int) (t' := (.array .byte)) (by decide) (by decide)))
  have N10 := Fr.snoc X10 N0 g_a
  have Z0' := Nat.le_trans Z0 (Keep.of_wr W10).1
  have K0 := K0.wr W10 (Or.inl (List.mem_of_getElem? (i := 0) rfl))
  show Goes p e below s _ _ _ (T10.setTop (mkF m 9 #[.val (.ref a), .val (.ref ab), .val (.int q1), .val (.int q2), .val (.int q3), .val (.int q4)] []))
  refine Goes.st (fun t_ k_ => XS.aloadN X10.here hx rfl (hb hby own_d_prog_18_1_9) rfl rfl k_) ?_
  show Goes p e below s _ _ _ (T10.setTop (mkF m 10 #[.val (.ref a), .val (.ref ab), .val (.int q1), .val (.int q2), .val (.int q3), .val (.int q4)] [(.ref a)]))
  refine Goes.st (fun t_ k_ => XS.iloadN X10.here hx rfl (hb hby own_d_prog_18_1_10) rfl  k_) ?_
  show Goes p e below s _ _ _ (T10.setTop (mkF m 11 #[.val (.ref a), .val (.ref ab), .val (.int q1), .val (.int q2), .val (.int q3), .val (.int q4)] [(.int q1), (.ref a)]))
  obtain ⟨T11, h11, X11, e11, W11, st11⟩ := putF X10 hx hZ hown (host := "") (Or.inl (hw _ (List.mem_of_getElem? (i := 48) rfl))) Via.refl e10 Ftag E_a (Or.inr ⟨(hw _ (List.mem_of_getElem? (i := 49) rfl)), rfl, hnm⟩) (hw _ (List.mem_of_getElem? (i := 40) rfl)) (ty := .int) (by decide) rfl rfl (g := (mkF m 11 #[.val (.ref a), .val (.ref ab), .val (.int q1), .val (.int q2), .val (.int q3), .val (.int q4)] [(.int q1), (.ref a)])) rfl rfl (hb hby own_d_prog_18_1_11)
  refine Goes.st st11 ?_
  have E_a := E_a.wr W11
  have Fbytes := Fbytes.other W11 (Or.inr (slot_ne (Or.inr (hw _ (List.mem_of_getElem? (i := 47) rfl))) (Or.inr (hw _ (List.mem_of_getElem? (i := 49) rfl))) (by decide) (t := (.array .byte)) (t' := .int) (by decide) (by decide)))
  have Ftag := Ftag.same W11
  have Fstart := Fstart.other W11 (Or.inr (slot_ne (Or.inr (hw _ (List.mem_of_getElem? (i := 51) rfl))) (Or.inr (hw _ (List.mem_of_getElem? (i := 49) rfl))) (by decide) (t := .int) (t' := .int) (by decide) (by decide)))
  have FcontentsStart := FcontentsStart.other W11 (Or.inr (slot_ne (Or.inr (hw _ (List.mem_of_getElem? (i := 53) rfl))) (Or.inr (hw _ (List.mem_of_getElem? (i := 49) rfl))) (by decide) (t := .int) (t' := .int) (by decide) (by decide)))
  have Fend := Fend.other W11 (Or.inr (slot_ne (Or.inr (hw _ (List.mem_of_getElem? (i := 55) rfl))) (Or.inr (hw _ (List.mem_of_getElem? (i := 49) rfl))) (by decide) (t := .int) (t' := .int) (by decide) (by decide)))
  have N11 := Fr.snoc X11 N10 g_a
  have Z0'' := Nat.le_trans Z0' (Keep.of_wr W11).1
  have K0 := K0.wr W11 (Or.inl (List.mem_of_getElem? (i := 0) rfl))
  show Goes p e below s _ _ _ (T11.setTop (mkF m 14 #[.val (.ref a), .val (.ref ab), .val (.int q1), .val (.int q2), .val (.int q3), .val (.int q4)] []))
  refine Goes.st (fun t_ k_ => XS.aloadN X11.here hx rfl (hb hby own_d_prog_18_1_14) rfl rfl k_) ?_
  show Goes p e below s _ _ _ (T11.setTop (mkF m 15 #[.val (.ref a), .val (.ref ab), .val (.int q1), .val (.int q2), .val (.int q3), .val (.int q4)] [(.ref a)]))
  refine Goes.st (fun t_ k_ => XS.iloadN X11.here hx rfl (hb hby own_d_prog_18_1_15) rfl  k_) ?_
  show Goes p e below s _ _ _ (T11.setTop (mkF m 16 #[.val (.ref a), .val (.ref ab), .val (.int q1), .val (.int q2), .val (.int q3), .val (.int q4)] [(.int q2), (.ref a)]))
  obtain ⟨T12, h12, X12, e12, W12, st12⟩ := putF X11 hx hZ hown (host := "") (Or.inl (hw _ (List.mem_of_getElem? (i := 50) rfl))) Via.refl e11 Fstart E_a (Or.inr ⟨(hw _ (List.mem_of_getElem? (i := 51) rfl)), rfl, hnm⟩) (hw _ (List.mem_of_getElem? (i := 40) rfl)) (ty := .int) (by decide) rfl rfl (g := (mkF m 16 #[.val (.ref a), .val (.ref ab), .val (.int q1), .val (.int q2), .val (.int q3), .val (.int q4)] [(.int q2), (.ref a)])) rfl rfl (hb hby own_d_prog_18_1_16)
  refine Goes.st st12 ?_
  have E_a := E_a.wr W12
  have Fbytes := Fbytes.other W12 (Or.inr (slot_ne (Or.inr (hw _ (List.mem_of_getElem? (i := 47) rfl))) (Or.inr (hw _ (List.mem_of_getElem? (i := 51) rfl))) (by decide) (t := (.array .byte)) (t' := .int) (by decide) (by decide)))
  have Ftag := Ftag.other W12 (Or.inr (slot_ne (Or.inr (hw _ (List.mem_of_getElem? (i := 49) rfl))) (Or.inr (hw _ (List.mem_of_getElem? (i := 51) rfl))) (by decide) (t := .int) (t' := .int) (by decide) (by decide)))
  have Fstart := Fstart.same W12
  have FcontentsStart := FcontentsStart.other W12 (Or.inr (slot_ne (Or.inr (hw _ (List.mem_of_getElem? (i := 53) rfl))) (Or.inr (hw _ (List.mem_of_getElem? (i := 51) rfl))) (by decide) (t := .int) (t' := .int) (by decide) (by decide)))
  have Fend := Fend.other W12 (Or.inr (slot_ne (Or.inr (hw _ (List.mem_of_getElem? (i := 55) rfl))) (Or.inr (hw _ (List.mem_of_getElem? (i := 51) rfl))) (by decide) (t := .int) (t' := .int) (by decide) (by decide)))
  have N12 := Fr.snoc X12 N11 g_a
  have Z0''' := Nat.le_trans Z0'' (Keep.of_wr W12).1
  have K0 := K0.wr W12 (Or.inl (List.mem_of_getElem? (i := 0) rfl))
  show Goes p e below s _ _ _ (T12.setTop (mkF m 19 #[.val (.ref a), .val (.ref ab), .val (.int q1), .val (.int q2), .val (.int q3), .val (.int q4)] []))
  refine Goes.st (fun t_ k_ => XS.aloadN X12.here hx rfl (hb hby own_d_prog_18_1_19) rfl rfl k_) ?_
  show Goes p e below s _ _ _ (T12.setTop (mkF m 20 #[.val (.ref a), .val (.ref ab), .val (.int q1), .val (.int q2), .val (.int q3), .val (.int q4)] [(.ref a)]))
  refine Goes.st (fun t_ k_ => XS.iload X12.here hx rfl (hb hby own_d_prog_18_1_20) rfl  k_) ?_
  show Goes p e below s _ _ _ (T12.setTop (mkF m 22 #[.val (.ref a), .val (.ref ab), .val (.int q1), .val (.int q2), .val (.int q3), .val (.int q4)] [(.int q3), (.ref a)]))
  obtain ⟨T13, h13, X13, e13, W13, st13⟩ := putF X12 hx hZ hown (host := "") (Or.inl (hw _ (List.mem_of_getElem? (i := 52) rfl))) Via.refl e12 FcontentsStart E_a (Or.inr ⟨(hw _ (List.mem_of_getElem? (i := 53) rfl)), rfl, hnm⟩) (hw _ (List.mem_of_getElem? (i := 40) rfl)) (ty := .int) (by decide) rfl rfl (g := (mkF m 22 #[.val (.ref a), .val (.ref ab), .val (.int q1), .val (.int q2), .val (.int q3), .val (.int q4)] [(.int q3), (.ref a)])) rfl rfl (hb hby own_d_prog_18_1_22)
  refine Goes.st st13 ?_
  have E_a := E_a.wr W13
  have Fbytes := Fbytes.other W13 (Or.inr (slot_ne (Or.inr (hw _ (List.mem_of_getElem? (i := 47) rfl))) (Or.inr (hw _ (List.mem_of_getElem? (i := 53) rfl))) (by decide) (t := (.array .byte)) (t' := .int) (by decide) (by decide)))
  have Ftag := Ftag.other W13 (Or.inr (slot_ne (Or.inr (hw _ (List.mem_of_getElem? (i := 49) rfl))) (Or.inr (hw _ (List.mem_of_getElem? (i := 53) rfl))) (by decide) (t := .int) (t' := .int) (by decide) (by decide)))
  have Fstart := Fstart.other W13 (Or.inr (slot_ne (Or.inr (hw _ (List.mem_of_getElem? (i := 51) rfl))) (Or.inr (hw _ (List.mem_of_getElem? (i := 53) rfl))) (by decide) (t := .int) (t' := .int) (by decide) (by decide)))
  have FcontentsStart := FcontentsStart.same W13
  have Fend := Fend.other W13 (Or.inr (slot_ne (Or.inr (hw _ (List.mem_of_getElem? (i := 55) rfl))) (Or.inr (hw _ (List.mem_of_getElem? (i := 53) rfl))) (by decide) (t := .int) (t' := .int) (by decide) (by decide)))
  have N13 := Fr.snoc X13 N12 g_a
  have Z0'''' := Nat.le_trans Z0''' (Keep.of_wr W13).1
  have K0 := K0.wr W13 (Or.inl (List.mem_of_getElem? (i := 0) rfl))
  show Goes p e below s _ _ _ (T13.setTop (mkF m 25 #[.val (.ref a), .val (.ref ab), .val (.int q1), .val (.int q2), .val (.int q3), .val (.int q4)] []))
  refine Goes.st (fun t_ k_ => XS.aloadN X13.here hx rfl (hb hby own_d_prog_18_1_25) rfl rfl k_) ?_
  show Goes p e below s _ _ _ (T13.setTop (mkF m 26 #[.val (.ref a), .val (.ref ab), .val (.int q1), .val (.int q2), .val (.int q3), .val (.int q4)] [(.ref a)]))
  refine Goes.st (fun t_ k_ => XS.iload X13.here hx rfl (hb hby own_d_prog_18_1_26) rfl  k_) ?_
  show Goes p e below s _ _ _ (T13.setTop (mkF m 28 #[.val (.ref a), .val (.ref ab), .val (.int q1), .val (.int q2), .val (.int q3), .val (.int q4)] [(.int q4), (.ref a)]))
  obtain ⟨T14, h14, X14, e14, W14, st14⟩ := putF X13 hx hZ hown (host := "") (Or.inl (hw _ (List.mem_of_getElem? (i := 54) rfl))) Via.refl e13 Fend E_a (Or.inr ⟨(hw _ (List.mem_of_getElem? (i := 55) rfl)), rfl, hnm⟩) (hw _ (List.mem_of_getElem? (i := 40) rfl)) (ty := .int) (by decide) rfl rfl (g := (mkF m 28 #[.val (.ref a), .val (.ref ab), .val (.int q1), .val (.int q2), .val (.int q3), .val (.int q4)] [(.int q4), (.ref a)])) rfl rfl (hb hby own_d_prog_18_1_28)
  refine Goes.st st14 ?_
  have E_a := E_a.wr W14
  have Fbytes := Fbytes.other W14 (Or.inr (slot_ne (Or.inr (hw _ (List.mem_of_getElem? (i := 47) rfl))) (Or.inr (hw _ (List.mem_of_getElem? (i := 55) rfl))) (by decide) (t := (.array .byte)) (t' := .int) (by decide) (by decide)))
  have Ftag := Ftag.other W14 (Or.inr (slot_ne (Or.inr (hw _ (List.mem_of_getElem? (i := 49) rfl))) (Or.inr (hw _ (List.mem_of_getElem? (i := 55) rfl))) (by decide) (t := .int) (t' := .int) (by decide) (by decide)))
  have Fstart := Fstart.other W14 (Or.inr (slot_ne (Or.inr (hw _ (List.mem_of_getElem? (i := 51) rfl))) (Or.inr (hw _ (List.mem_of_getElem? (i := 55) rfl))) (by decide) (t := .int) (t' := .int) (by decide) (by decide)))
  have FcontentsStart := FcontentsStart.other W14 (Or.inr (slot_ne (Or.inr (hw _ (List.mem_of_getElem? (i := 53) rfl))) (Or.inr (hw _ (List.mem_of_getElem? (i := 55) rfl))) (by decide) (t := .int) (t' := .int) (by decide) (by decide)))
  have Fend := Fend.same W14
  have N14 := Fr.snoc X14 N13 g_a
  have Z0''''' := Nat.le_trans Z0'''' (Keep.of_wr W14).1
  have K0 := K0.wr W14 (Or.inl (List.mem_of_getElem? (i := 0) rfl))
  show Goes p e below s _ _ _ (T14.setTop (mkF m 31 #[.val (.ref a), .val (.ref ab), .val (.int q1), .val (.int q2), .val (.int q3), .val (.int q4)] []))
  rw [← e14] at K0
  exact Goes.ret0 X14 hx hret hlk (hb hby own_d_prog_18_1_31) (by decide) (by decide) (⟨rfl, N14, K0⟩)
theorem own_rmLs_ef (m : MethodId) (a : Addr) : entryFrame m #[(.ref a)] 6 = mkF m 0 #[.val (.ref a), .unset, .unset, .unset, .unset, .unset] [] := by first | (simp [entryFrame, mkF, argsToLocals, Value.category]; done) | rfl
set_option maxRecDepth 65536 in
set_option maxHeartbeats 40000000 in
theorem own_rmLs (l : Launch) (Z : State) (a0 : Array Value) (hw : ∀ d ∈ tables_1, d.before a0 Z = true) (ws : List Jvm.Cond) (a ab : Addr) (p1 lb : Int32) (k : ClassId) (vs : List Value) (h0 : Heap) (n0 : Nat) (Z0 : n0 ≤ h0.size) (HR : own_R Z h0 a ab p1 6) (V_ab : Arv Z h0 ab k .byte (6 : Int32) vs (.int (0 : Int32))) (nab : a ≠ ab) (hp : ¬ p1 < 0 ∧ p1 < 6) (hat : vs.getD p1.toNatClampNeg (.int (0 : Int32)) = .int lb) (hlb : lb &&& 255 < 128) (g_a : n0 ≤ a) :
    MetFree l (⟨"com/example/torniquete/torniquete/core/DerReader", "length", "()I"⟩ : MethodName) (head1 (Jvm.Cond.code (⟨"com/example/torniquete/torniquete/core/DerReader", "length", "()I"⟩ : MethodName) prog_17_method_12_code 6 (some .int) :: ws) ({ frames := 1, cells := 0, slots := 0, locals := 12 } : Room)) (fun aa_ U => aa_ = #[(.ref a)] ∧ Z.Warmed39 U.vm ∧ U.heap = h0) (fun _ _ _ _ _ => True) (fun _ U oo_ U' => ∃ vv_ LL_, oo_ = .returned vv_ ∧ own_QL Z a ab (lb &&& 255) (p1 + 1) h0 n0 vv_ U'.heap LL_ ∧ FrameEnd U oo_ U' LL_ ({ frames := 1, cells := 0, slots := 0, locals := 12 } : Room).cells ({ frames := 1, cells := 0, slots := 0, locals := 12 } : Room).slots) := by
  refine MetFree.of_bodySF (plainFor_of_name own_pn28) hisR ?_
  intro p e s m args below meth c s₁ Bd hml0 hP hK
  obtain ⟨rfl, hZ, hh⟩ := hP
  have hx := Bd.exec
  have hby := Bd.bytes
  have hml : c.maxLocals = 6 := hml0
  have hown : s.vm.findClass "com/example/torniquete/torniquete/core/DerReader" = some m.cls := findClass_of_methodNamed Bd.named
  have hnm := (name_of_methodNamed Bd.named Bd.method).1
  have hlk := Bd.notSynchronized
  have hret := Bd.returns
  have X0 : Stand p l e ({ frames := 1, cells := 0, slots := 0, locals := 12 } : Room) s m #[(.ref a)] below meth c s₁ [] 0 0 := Stand.of_body Bd
  have e0 : s₁.heap = h0 := by rw [← hh, Bd.state]; rfl
  have N0 := Fr.nil n0
  show Goes p e below s (own_QL Z a ab (lb &&& 255) (p1 + 1) h0 n0) ({ frames := 1, cells := 0, slots := 0, locals := 12 } : Room).cells ({ frames := 1, cells := 0, slots := 0, locals := 12 } : Room).slots _
  refine Goes.cast (own_rmLs_ef m a) ?_
  have HR' := HR
  obtain ⟨E_a, Fb_a, Fp_a, Fe_a⟩ := HR'
  have K0 := Keep.refl h0 [a]
  show Goes p e below s _ _ _ (s₁.setTop (mkF m 0 #[.val (.ref a), .unset, .unset, .unset, .unset, .unset] []))
  refine Goes.st (fun t_ k_ => XS.aloadN X0.here hx rfl (hb hby own_d_prog_17_12_0) rfl rfl k_) ?_
  show Goes p e below s _ _ _ (s₁.setTop (mkF m 1 #[.val (.ref a), .unset, .unset, .unset, .unset, .unset] [(.ref a)]))
  obtain ⟨cq15, kq15, q15a, q15b, q15c⟩ := isOf hZ e0 E_a
  obtain ⟨_, _, ⟨T15, L15, k15, n15⟩, -, X15, ⟨Lc15, hQ15, l15, y15, z15⟩, st15⟩ := X0.virtualBack hx (y := (⟨"com/example/torniquete/torniquete/core/DerReader", "hasNext", "()Z"⟩ : MethodName)) (z := (⟨"com/example/torniquete/torniquete/core/DerReader", "hasNext", "()Z"⟩ : MethodName)) hown (mvT hZ (hw _ (List.mem_of_getElem? (i := 34) rfl))) (mvT hZ (hw _ (List.mem_of_getElem? (i := 25) rfl))) (notFace_of_selects (args := #[]) (mvT hZ (hw _ (List.mem_of_getElem? (i := 27) rfl)))) (mvT hZ (hw _ (List.mem_of_getElem? (i := 27) rfl))) (mvT hZ (hw _ (List.mem_of_getElem? (i := 26) rfl))) (by decide) (backOf (W := 0) (own_rmH l Z a0 hw [] a ab p1 6 true h0 n0 Z0 HR (decide_eq_true hp.2)) hZ (hw _ (List.mem_of_getElem? (i := 28) rfl)) (hw _ (List.mem_of_getElem? (i := 8) rfl)) (by decide) (by decide)) q15a q15c (g := (mkF m 1 #[.val (.ref a), .unset, .unset, .unset, .unset, .unset] [(.ref a)])) rfl (by rw [hml]; rfl) (Steps.refl _) (argsL := []) (rest := []) (lenOf own_pd66 rfl) rfl (by show 2 * 0 + _ ≤ _; exact Nat.le_of_eq rfl) (hb hby own_d_prog_17_12_1) (fun _ _ => ⟨rfl, e0, (by decide : 0 + 0 ≤ _), (by decide : 0 + 0 ≤ _)⟩)
  dsimp only [Pt.U, Pt.locs, Pt.cells, Pt.slots] at X15 l15 y15 z15 st15 hQ15
  subst l15 y15 z15
  obtain ⟨rfl, N15q, EQ1⟩ := hQ15
  have N15 := Fr.app N0 N15q
  refine Goes.tr st15 ?_
  show Goes p e below s _ _ _ (T15.setTop (mkF m 4 #[.val (.ref a), .unset, .unset, .unset, .unset, .unset] [(.int (own_bI true))]))
  refine Goes.st (fun t_ k_ => XS.ifYes X15.here hx rfl (pc0 := 4) (pc' := 13) rfl (hb hby own_d_prog_17_12_4) rfl ((if0 _ _).trans (feq (by decide)).2) (by decide) (by decide) k_) ?_
  show Goes p e below s _ _ _ (T15.setTop (mkF m 13 #[.val (.ref a), .unset, .unset, .unset, .unset, .unset] []))
  refine Goes.st (fun t_ k_ => XS.aloadN X15.here hx rfl (hb hby own_d_prog_17_12_13) rfl rfl k_) ?_
  show Goes p e below s _ _ _ (T15.setTop (mkF m 14 #[.val (.ref a), .unset, .unset, .unset, .unset, .unset] [(.ref a)]))
  obtain ⟨T16, X16, e16, st16⟩ := getF X15 hx hZ hown (host := "") (Or.inl (hw _ (List.mem_of_getElem? (i := 18) rfl))) Via.refl EQ1 Fb_a (g := (mkF m 14 #[.val (.ref a), .unset, .unset, .unset, .unset, .unset] [(.ref a)])) rfl rfl (hb hby own_d_prog_17_12_14)
  refine Goes.st st16 ?_
  show Goes p e below s _ _ _ (T16.setTop (mkF m 17 #[.val (.ref a), .unset, .unset, .unset, .unset, .unset] [(.ref ab)]))
  refine Goes.st (fun t_ k_ => XS.aloadN X16.here hx rfl (hb hby own_d_prog_17_12_17) rfl rfl k_) ?_
  show Goes p e below s _ _ _ (T16.setTop (mkF m 18 #[.val (.ref a), .unset, .unset, .unset, .unset, .unset] [(.ref a), (.ref ab)]))
  refine Goes.st (fun t_ k_ => XS.dup X16.here hx rfl (hb hby own_d_prog_17_12_18) rfl rfl k_) ?_
  show Goes p e below s _ _ _ (T16.setTop (mkF m 19 #[.val (.ref a), .unset, .unset, .unset, .unset, .unset] [(.ref a), (.ref a), (.ref ab)]))
  obtain ⟨T17, X17, e17, st17⟩ := getF X16 hx hZ hown (host := "") (Or.inl (hw _ (List.mem_of_getElem? (i := 20) rfl))) Via.refl e16 Fp_a (g := (mkF m 19 #[.val (.ref a), .unset, .unset, .unset, .unset, .unset] [(.ref a), (.ref a), (.ref ab)])) rfl rfl (hb hby own_d_prog_17_12_19)
  refine Goes.st st17 ?_
  show Goes p e below s _ _ _ (T17.setTop (mkF m 22 #[.val (.ref a), .unset, .unset, .unset, .unset, .unset] [(.int p1), (.ref a), (.ref ab)]))
  refine Goes.st (fun t_ k_ => XS.dupX1 X17.here hx rfl (hb hby own_d_prog_17_12_22) rfl rfl rfl k_) ?_
  show Goes p e below s _ _ _ (T17.setTop (mkF m 23 #[.val (.ref a), .unset, .unset, .unset, .unset, .unset] [(.int p1), (.ref a), (.int p1), (.ref ab)]))
  refine Goes.st (fun t_ k_ => XS.iconst X17.here hx rfl (hb hby own_d_prog_17_12_23) k_) ?_
  show Goes p e below s _ _ _ (T17.setTop (mkF m 24 #[.val (.ref a), .unset, .unset, .unset, .unset, .unset] [(.int (1 : Int32)), (.int p1), (.ref a), (.int p1), (.ref ab)]))
  refine Goes.st (fun t_ k_ => XS.iadd X17.here hx rfl (hb hby own_d_prog_17_12_24) rfl k_) ?_
  show Goes p e below s _ _ _ (T17.setTop (mkF m 25 #[.val (.ref a), .unset, .unset, .unset, .unset, .unset] [(.int (p1 + (1 : Int32))), (.ref a), (.int p1), (.ref ab)]))
  obtain ⟨T18, h18, X18, e18, W18, st18⟩ := putF X17 hx hZ hown (host := "") (Or.inl (hw _ (List.mem_of_getElem? (i := 20) rfl))) Via.refl e17 Fp_a E_a (Or.inl (hw _ (List.mem_of_getElem? (i := 21) rfl))) (hw _ (List.mem_of_getElem? (i := 7) rfl)) (ty := .int) (by decide) rfl rfl (g := (mkF m 25 #[.val (.ref a), .unset, .unset, .unset, .unset, .unset] [(.int (p1 + (1 : Int32))), (.ref a), (.int p1), (.ref ab)])) rfl rfl (hb hby own_d_prog_17_12_25)
  refine Goes.st st18 ?_
  have E_a := E_a.wr W18
  have Fb_a := Fb_a.other W18 (Or.inr (slot_ne (Or.inr (hw _ (List.mem_of_getElem? (i := 19) rfl))) (Or.inl (hw _ (List.mem_of_getElem? (i := 21) rfl))) (by decide) (t := (.array .byte)) (t' := .int) (by decide) (by decide)))
  have Fp_a := Fp_a.same W18
  have Fe_a := Fe_a.other W18 (Or.inr (slot_ne (Or.inr (hw _ (List.mem_of_getElem? (i := 23) rfl))) (Or.inl (hw _ (List.mem_of_getElem? (i := 21) rfl))) (by decide) (t := .int) (t' := .int) (by decide) (by decide)))
  have V_ab := V_ab.other W18 (Ne.symm nab)
  have N18 := Fr.snoc X18 N15 g_a
  have Z0' := Nat.le_trans Z0 (Keep.of_wr W18).1
  have K0 := K0.wr W18 (Or.inl (List.mem_of_getElem? (i := 0) rfl))
  show Goes p e below s _ _ _ (T18.setTop (mkF m 28 #[.val (.ref a), .unset, .unset, .unset, .unset, .unset] [(.int p1), (.ref ab)]))
  have VV19 := V_ab
  obtain ⟨cl19, Ar19, -, S19, M19, H19, -⟩ := VV19
  have hin19 := inb_of S19 (j := p1) hp
  refine Goes.st (fun t_ k_ => X18.baloadBytes hx (j := p1) (v := (.int lb)) (by rw [e18]; exact Ar19.1) (State.isArrayOf_alike hZ.alike Ar19.2.1) Ar19.2.2 hin19 (Has.at H19 hin19 hat) (g := (mkF m 28 #[.val (.ref a), .unset, .unset, .unset, .unset, .unset] [(.int p1), (.ref ab)])) rfl rfl (hb hby own_d_prog_17_12_28) _ k_) ?_
  show Goes p e below s _ _ _ (T18.setTop (mkF m 29 #[.val (.ref a), .unset, .unset, .unset, .unset, .unset] [(.int lb)]))
  refine Goes.st (fun t_ k_ => XS.sipush X18.here hx rfl (hb hby own_d_prog_17_12_29) k_) ?_
  show Goes p e below s _ _ _ (T18.setTop (mkF m 32 #[.val (.ref a), .unset, .unset, .unset, .unset, .unset] [(.int (255 : Int32)), (.int lb)]))
  refine Goes.st (fun t_ k_ => XS.iand X18.here hx rfl (hb hby own_d_prog_17_12_32) rfl k_) ?_
  show Goes p e below s _ _ _ (T18.setTop (mkF m 33 #[.val (.ref a), .unset, .unset, .unset, .unset, .unset] [(.int (lb &&& (255 : Int32)))]))
  refine Goes.st (fun t_ k_ => XS.istoreN X18.here hx rfl (hb hby own_d_prog_17_12_33) rfl  (l' := #[.val (.ref a), .val (.int (lb &&& (255 : Int32))), .unset, .unset, .unset, .unset]) rfl k_) ?_
  show Goes p e below s _ _ _ (T18.setTop (mkF m 34 #[.val (.ref a), .val (.int (lb &&& (255 : Int32))), .unset, .unset, .unset, .unset] []))
  refine Goes.st (fun t_ k_ => XS.iloadN X18.here hx rfl (hb hby own_d_prog_17_12_34) rfl  k_) ?_
  show Goes p e below s _ _ _ (T18.setTop (mkF m 35 #[.val (.ref a), .val (.int (lb &&& (255 : Int32))), .unset, .unset, .unset, .unset] [(.int (lb &&& (255 : Int32)))]))
  refine Goes.st (fun t_ k_ => XS.sipush X18.here hx rfl (hb hby own_d_prog_17_12_35) k_) ?_
  show Goes p e below s _ _ _ (T18.setTop (mkF m 38 #[.val (.ref a), .val (.int (lb &&& (255 : Int32))), .unset, .unset, .unset, .unset] [(.int (128 : Int32)), (.int (lb &&& (255 : Int32)))]))
  refine Goes.st (fun t_ k_ => XS.icmpNo X18.here hx rfl (hb hby own_d_prog_17_12_38) rfl (tlt hlb).2.1 k_) ?_
  show Goes p e below s _ _ _ (T18.setTop (mkF m 41 #[.val (.ref a), .val (.int (lb &&& (255 : Int32))), .unset, .unset, .unset, .unset] []))
  refine Goes.st (fun t_ k_ => XS.iloadN X18.here hx rfl (hb hby own_d_prog_17_12_41) rfl  k_) ?_
  show Goes p e below s _ _ _ (T18.setTop (mkF m 42 #[.val (.ref a), .val (.int (lb &&& (255 : Int32))), .unset, .unset, .unset, .unset] [(.int (lb &&& (255 : Int32)))]))
  rw [← e18] at K0 E_a Fb_a Fp_a Fe_a
  exact Goes.retO X18 hx hret hlk rfl (Or.inl ⟨rfl, Or.inl rfl, _, rfl⟩) (hb hby own_d_prog_17_12_42) (by decide) (by decide) (⟨rfl, N18, K0, E_a, Fb_a, Fp_a, Fe_a⟩)
theorem own_rmLl_ef (m : MethodId) (a : Addr) : entryFrame m #[(.ref a)] 6 = mkF m 0 #[.val (.ref a), .unset, .unset, .unset, .unset, .unset] [] := by first | (simp [entryFrame, mkF, argsToLocals, Value.category]; done) | rfl
set_option maxRecDepth 65536 in
set_option maxHeartbeats 40000000 in
theorem own_rmLl (l : Launch) (Z : State) (a0 : Array Value) (hw : ∀ d ∈ tables_1, d.before a0 Z = true) (ws : List Jvm.Cond) (a ab : Addr) (k : ClassId) (vs : List Value) (h0 : Heap) (n0 : Nat) (Z0 : n0 ≤ h0.size) (HR : own_R Z h0 a ab 1 6) (V_ab : Arv Z h0 ab k .byte (6 : Int32) vs (.int (0 : Int32))) (nab : a ≠ ab) (hat1 : vs.getD 1 (.int (0 : Int32)) = .int (-127)) (hat2 : vs.getD 2 (.int (0 : Int32)) = .int 3) (g_a : n0 ≤ a) :
    MetFree l (⟨"com/example/torniquete/torniquete/core/DerReader", "length", "()I"⟩ : MethodName) (head1 (Jvm.Cond.code (⟨"com/example/torniquete/torniquete/core/DerReader", "length", "()I"⟩ : MethodName) prog_17_method_12_code 6 (some .int) :: ws) ({ frames := 1, cells := 0, slots := 0, locals := 12 } : Room)) (fun aa_ U => aa_ = #[(.ref a)] ∧ Z.Warmed39 U.vm ∧ U.heap = h0) (fun _ _ _ _ _ => True) (fun _ U oo_ U' => ∃ vv_ LL_, oo_ = .returned vv_ ∧ own_QL Z a ab 3 3 h0 n0 vv_ U'.heap LL_ ∧ FrameEnd U oo_ U' LL_ ({ frames := 1, cells := 0, slots := 0, locals := 12 } : Room).cells ({ frames := 1, cells := 0, slots := 0, locals := 12 } : Room).slots) := by
  refine MetFree.of_bodySF (plainFor_of_name own_pn28) hisR ?_
  intro p e s m args below meth c s₁ Bd hml0 hP hK
  obtain ⟨rfl, hZ, hh⟩ := hP
  have hx := Bd.exec
  have hby := Bd.bytes
  have hml : c.maxLocals = 6 := hml0
  have hown : s.vm.findClass "com/example/torniquete/torniquete/core/DerReader" = some m.cls := findClass_of_methodNamed Bd.named
  have hnm := (name_of_methodNamed Bd.named Bd.method).1
  have hlk := Bd.notSynchronized
  have hret := Bd.returns
  have X0 : Stand p l e ({ frames := 1, cells := 0, slots := 0, locals := 12 } : Room) s m #[(.ref a)] below meth c s₁ [] 0 0 := Stand.of_body Bd
  have e0 : s₁.heap = h0 := by rw [← hh, Bd.state]; rfl
  have N0 := Fr.nil n0
  show Goes p e below s (own_QL Z a ab 3 3 h0 n0) ({ frames := 1, cells := 0, slots := 0, locals := 12 } : Room).cells ({ frames := 1, cells := 0, slots := 0, locals := 12 } : Room).slots _
  refine Goes.cast (own_rmLl_ef m a) ?_
  have HR' := HR
  obtain ⟨E_a, Fb_a, Fp_a, Fe_a⟩ := HR'
  have K0 := Keep.refl h0 [a]
  show Goes p e below s _ _ _ (s₁.setTop (mkF m 0 #[.val (.ref a), .unset, .unset, .unset, .unset, .unset] []))
  refine Goes.st (fun t_ k_ => XS.aloadN X0.here hx rfl (hb hby own_d_prog_17_12_0) rfl rfl k_) ?_
  show Goes p e below s _ _ _ (s₁.setTop (mkF m 1 #[.val (.ref a), .unset, .unset, .unset, .unset, .unset] [(.ref a)]))
  obtain ⟨cq20, kq20, q20a, q20b, q20c⟩ := isOf hZ e0 E_a
  obtain ⟨_, _, ⟨T20, L20, k20, n20⟩, -, X20, ⟨Lc20, hQ20, l20, y20, z20⟩, st20⟩ := X0.virtualBack hx (y := (⟨"com/example/torniquete/torniquete/core/DerReader", "hasNext", "()Z"⟩ : MethodName)) (z := (⟨"com/example/torniquete/torniquete/core/DerReader", "hasNext", "()Z"⟩ : MethodName)) hown (mvT hZ (hw _ (List.mem_of_getElem? (i := 34) rfl))) (mvT hZ (hw _ (List.mem_of_getElem? (i := 25) rfl))) (notFace_of_selects (args := #[]) (mvT hZ (hw _ (List.mem_of_getElem? (i := 27) rfl)))) (mvT hZ (hw _ (List.mem_of_getElem? (i := 27) rfl))) (mvT hZ (hw _ (List.mem_of_getElem? (i := 26) rfl))) (by decide) (backOf (W := 0) (own_rmH l Z a0 hw [] a ab 1 6 true h0 n0 Z0 HR (by decide)) hZ (hw _ (List.mem_of_getElem? (i := 28) rfl)) (hw _ (List.mem_of_getElem? (i := 8) rfl)) (by decide) (by decide)) q20a q20c (g := (mkF m 1 #[.val (.ref a), .unset, .unset, .unset, .unset, .unset] [(.ref a)])) rfl (by rw [hml]; rfl) (Steps.refl _) (argsL := []) (rest := []) (lenOf own_pd66 rfl) rfl (by show 2 * 0 + _ ≤ _; exact Nat.le_of_eq rfl) (hb hby own_d_prog_17_12_1) (fun _ _ => ⟨rfl, e0, (by decide : 0 + 0 ≤ _), (by decide : 0 + 0 ≤ _)⟩)
  dsimp only [Pt.U, Pt.locs, Pt.cells, Pt.slots] at X20 l20 y20 z20 st20 hQ20
  subst l20 y20 z20
  obtain ⟨rfl, N20q, EQ1⟩ := hQ20
  have N20 := Fr.app N0 N20q
  refine Goes.tr st20 ?_
  show Goes p e below s _ _ _ (T20.setTop (mkF m 4 #[.val (.ref a), .unset, .unset, .unset, .unset, .unset] [(.int (own_bI true))]))
  refine Goes.st (fun t_ k_ => XS.ifYes X20.here hx rfl (pc0 := 4) (pc' := 13) rfl (hb hby own_d_prog_17_12_4) rfl ((if0 _ _).trans (feq (by decide)).2) (by decide) (by decide) k_) ?_
  show Goes p e below s _ _ _ (T20.setTop (mkF m 13 #[.val (.ref a), .unset, .unset, .unset, .unset, .unset] []))
  refine Goes.st (fun t_ k_ => XS.aloadN X20.here hx rfl (hb hby own_d_prog_17_12_13) rfl rfl k_) ?_
  show Goes p e below s _ _ _ (T20.setTop (mkF m 14 #[.val (.ref a), .unset, .unset, .unset, .unset, .unset] [(.ref a)]))
  obtain ⟨T21, X21, e21, st21⟩ := getF X20 hx hZ hown (host := "") (Or.inl (hw _ (List.mem_of_getElem? (i := 18) rfl))) Via.refl EQ1 Fb_a (g := (mkF m 14 #[.val (.ref a), .unset, .unset, .unset, .unset, .unset] [(.ref a)])) rfl rfl (hb hby own_d_prog_17_12_14)
  refine Goes.st st21 ?_
  show Goes p e below s _ _ _ (T21.setTop (mkF m 17 #[.val (.ref a), .unset, .unset, .unset, .unset, .unset] [(.ref ab)]))
  refine Goes.st (fun t_ k_ => XS.aloadN X21.here hx rfl (hb hby own_d_prog_17_12_17) rfl rfl k_) ?_
  show Goes p e below s _ _ _ (T21.setTop (mkF m 18 #[.val (.ref a), .unset, .unset, .unset, .unset, .unset] [(.ref a), (.ref ab)]))
  refine Goes.st (fun t_ k_ => XS.dup X21.here hx rfl (hb hby own_d_prog_17_12_18) rfl rfl k_) ?_
  show Goes p e below s _ _ _ (T21.setTop (mkF m 19 #[.val (.ref a), .unset, .unset, .unset, .unset, .unset] [(.ref a), (.ref a), (.ref ab)]))
  obtain ⟨T22, X22, e22, st22⟩ := getF X21 hx hZ hown (host := "") (Or.inl (hw _ (List.mem_of_getElem? (i := 20) rfl))) Via.refl e21 Fp_a (g := (mkF m 19 #[.val (.ref a), .unset, .unset, .unset, .unset, .unset] [(.ref a), (.ref a), (.ref ab)])) rfl rfl (hb hby own_d_prog_17_12_19)
  refine Goes.st st22 ?_
  show Goes p e below s _ _ _ (T22.setTop (mkF m 22 #[.val (.ref a), .unset, .unset, .unset, .unset, .unset] [(.int (1 : Int32)), (.ref a), (.ref ab)]))
  refine Goes.st (fun t_ k_ => XS.dupX1 X22.here hx rfl (hb hby own_d_prog_17_12_22) rfl rfl rfl k_) ?_
  show Goes p e below s _ _ _ (T22.setTop (mkF m 23 #[.val (.ref a), .unset, .unset, .unset, .unset, .unset] [(.int (1 : Int32)), (.ref a), (.int (1 : Int32)), (.ref ab)]))
  refine Goes.st (fun t_ k_ => XS.iconst X22.here hx rfl (hb hby own_d_prog_17_12_23) k_) ?_
  show Goes p e below s _ _ _ (T22.setTop (mkF m 24 #[.val (.ref a), .unset, .unset, .unset, .unset, .unset] [(.int (1 : Int32)), (.int (1 : Int32)), (.ref a), (.int (1 : Int32)), (.ref ab)]))
  refine Goes.st (fun t_ k_ => XS.iadd X22.here hx rfl (hb hby own_d_prog_17_12_24) rfl k_) ?_
  show Goes p e below s _ _ _ (T22.setTop (mkF m 25 #[.val (.ref a), .unset, .unset, .unset, .unset, .unset] [(.int ((1 : Int32) + (1 : Int32))), (.ref a), (.int (1 : Int32)), (.ref ab)]))
  obtain ⟨T23, h23, X23, e23, W23, st23⟩ := putF X22 hx hZ hown (host := "") (Or.inl (hw _ (List.mem_of_getElem? (i := 20) rfl))) Via.refl e22 Fp_a E_a (Or.inl (hw _ (List.mem_of_getElem? (i := 21) rfl))) (hw _ (List.mem_of_getElem? (i := 7) rfl)) (ty := .int) (by decide) rfl rfl (g := (mkF m 25 #[.val (.ref a), .unset, .unset, .unset, .unset, .unset] [(.int ((1 : Int32) + (1 : Int32))), (.ref a), (.int (1 : Int32)), (.ref ab)])) rfl rfl (hb hby own_d_prog_17_12_25)
  refine Goes.st st23 ?_
  have E_a := E_a.wr W23
  have Fb_a := Fb_a.other W23 (Or.inr (slot_ne (Or.inr (hw _ (List.mem_of_getElem? (i := 19) rfl))) (Or.inl (hw _ (List.mem_of_getElem? (i := 21) rfl))) (by decide) (t := (.array .byte)) (t' := .int) (by decide) (by decide)))
  have Fp_a := Fp_a.same W23
  have Fe_a := Fe_a.other W23 (Or.inr (slot_ne (Or.inr (hw _ (List.mem_of_getElem? (i := 23) rfl))) (Or.inl (hw _ (List.mem_of_getElem? (i := 21) rfl))) (by decide) (t := .int) (t' := .int) (by decide) (by decide)))
  have V_ab := V_ab.other W23 (Ne.symm nab)
  have N23 := Fr.snoc X23 N20 g_a
  have Z0' := Nat.le_trans Z0 (Keep.of_wr W23).1
  have K0 := K0.wr W23 (Or.inl (List.mem_of_getElem? (i := 0) rfl))
  show Goes p e below s _ _ _ (T23.setTop (mkF m 28 #[.val (.ref a), .unset, .unset, .unset, .unset, .unset] [(.int (1 : Int32)), (.ref ab)]))
  have lit24 : ((1 : Int32) + (1 : Int32)) = (2 : Int32) := by decide
  rw [lit24] at Fp_a
  show Goes p e below s _ _ _ (T23.setTop (mkF m 28 #[.val (.ref a), .unset, .unset, .unset, .unset, .unset] [(.int (1 : Int32)), (.ref ab)]))
  show Goes p e below s _ _ _ (T23.setTop (mkF m 28 #[.val (.ref a), .unset, .unset, .unset, .unset, .unset] [(.int (1 : Int32)), (.ref ab)]))
  have VV25 := V_ab
  obtain ⟨cl25, Ar25, -, S25, M25, H25, -⟩ := VV25
  have hin25 := inb_of S25 (j := (1 : Int32)) ⟨by decide, by decide⟩
  refine Goes.st (fun t_ k_ => X23.baloadBytes hx (j := (1 : Int32)) (v := (.int (-127 : Int32))) (by rw [e23]; exact Ar25.1) (State.isArrayOf_alike hZ.alike Ar25.2.1) Ar25.2.2 hin25 (Has.at H25 hin25 hat1) (g := (mkF m 28 #[.val (.ref a), .unset, .unset, .unset, .unset, .unset] [(.int (1 : Int32)), (.ref ab)])) rfl rfl (hb hby own_d_prog_17_12_28) _ k_) ?_
  show Goes p e below s _ _ _ (T23.setTop (mkF m 29 #[.val (.ref a), .unset, .unset, .unset, .unset, .unset] [(.int (-127 : Int32))]))
  refine Goes.st (fun t_ k_ => XS.sipush X23.here hx rfl (hb hby own_d_prog_17_12_29) k_) ?_
  show Goes p e below s _ _ _ (T23.setTop (mkF m 32 #[.val (.ref a), .unset, .unset, .unset, .unset, .unset] [(.int (255 : Int32)), (.int (-127 : Int32))]))
  refine Goes.st (fun t_ k_ => XS.iand X23.here hx rfl (hb hby own_d_prog_17_12_32) rfl k_) ?_
  show Goes p e below s _ _ _ (T23.setTop (mkF m 33 #[.val (.ref a), .unset, .unset, .unset, .unset, .unset] [(.int ((-127 : Int32) &&& (255 : Int32)))]))
  refine Goes.st (fun t_ k_ => XS.istoreN X23.here hx rfl (hb hby own_d_prog_17_12_33) rfl  (l' := #[.val (.ref a), .val (.int ((-127 : Int32) &&& (255 : Int32))), .unset, .unset, .unset, .unset]) rfl k_) ?_
  show Goes p e below s _ _ _ (T23.setTop (mkF m 34 #[.val (.ref a), .val (.int ((-127 : Int32) &&& (255 : Int32))), .unset, .unset, .unset, .unset] []))
  have lit26 : ((-127 : Int32) &&& (255 : Int32)) = (129 : Int32) := by decide
  rw [lit26]
  show Goes p e below s _ _ _ (T23.setTop (mkF m 34 #[.val (.ref a), .val (.int (129 : Int32)), .unset, .unset, .unset, .unset] []))
  show Goes p e below s _ _ _ (T23.setTop (mkF m 34 #[.val (.ref a), .val (.int (129 : Int32)), .unset, .unset, .unset, .unset] []))
  refine Goes.st (fun t_ k_ => XS.iloadN X23.here hx rfl (hb hby own_d_prog_17_12_34) rfl  k_) ?_
  show Goes p e below s _ _ _ (T23.setTop (mkF m 35 #[.val (.ref a), .val (.int (129 : Int32)), .unset, .unset, .unset, .unset] [(.int (129 : Int32))]))
  refine Goes.st (fun t_ k_ => XS.sipush X23.here hx rfl (hb hby own_d_prog_17_12_35) k_) ?_
  show Goes p e below s _ _ _ (T23.setTop (mkF m 38 #[.val (.ref a), .val (.int (129 : Int32)), .unset, .unset, .unset, .unset] [(.int (128 : Int32)), (.int (129 : Int32))]))
  refine Goes.st (fun t_ k_ => XS.icmpYes X23.here hx rfl (pc0 := 38) (pc' := 43) rfl (hb hby own_d_prog_17_12_38) rfl (flt (by decide)).2.1 (by decide) (by decide) k_) ?_
  show Goes p e below s _ _ _ (T23.setTop (mkF m 43 #[.val (.ref a), .val (.int (129 : Int32)), .unset, .unset, .unset, .unset] []))
  refine Goes.st (fun t_ k_ => XS.iloadN X23.here hx rfl (hb hby own_d_prog_17_12_43) rfl  k_) ?_
  show Goes p e below s _ _ _ (T23.setTop (mkF m 44 #[.val (.ref a), .val (.int (129 : Int32)), .unset, .unset, .unset, .unset] [(.int (129 : Int32))]))
  refine Goes.st (fun t_ k_ => XS.bipush X23.here hx rfl (hb hby own_d_prog_17_12_44) k_) ?_
  show Goes p e below s _ _ _ (T23.setTop (mkF m 46 #[.val (.ref a), .val (.int (129 : Int32)), .unset, .unset, .unset, .unset] [(.int (127 : Int32)), (.int (129 : Int32))]))
  refine Goes.st (fun t_ k_ => XS.iand X23.here hx rfl (hb hby own_d_prog_17_12_46) rfl k_) ?_
  show Goes p e below s _ _ _ (T23.setTop (mkF m 47 #[.val (.ref a), .val (.int (129 : Int32)), .unset, .unset, .unset, .unset] [(.int ((129 : Int32) &&& (127 : Int32)))]))
  refine Goes.st (fun t_ k_ => XS.istoreN X23.here hx rfl (hb hby own_d_prog_17_12_47) rfl  (l' := #[.val (.ref a), .val (.int (129 : Int32)), .val (.int ((129 : Int32) &&& (127 : Int32))), .unset, .unset, .unset]) rfl k_) ?_
  show Goes p e below s _ _ _ (T23.setTop (mkF m 48 #[.val (.ref a), .val (.int (129 : Int32)), .val (.int ((129 : Int32) &&& (127 : Int32))), .unset, .unset, .unset] []))
  have lit27 : ((129 : Int32) &&& (127 : Int32)) = (1 : Int32) := by decide
  rw [lit27]
  show Goes p e below s _ _ _ (T23.setTop (mkF m 48 #[.val (.ref a), .val (.int (129 : Int32)), .val (.int (1 : Int32)), .unset, .unset, .unset] []))
  show Goes p e below s _ _ _ (T23.setTop (mkF m 48 #[.val (.ref a), .val (.int (129 : Int32)), .val (.int (1 : Int32)), .unset, .unset, .unset] []))
  refine Goes.st (fun t_ k_ => XS.iloadN X23.here hx rfl (hb hby own_d_prog_17_12_48) rfl  k_) ?_
  show Goes p e below s _ _ _ (T23.setTop (mkF m 49 #[.val (.ref a), .val (.int (129 : Int32)), .val (.int (1 : Int32)), .unset, .unset, .unset] [(.int (1 : Int32))]))
  refine Goes.st (fun t_ k_ => XS.ifYes X23.here hx rfl (pc0 := 49) (pc' := 58) rfl (hb hby own_d_prog_17_12_49) rfl ((if0 _ _).trans (feq (by decide)).2) (by decide) (by decide) k_) ?_
  show Goes p e below s _ _ _ (T23.setTop (mkF m 58 #[.val (.ref a), .val (.int (129 : Int32)), .val (.int (1 : Int32)), .unset, .unset, .unset] []))
  refine Goes.st (fun t_ k_ => XS.iloadN X23.here hx rfl (hb hby own_d_prog_17_12_58) rfl  k_) ?_
  show Goes p e below s _ _ _ (T23.setTop (mkF m 59 #[.val (.ref a), .val (.int (129 : Int32)), .val (.int (1 : Int32)), .unset, .unset, .unset] [(.int (1 : Int32))]))
  refine Goes.st (fun t_ k_ => XS.iconst X23.here hx rfl (hb hby own_d_prog_17_12_59) k_) ?_
  show Goes p e below s _ _ _ (T23.setTop (mkF m 60 #[.val (.ref a), .val (.int (129 : Int32)), .val (.int (1 : Int32)), .unset, .unset, .unset] [(.int (4 : Int32)), (.int (1 : Int32))]))
  refine Goes.st (fun t_ k_ => XS.icmpNo X23.here hx rfl (hb hby own_d_prog_17_12_60) rfl (flt (by decide)).2.2.1 k_) ?_
  show Goes p e below s _ _ _ (T23.setTop (mkF m 63 #[.val (.ref a), .val (.int (129 : Int32)), .val (.int (1 : Int32)), .unset, .unset, .unset] []))
  refine Goes.st (fun t_ k_ => XS.iloadN X23.here hx rfl (hb hby own_d_prog_17_12_63) rfl  k_) ?_
  show Goes p e below s _ _ _ (T23.setTop (mkF m 64 #[.val (.ref a), .val (.int (129 : Int32)), .val (.int (1 : Int32)), .unset, .unset, .unset] [(.int (1 : Int32))]))
  refine Goes.st (fun t_ k_ => XS.aloadN X23.here hx rfl (hb hby own_d_prog_17_12_64) rfl rfl k_) ?_
  show Goes p e below s _ _ _ (T23.setTop (mkF m 65 #[.val (.ref a), .val (.int (129 : Int32)), .val (.int (1 : Int32)), .unset, .unset, .unset] [(.ref a), (.int (1 : Int32))]))
  obtain ⟨T28, X28, e28, st28⟩ := getF X23 hx hZ hown (host := "") (Or.inl (hw _ (List.mem_of_getElem? (i := 22) rfl))) Via.refl e23 Fe_a (g := (mkF m 65 #[.val (.ref a), .val (.int (129 : Int32)), .val (.int (1 : Int32)), .unset, .unset, .unset] [(.ref a), (.int (1 : Int32))])) rfl rfl (hb hby own_d_prog_17_12_65)
  refine Goes.st st28 ?_
  show Goes p e below s _ _ _ (T28.setTop (mkF m 68 #[.val (.ref a), .val (.int (129 : Int32)), .val (.int (1 : Int32)), .unset, .unset, .unset] [(.int (6 : Int32)), (.int (1 : Int32))]))
  refine Goes.st (fun t_ k_ => XS.aloadN X28.here hx rfl (hb hby own_d_prog_17_12_68) rfl rfl k_) ?_
  show Goes p e below s _ _ _ (T28.setTop (mkF m 69 #[.val (.ref a), .val (.int (129 : Int32)), .val (.int (1 : Int32)), .unset, .unset, .unset] [(.ref a), (.int (6 : Int32)), (.int (1 : Int32))]))
  obtain ⟨T29, X29, e29, st29⟩ := getF X28 hx hZ hown (host := "") (Or.inl (hw _ (List.mem_of_getElem? (i := 20) rfl))) Via.refl e28 Fp_a (g := (mkF m 69 #[.val (.ref a), .val (.int (129 : Int32)), .val (.int (1 : Int32)), .unset, .unset, .unset] [(.ref a), (.int (6 : Int32)), (.int (1 : Int32))])) rfl rfl (hb hby own_d_prog_17_12_69)
  refine Goes.st st29 ?_
  show Goes p e below s _ _ _ (T29.setTop (mkF m 72 #[.val (.ref a), .val (.int (129 : Int32)), .val (.int (1 : Int32)), .unset, .unset, .unset] [(.int (2 : Int32)), (.int (6 : Int32)), (.int (1 : Int32))]))
  refine Goes.st (fun t_ k_ => XS.isub X29.here hx rfl (hb hby own_d_prog_17_12_72) rfl k_) ?_
  show Goes p e below s _ _ _ (T29.setTop (mkF m 73 #[.val (.ref a), .val (.int (129 : Int32)), .val (.int (1 : Int32)), .unset, .unset, .unset] [(.int ((6 : Int32) - (2 : Int32))), (.int (1 : Int32))]))
  refine Goes.st (fun t_ k_ => XS.icmpYes X29.here hx rfl (pc0 := 73) (pc' := 86) rfl (hb hby own_d_prog_17_12_73) rfl (flt (by decide)).2.2.2 (by decide) (by decide) k_) ?_
  show Goes p e below s _ _ _ (T29.setTop (mkF m 86 #[.val (.ref a), .val (.int (129 : Int32)), .val (.int (1 : Int32)), .unset, .unset, .unset] []))
  refine Goes.st (fun t_ k_ => XS.lconst X29.here hx rfl (hb hby own_d_prog_17_12_86) k_) ?_
  show Goes p e below s _ _ _ (T29.setTop (mkF m 87 #[.val (.ref a), .val (.int (129 : Int32)), .val (.int (1 : Int32)), .unset, .unset, .unset] [(.long (0 : Int64))]))
  refine Goes.st (fun t_ k_ => XS.lstoreN X29.here hx rfl (hb hby own_d_prog_17_12_87) rfl  (l' := #[.val (.ref a), .val (.int (129 : Int32)), .val (.int (1 : Int32)), .val (.long (0 : Int64)), .second, .unset]) rfl k_) ?_
  show Goes p e below s _ _ _ (T29.setTop (mkF m 88 #[.val (.ref a), .val (.int (129 : Int32)), .val (.int (1 : Int32)), .val (.long (0 : Int64)), .second, .unset] []))
  refine Goes.st (fun t_ k_ => XS.iconst X29.here hx rfl (hb hby own_d_prog_17_12_88) k_) ?_
  show Goes p e below s _ _ _ (T29.setTop (mkF m 89 #[.val (.ref a), .val (.int (129 : Int32)), .val (.int (1 : Int32)), .val (.long (0 : Int64)), .second, .unset] [(.int (0 : Int32))]))
  refine Goes.st (fun t_ k_ => XS.istore X29.here hx rfl (hb hby own_d_prog_17_12_89) rfl  (l' := #[.val (.ref a), .val (.int (129 : Int32)), .val (.int (1 : Int32)), .val (.long (0 : Int64)), .second, .val (.int (0 : Int32))]) rfl k_) ?_
  show Goes p e below s _ _ _ (T29.setTop (mkF m 91 #[.val (.ref a), .val (.int (129 : Int32)), .val (.int (1 : Int32)), .val (.long (0 : Int64)), .second, .val (.int (0 : Int32))] []))
  refine Goes.st (fun t_ k_ => XS.iload X29.here hx rfl (hb hby own_d_prog_17_12_91) rfl  k_) ?_
  show Goes p e below s _ _ _ (T29.setTop (mkF m 93 #[.val (.ref a), .val (.int (129 : Int32)), .val (.int (1 : Int32)), .val (.long (0 : Int64)), .second, .val (.int (0 : Int32))] [(.int (0 : Int32))]))
  refine Goes.st (fun t_ k_ => XS.iloadN X29.here hx rfl (hb hby own_d_prog_17_12_93) rfl  k_) ?_
  show Goes p e below s _ _ _ (T29.setTop (mkF m 94 #[.val (.ref a), .val (.int (129 : Int32)), .val (.int (1 : Int32)), .val (.long (0 : Int64)), .second, .val (.int (0 : Int32))] [(.int (1 : Int32)), (.int (0 : Int32))]))
  refine Goes.st (fun t_ k_ => XS.icmpNo X29.here hx rfl (hb hby own_d_prog_17_12_94) rfl (tlt (by decide)).2.1 k_) ?_
  show Goes p e below s _ _ _ (T29.setTop (mkF m 97 #[.val (.ref a), .val (.int (129 : Int32)), .val (.int (1 : Int32)), .val (.long (0 : Int64)), .second, .val (.int (0 : Int32))] []))
  refine Goes.st (fun t_ k_ => XS.lloadN X29.here hx rfl (hb hby own_d_prog_17_12_97) rfl  k_) ?_
  show Goes p e below s _ _ _ (T29.setTop (mkF m 98 #[.val (.ref a), .val (.int (129 : Int32)), .val (.int (1 : Int32)), .val (.long (0 : Int64)), .second, .val (.int (0 : Int32))] [(.long (0 : Int64))]))
  refine Goes.st (fun t_ k_ => XS.bipush X29.here hx rfl (hb hby own_d_prog_17_12_98) k_) ?_
  show Goes p e below s _ _ _ (T29.setTop (mkF m 100 #[.val (.ref a), .val (.int (129 : Int32)), .val (.int (1 : Int32)), .val (.long (0 : Int64)), .second, .val (.int (0 : Int32))] [(.int (8 : Int32)), (.long (0 : Int64))]))
  refine Goes.st (fun t_ k_ => XS.lshl X29.here hx rfl (hb hby own_d_prog_17_12_100) rfl k_) ?_
  show Goes p e below s _ _ _ (T29.setTop (mkF m 101 #[.val (.ref a), .val (.int (129 : Int32)), .val (.int (1 : Int32)), .val (.long (0 : Int64)), .second, .val (.int (0 : Int32))] [(.long ((0 : Int64) <<< ((8 : Int32) &&& 0x3f).toInt64))]))
  refine Goes.st (fun t_ k_ => XS.aloadN X29.here hx rfl (hb hby own_d_prog_17_12_101) rfl rfl k_) ?_
  show Goes p e below s _ _ _ (T29.setTop (mkF m 102 #[.val (.ref a), .val (.int (129 : Int32)), .val (.int (1 : Int32)), .val (.long (0 : Int64)), .second, .val (.int (0 : Int32))] [(.ref a), (.long ((0 : Int64) <<< ((8 : Int32) &&& 0x3f).toInt64))]))
  obtain ⟨T30, X30, e30, st30⟩ := getF X29 hx hZ hown (host := "") (Or.inl (hw _ (List.mem_of_getElem? (i := 18) rfl))) Via.refl e29 Fb_a (g := (mkF m 102 #[.val (.ref a), .val (.int (129 : Int32)), .val (.int (1 : Int32)), .val (.long (0 : Int64)), .second, .val (.int (0 : Int32))] [(.ref a), (.long ((0 : Int64) <<< ((8 : Int32) &&& 0x3f).toInt64))])) rfl rfl (hb hby own_d_prog_17_12_102)
  refine Goes.st st30 ?_
  show Goes p e below s _ _ _ (T30.setTop (mkF m 105 #[.val (.ref a), .val (.int (129 : Int32)), .val (.int (1 : Int32)), .val (.long (0 : Int64)), .second, .val (.int (0 : Int32))] [(.ref ab), (.long ((0 : Int64) <<< ((8 : Int32) &&& 0x3f).toInt64))]))
  refine Goes.st (fun t_ k_ => XS.aloadN X30.here hx rfl (hb hby own_d_prog_17_12_105) rfl rfl k_) ?_
  show Goes p e below s _ _ _ (T30.setTop (mkF m 106 #[.val (.ref a), .val (.int (129 : Int32)), .val (.int (1 : Int32)), .val (.long (0 : Int64)), .second, .val (.int (0 : Int32))] [(.ref a), (.ref ab), (.long ((0 : Int64) <<< ((8 : Int32) &&& 0x3f).toInt64))]))
  refine Goes.st (fun t_ k_ => XS.dup X30.here hx rfl (hb hby own_d_prog_17_12_106) rfl rfl k_) ?_
  show Goes p e below s _ _ _ (T30.setTop (mkF m 107 #[.val (.ref a), .val (.int (129 : Int32)), .val (.int (1 : Int32)), .val (.long (0 : Int64)), .second, .val (.int (0 : Int32))] [(.ref a), (.ref a), (.ref ab), (.long ((0 : Int64) <<< ((8 : Int32) &&& 0x3f).toInt64))]))
  obtain ⟨T31, X31, e31, st31⟩ := getF X30 hx hZ hown (host := "") (Or.inl (hw _ (List.mem_of_getElem? (i := 20) rfl))) Via.refl e30 Fp_a (g := (mkF m 107 #[.val (.ref a), .val (.int (129 : Int32)), .val (.int (1 : Int32)), .val (.long (0 : Int64)), .second, .val (.int (0 : Int32))] [(.ref a), (.ref a), (.ref ab), (.long ((0 : Int64) <<< ((8 : Int32) &&& 0x3f).toInt64))])) rfl rfl (hb hby own_d_prog_17_12_107)
  refine Goes.st st31 ?_
  show Goes p e below s _ _ _ (T31.setTop (mkF m 110 #[.val (.ref a), .val (.int (129 : Int32)), .val (.int (1 : Int32)), .val (.long (0 : Int64)), .second, .val (.int (0 : Int32))] [(.int (2 : Int32)), (.ref a), (.ref ab), (.long ((0 : Int64) <<< ((8 : Int32) &&& 0x3f).toInt64))]))
  refine Goes.st (fun t_ k_ => XS.dupX1 X31.here hx rfl (hb hby own_d_prog_17_12_110) rfl rfl rfl k_) ?_
  show Goes p e below s _ _ _ (T31.setTop (mkF m 111 #[.val (.ref a), .val (.int (129 : Int32)), .val (.int (1 : Int32)), .val (.long (0 : Int64)), .second, .val (.int (0 : Int32))] [(.int (2 : Int32)), (.ref a), (.int (2 : Int32)), (.ref ab), (.long ((0 : Int64) <<< ((8 : Int32) &&& 0x3f).toInt64))]))
  refine Goes.st (fun t_ k_ => XS.iconst X31.here hx rfl (hb hby own_d_prog_17_12_111) k_) ?_
  show Goes p e below s _ _ _ (T31.setTop (mkF m 112 #[.val (.ref a), .val (.int (129 : Int32)), .val (.int (1 : Int32)), .val (.long (0 : Int64)), .second, .val (.int (0 : Int32))] [(.int (1 : Int32)), (.int (2 : Int32)), (.ref a), (.int (2 : Int32)), (.ref ab), (.long ((0 : Int64) <<< ((8 : Int32) &&& 0x3f).toInt64))]))
  refine Goes.st (fun t_ k_ => XS.iadd X31.here hx rfl (hb hby own_d_prog_17_12_112) rfl k_) ?_
  show Goes p e below s _ _ _ (T31.setTop (mkF m 113 #[.val (.ref a), .val (.int (129 : Int32)), .val (.int (1 : Int32)), .val (.long (0 : Int64)), .second, .val (.int (0 : Int32))] [(.int ((2 : Int32) + (1 : Int32))), (.ref a), (.int (2 : Int32)), (.ref ab), (.long ((0 : Int64) <<< ((8 : Int32) &&& 0x3f).toInt64))]))
  obtain ⟨T32, h32, X32, e32, W32, st32⟩ := putF X31 hx hZ hown (host := "") (Or.inl (hw _ (List.mem_of_getElem? (i := 20) rfl))) Via.refl e31 Fp_a E_a (Or.inl (hw _ (List.mem_of_getElem? (i := 21) rfl))) (hw _ (List.mem_of_getElem? (i := 7) rfl)) (ty := .int) (by decide) rfl rfl (g := (mkF m 113 #[.val (.ref a), .val (.int (129 : Int32)), .val (.int (1 : Int32)), .val (.long (0 : Int64)), .second, .val (.int (0 : Int32))] [(.int ((2 : Int32) + (1 : Int32))), (.ref a), (.int (2 : Int32)), (.ref ab), (.long ((0 : Int64) <<< ((8 : Int32) &&& 0x3f).toInt64))])) rfl rfl (hb hby own_d_prog_17_12_113)
  refine Goes.st st32 ?_
  have E_a := E_a.wr W32
  have Fb_a := Fb_a.other W32 (Or.inr (slot_ne (Or.inr (hw _ (List.mem_of_getElem? (i := 19) rfl))) (Or.inl (hw _ (List.mem_of_getElem? (i := 21) rfl))) (by decide) (t := (.array .byte)) (t' := .int) (by decide) (by decide)))
  have Fp_a := Fp_a.same W32
  have Fe_a := Fe_a.other W32 (Or.inr (slot_ne (Or.inr (hw _ (List.mem_of_getElem? (i := 23) rfl))) (Or.inl (hw _ (List.mem_of_getElem? (i := 21) rfl))) (by decide) (t := .int) (t' := .int) (by decide) (by decide)))
  have V_ab := V_ab.other W32 (Ne.symm nab)
  have N32 := Fr.snoc X32 N23 g_a
  have Z0'' := Nat.le_trans Z0' (Keep.of_wr W32).1
  have K0 := K0.wr W32 (Or.inl (List.mem_of_getElem? (i := 0) rfl))
  show Goes p e below s _ _ _ (T32.setTop (mkF m 116 #[.val (.ref a), .val (.int (129 : Int32)), .val (.int (1 : Int32)), .val (.long (0 : Int64)), .second, .val (.int (0 : Int32))] [(.int (2 : Int32)), (.ref ab), (.long ((0 : Int64) <<< ((8 : Int32) &&& 0x3f).toInt64))]))
  have lit33 : ((2 : Int32) + (1 : Int32)) = (3 : Int32) := by decide
  rw [lit33] at Fp_a
  show Goes p e below s _ _ _ (T32.setTop (mkF m 116 #[.val (.ref a), .val (.int (129 : Int32)), .val (.int (1 : Int32)), .val (.long (0 : Int64)), .second, .val (.int (0 : Int32))] [(.int (2 : Int32)), (.ref ab), (.long ((0 : Int64) <<< ((8 : Int32) &&& 0x3f).toInt64))]))
  show Goes p e below s _ _ _ (T32.setTop (mkF m 116 #[.val (.ref a), .val (.int (129 : Int32)), .val (.int (1 : Int32)), .val (.long (0 : Int64)), .second, .val (.int (0 : Int32))] [(.int (2 : Int32)), (.ref ab), (.long ((0 : Int64) <<< ((8 : Int32) &&& 0x3f).toInt64))]))
  have VV34 := V_ab
  obtain ⟨cl34, Ar34, -, S34, M34, H34, -⟩ := VV34
  have hin34 := inb_of S34 (j := (2 : Int32)) ⟨by decide, by decide⟩
  refine Goes.st (fun t_ k_ => X32.baloadBytes hx (j := (2 : Int32)) (v := (.int (3 : Int32))) (by rw [e32]; exact Ar34.1) (State.isArrayOf_alike hZ.alike Ar34.2.1) Ar34.2.2 hin34 (Has.at H34 hin34 hat2) (g := (mkF m 116 #[.val (.ref a), .val (.int (129 : Int32)), .val (.int (1 : Int32)), .val (.long (0 : Int64)), .second, .val (.int (0 : Int32))] [(.int (2 : Int32)), (.ref ab), (.long ((0 : Int64) <<< ((8 : Int32) &&& 0x3f).toInt64))])) rfl rfl (hb hby own_d_prog_17_12_116) _ k_) ?_
  show Goes p e below s _ _ _ (T32.setTop (mkF m 117 #[.val (.ref a), .val (.int (129 : Int32)), .val (.int (1 : Int32)), .val (.long (0 : Int64)), .second, .val (.int (0 : Int32))] [(.int (3 : Int32)), (.long ((0 : Int64) <<< ((8 : Int32) &&& 0x3f).toInt64))]))
  refine Goes.st (fun t_ k_ => XS.sipush X32.here hx rfl (hb hby own_d_prog_17_12_117) k_) ?_
  show Goes p e below s _ _ _ (T32.setTop (mkF m 120 #[.val (.ref a), .val (.int (129 : Int32)), .val (.int (1 : Int32)), .val (.long (0 : Int64)), .second, .val (.int (0 : Int32))] [(.int (255 : Int32)), (.int (3 : Int32)), (.long ((0 : Int64) <<< ((8 : Int32) &&& 0x3f).toInt64))]))
  refine Goes.st (fun t_ k_ => XS.iand X32.here hx rfl (hb hby own_d_prog_17_12_120) rfl k_) ?_
  show Goes p e below s _ _ _ (T32.setTop (mkF m 121 #[.val (.ref a), .val (.int (129 : Int32)), .val (.int (1 : Int32)), .val (.long (0 : Int64)), .second, .val (.int (0 : Int32))] [(.int ((3 : Int32) &&& (255 : Int32))), (.long ((0 : Int64) <<< ((8 : Int32) &&& 0x3f).toInt64))]))
  refine Goes.st (fun t_ k_ => XS.i2l X32.here hx rfl (hb hby own_d_prog_17_12_121) rfl k_) ?_
  show Goes p e below s _ _ _ (T32.setTop (mkF m 122 #[.val (.ref a), .val (.int (129 : Int32)), .val (.int (1 : Int32)), .val (.long (0 : Int64)), .second, .val (.int (0 : Int32))] [(.long (((3 : Int32) &&& (255 : Int32)).toInt64)), (.long ((0 : Int64) <<< ((8 : Int32) &&& 0x3f).toInt64))]))
  refine Goes.st (fun t_ k_ => XS.lor X32.here hx rfl (hb hby own_d_prog_17_12_122) rfl k_) ?_
  show Goes p e below s _ _ _ (T32.setTop (mkF m 123 #[.val (.ref a), .val (.int (129 : Int32)), .val (.int (1 : Int32)), .val (.long (0 : Int64)), .second, .val (.int (0 : Int32))] [(.long (((0 : Int64) <<< ((8 : Int32) &&& 0x3f).toInt64) ||| (((3 : Int32) &&& (255 : Int32)).toInt64)))]))
  refine Goes.st (fun t_ k_ => XS.lstoreN X32.here hx rfl (hb hby own_d_prog_17_12_123) rfl  (l' := #[.val (.ref a), .val (.int (129 : Int32)), .val (.int (1 : Int32)), .val (.long (((0 : Int64) <<< ((8 : Int32) &&& 0x3f).toInt64) ||| (((3 : Int32) &&& (255 : Int32)).toInt64))), .second, .val (.int (0 : Int32))]) rfl k_) ?_
  show Goes p e below s _ _ _ (T32.setTop (mkF m 124 #[.val (.ref a), .val (.int (129 : Int32)), .val (.int (1 : Int32)), .val (.long (((0 : Int64) <<< ((8 : Int32) &&& 0x3f).toInt64) ||| (((3 : Int32) &&& (255 : Int32)).toInt64))), .second, .val (.int (0 : Int32))] []))
  have lit35 : (((0 : Int64) <<< ((8 : Int32) &&& 0x3f).toInt64) ||| (((3 : Int32) &&& (255 : Int32)).toInt64)) = (3 : Int64) := by decide
  rw [lit35]
  show Goes p e below s _ _ _ (T32.setTop (mkF m 124 #[.val (.ref a), .val (.int (129 : Int32)), .val (.int (1 : Int32)), .val (.long (3 : Int64)), .second, .val (.int (0 : Int32))] []))
  show Goes p e below s _ _ _ (T32.setTop (mkF m 124 #[.val (.ref a), .val (.int (129 : Int32)), .val (.int (1 : Int32)), .val (.long (3 : Int64)), .second, .val (.int (0 : Int32))] []))
  refine Goes.st (fun t_ k_ => XS.iinc X32.here hx rfl (hb hby own_d_prog_17_12_124) rfl (l' := #[.val (.ref a), .val (.int (129 : Int32)), .val (.int (1 : Int32)), .val (.long (3 : Int64)), .second, .val (.int ((0 : Int32) + (1 : Int32)))]) rfl k_) ?_
  show Goes p e below s _ _ _ (T32.setTop (mkF m 127 #[.val (.ref a), .val (.int (129 : Int32)), .val (.int (1 : Int32)), .val (.long (3 : Int64)), .second, .val (.int ((0 : Int32) + (1 : Int32)))] []))
  refine Goes.st (fun t_ k_ => XS.goto X32.here hx rfl (pc0 := 127) (pc' := 91) rfl (hb hby own_d_prog_17_12_127) (by decide) (by decide) k_) ?_
  show Goes p e below s _ _ _ (T32.setTop (mkF m 91 #[.val (.ref a), .val (.int (129 : Int32)), .val (.int (1 : Int32)), .val (.long (3 : Int64)), .second, .val (.int ((0 : Int32) + (1 : Int32)))] []))
  have lit36 : ((0 : Int32) + (1 : Int32)) = (1 : Int32) := by decide
  rw [lit36]
  show Goes p e below s _ _ _ (T32.setTop (mkF m 91 #[.val (.ref a), .val (.int (129 : Int32)), .val (.int (1 : Int32)), .val (.long (3 : Int64)), .second, .val (.int (1 : Int32))] []))
  show Goes p e below s _ _ _ (T32.setTop (mkF m 91 #[.val (.ref a), .val (.int (129 : Int32)), .val (.int (1 : Int32)), .val (.long (3 : Int64)), .second, .val (.int (1 : Int32))] []))
  refine Goes.st (fun t_ k_ => XS.iload X32.here hx rfl (hb hby own_d_prog_17_12_91) rfl  k_) ?_
  show Goes p e below s _ _ _ (T32.setTop (mkF m 93 #[.val (.ref a), .val (.int (129 : Int32)), .val (.int (1 : Int32)), .val (.long (3 : Int64)), .second, .val (.int (1 : Int32))] [(.int (1 : Int32))]))
  refine Goes.st (fun t_ k_ => XS.iloadN X32.here hx rfl (hb hby own_d_prog_17_12_93) rfl  k_) ?_
  show Goes p e below s _ _ _ (T32.setTop (mkF m 94 #[.val (.ref a), .val (.int (129 : Int32)), .val (.int (1 : Int32)), .val (.long (3 : Int64)), .second, .val (.int (1 : Int32))] [(.int (1 : Int32)), (.int (1 : Int32))]))
  refine Goes.st (fun t_ k_ => XS.icmpYes X32.here hx rfl (pc0 := 94) (pc' := 130) rfl (hb hby own_d_prog_17_12_94) rfl (flt (by decide)).2.1 (by decide) (by decide) k_) ?_
  show Goes p e below s _ _ _ (T32.setTop (mkF m 130 #[.val (.ref a), .val (.int (129 : Int32)), .val (.int (1 : Int32)), .val (.long (3 : Int64)), .second, .val (.int (1 : Int32))] []))
  refine Goes.st (fun t_ k_ => XS.lloadN X32.here hx rfl (hb hby own_d_prog_17_12_130) rfl  k_) ?_
  show Goes p e below s _ _ _ (T32.setTop (mkF m 131 #[.val (.ref a), .val (.int (129 : Int32)), .val (.int (1 : Int32)), .val (.long (3 : Int64)), .second, .val (.int (1 : Int32))] [(.long (3 : Int64))]))
  refine Goes.st (fun t_ k_ => X32.ldc2Long hx hown (mvT hZ (hw _ (List.mem_of_getElem? (i := 56) rfl))) (g := (mkF m 131 #[.val (.ref a), .val (.int (129 : Int32)), .val (.int (1 : Int32)), .val (.long (3 : Int64)), .second, .val (.int (1 : Int32))] [(.long (3 : Int64))])) rfl (hb hby own_d_prog_17_12_131) _ k_) ?_
  show Goes p e below s _ _ _ (T32.setTop (mkF m 134 #[.val (.ref a), .val (.int (129 : Int32)), .val (.int (1 : Int32)), .val (.long (3 : Int64)), .second, .val (.int (1 : Int32))] [(.long (2147483647 : Int64)), (.long (3 : Int64))]))
  refine Goes.st (fun t_ k_ => XS.lcmp X32.here hx rfl (hb hby own_d_prog_17_12_134) rfl k_) ?_
  show Goes p e below s _ _ _ (T32.setTop (mkF m 135 #[.val (.ref a), .val (.int (129 : Int32)), .val (.int (1 : Int32)), .val (.long (3 : Int64)), .second, .val (.int (1 : Int32))] [(.int (lcmpW (3 : Int64) (2147483647 : Int64)))]))
  refine Goes.st (fun t_ k_ => XS.ifYes X32.here hx rfl (pc0 := 135) (pc' := 148) rfl (hb hby own_d_prog_17_12_135) rfl ((if0 _ _).trans (flt (mt (lw_gt _ _).mp (by decide))).2.2.2) (by decide) (by decide) k_) ?_
  show Goes p e below s _ _ _ (T32.setTop (mkF m 148 #[.val (.ref a), .val (.int (129 : Int32)), .val (.int (1 : Int32)), .val (.long (3 : Int64)), .second, .val (.int (1 : Int32))] []))
  refine Goes.st (fun t_ k_ => XS.lloadN X32.here hx rfl (hb hby own_d_prog_17_12_148) rfl  k_) ?_
  show Goes p e below s _ _ _ (T32.setTop (mkF m 149 #[.val (.ref a), .val (.int (129 : Int32)), .val (.int (1 : Int32)), .val (.long (3 : Int64)), .second, .val (.int (1 : Int32))] [(.long (3 : Int64))]))
  refine Goes.st (fun t_ k_ => XS.l2i X32.here hx rfl (hb hby own_d_prog_17_12_149) rfl k_) ?_
  show Goes p e below s _ _ _ (T32.setTop (mkF m 150 #[.val (.ref a), .val (.int (129 : Int32)), .val (.int (1 : Int32)), .val (.long (3 : Int64)), .second, .val (.int (1 : Int32))] [(.int ((3 : Int64).toInt32))]))
  have lit37 : ((3 : Int64).toInt32) = (3 : Int32) := by decide
  rw [lit37]
  show Goes p e below s _ _ _ (T32.setTop (mkF m 150 #[.val (.ref a), .val (.int (129 : Int32)), .val (.int (1 : Int32)), .val (.long (3 : Int64)), .second, .val (.int (1 : Int32))] [(.int (3 : Int32))]))
  rw [← e32] at K0 E_a Fb_a Fp_a Fe_a
  exact Goes.retO X32 hx hret hlk rfl (Or.inl ⟨rfl, Or.inl rfl, _, rfl⟩) (hb hby own_d_prog_17_12_150) (by decide) (by decide) (⟨rfl, N32, K0, E_a, Fb_a, Fp_a, Fe_a⟩)
theorem own_rmNs_ef (m : MethodId) (a : Addr) : entryFrame m #[(.ref a)] 5 = mkF m 0 #[.val (.ref a), .unset, .unset, .unset, .unset] [] := by first | (simp [entryFrame, mkF, argsToLocals, Value.category]; done) | rfl
set_option maxRecDepth 65536 in
set_option maxHeartbeats 40000000 in
theorem own_rmNs (l : Launch) (Z : State) (a0 : Array Value) (hw : ∀ d ∈ tables_1, d.before a0 Z = true) (ws : List Jvm.Cond) (a ab : Addr) (p1 tb lb : Int32) (k : ClassId) (vs : List Value) (h0 : Heap) (n0 : Nat) (Z0 : n0 ≤ h0.size) (HR : own_R Z h0 a ab p1 6) (V_ab : Arv Z h0 ab k .byte (6 : Int32) vs (.int (0 : Int32))) (nab : a ≠ ab) (hp : ¬ p1 < 0 ∧ p1 < 6) (hat : vs.getD p1.toNatClampNeg (.int (0 : Int32)) = .int tb) (htb : ¬ (tb &&& 255) &&& 31 = 31) (hp2 : ¬ (p1 + 1) < 0 ∧ (p1 + 1) < 6) (hat2 : vs.getD (p1 + 1).toNatClampNeg (.int (0 : Int32)) = .int lb) (hlb : lb &&& 255 < 128) (hfit : ¬ (6 - (p1 + 1 + 1)) < (lb &&& 255)) (g_a : n0 ≤ a) :
    MetFree l (⟨"com/example/torniquete/torniquete/core/DerReader", "next", "()Lcom/example/torniquete/torniquete/core/DerReader$Element;"⟩ : MethodName) (head1 (Jvm.Cond.code (⟨"com/example/torniquete/torniquete/core/DerReader", "next", "()Lcom/example/torniquete/torniquete/core/DerReader$Element;"⟩ : MethodName) prog_17_method_11_code 5 (some (.object "com/example/torniquete/torniquete/core/DerReader$Element")) :: ws) ({ frames := 2, cells := 1, slots := 5, locals := 30 } : Room)) (fun aa_ U => aa_ = #[(.ref a)] ∧ Z.Warmed39 U.vm ∧ U.heap = h0) (fun _ _ _ _ _ => True) (fun _ U oo_ U' => ∃ vv_ LL_, oo_ = .returned vv_ ∧ own_QN Z a ab (p1 + 1 + 1 + (lb &&& 255)) h0 n0 vv_ U'.heap LL_ ∧ FrameEnd U oo_ U' LL_ ({ frames := 2, cells := 1, slots := 5, locals := 30 } : Room).cells ({ frames := 2, cells := 1, slots := 5, locals := 30 } : Room).slots) := by
  refine MetFree.of_bodySF (plainFor_of_name own_pn28) hisR ?_
  intro p e s m args below meth c s₁ Bd hml0 hP hK
  obtain ⟨rfl, hZ, hh⟩ := hP
  have hx := Bd.exec
  have hby := Bd.bytes
  have hml : c.maxLocals = 5 := hml0
  have hown : s.vm.findClass "com/example/torniquete/torniquete/core/DerReader" = some m.cls := findClass_of_methodNamed Bd.named
  have hnm := (name_of_methodNamed Bd.named Bd.method).1
  have hlk := Bd.notSynchronized
  have hret := Bd.returns
  have X0 : Stand p l e ({ frames := 2, cells := 1, slots := 5, locals := 30 } : Room) s m #[(.ref a)] below meth c s₁ [] 0 0 := Stand.of_body Bd
  have e0 : s₁.heap = h0 := by rw [← hh, Bd.state]; rfl
  have N0 := Fr.nil n0
  show Goes p e below s (own_QN Z a ab (p1 + 1 + 1 + (lb &&& 255)) h0 n0) ({ frames := 2, cells := 1, slots := 5, locals := 30 } : Room).cells ({ frames := 2, cells := 1, slots := 5, locals := 30 } : Room).slots _
  refine Goes.cast (own_rmNs_ef m a) ?_
  have HR' := HR
  obtain ⟨E_a, Fb_a, Fp_a, Fe_a⟩ := HR'
  have K0 := Keep.refl h0 [a]
  show Goes p e below s _ _ _ (s₁.setTop (mkF m 0 #[.val (.ref a), .unset, .unset, .unset, .unset] []))
  refine Goes.st (fun t_ k_ => XS.aloadN X0.here hx rfl (hb hby own_d_prog_17_11_0) rfl rfl k_) ?_
  show Goes p e below s _ _ _ (s₁.setTop (mkF m 1 #[.val (.ref a), .unset, .unset, .unset, .unset] [(.ref a)]))
  obtain ⟨cq38, kq38, q38a, q38b, q38c⟩ := isOf hZ e0 E_a
  obtain ⟨_, _, ⟨T38, L38, k38, n38⟩, -, X38, ⟨Lc38, hQ38, l38, y38, z38⟩, st38⟩ := X0.virtualBack hx (y := (⟨"com/example/torniquete/torniquete/core/DerReader", "hasNext", "()Z"⟩ : MethodName)) (z := (⟨"com/example/torniquete/torniquete/core/DerReader", "hasNext", "()Z"⟩ : MethodName)) hown (mvT hZ (hw _ (List.mem_of_getElem? (i := 34) rfl))) (mvT hZ (hw _ (List.mem_of_getElem? (i := 25) rfl))) (notFace_of_selects (args := #[]) (mvT hZ (hw _ (List.mem_of_getElem? (i := 27) rfl)))) (mvT hZ (hw _ (List.mem_of_getElem? (i := 27) rfl))) (mvT hZ (hw _ (List.mem_of_getElem? (i := 26) rfl))) (by decide) (backOf (W := 0) (own_rmH l Z a0 hw [] a ab p1 6 true h0 n0 Z0 HR (decide_eq_true hp.2)) hZ (hw _ (List.mem_of_getElem? (i := 28) rfl)) (hw _ (List.mem_of_getElem? (i := 8) rfl)) (by decide) (by decide)) q38a q38c (g := (mkF m 1 #[.val (.ref a), .unset, .unset, .unset, .unset] [(.ref a)])) rfl (by rw [hml]; rfl) (Steps.refl _) (argsL := []) (rest := []) (lenOf own_pd66 rfl) rfl (by show 2 * 0 + _ ≤ _; exact Nat.le_of_eq rfl) (hb hby own_d_prog_17_11_1) (fun _ _ => ⟨rfl, e0, (by decide : 0 + 0 ≤ _), (by decide : 0 + 0 ≤ _)⟩)
  dsimp only [Pt.U, Pt.locs, Pt.cells, Pt.slots] at X38 l38 y38 z38 st38 hQ38
  subst l38 y38 z38
  obtain ⟨rfl, N38q, EQ1⟩ := hQ38
  have N38 := Fr.app N0 N38q
  refine Goes.tr st38 ?_
  show Goes p e below s _ _ _ (T38.setTop (mkF m 4 #[.val (.ref a), .unset, .unset, .unset, .unset] [(.int (own_bI true))]))
  refine Goes.st (fun t_ k_ => XS.ifYes X38.here hx rfl (pc0 := 4) (pc' := 13) rfl (hb hby own_d_prog_17_11_4) rfl ((if0 _ _).trans (feq (by decide)).2) (by decide) (by decide) k_) ?_
  show Goes p e below s _ _ _ (T38.setTop (mkF m 13 #[.val (.ref a), .unset, .unset, .unset, .unset] []))
  refine Goes.st (fun t_ k_ => XS.aloadN X38.here hx rfl (hb hby own_d_prog_17_11_13) rfl rfl k_) ?_
  show Goes p e below s _ _ _ (T38.setTop (mkF m 14 #[.val (.ref a), .unset, .unset, .unset, .unset] [(.ref a)]))
  obtain ⟨T39, X39, e39, st39⟩ := getF X38 hx hZ hown (host := "") (Or.inl (hw _ (List.mem_of_getElem? (i := 20) rfl))) Via.refl EQ1 Fp_a (g := (mkF m 14 #[.val (.ref a), .unset, .unset, .unset, .unset] [(.ref a)])) rfl rfl (hb hby own_d_prog_17_11_14)
  refine Goes.st st39 ?_
  show Goes p e below s _ _ _ (T39.setTop (mkF m 17 #[.val (.ref a), .unset, .unset, .unset, .unset] [(.int p1)]))
  refine Goes.st (fun t_ k_ => XS.istoreN X39.here hx rfl (hb hby own_d_prog_17_11_17) rfl  (l' := #[.val (.ref a), .val (.int p1), .unset, .unset, .unset]) rfl k_) ?_
  show Goes p e below s _ _ _ (T39.setTop (mkF m 18 #[.val (.ref a), .val (.int p1), .unset, .unset, .unset] []))
  refine Goes.st (fun t_ k_ => XS.aloadN X39.here hx rfl (hb hby own_d_prog_17_11_18) rfl rfl k_) ?_
  show Goes p e below s _ _ _ (T39.setTop (mkF m 19 #[.val (.ref a), .val (.int p1), .unset, .unset, .unset] [(.ref a)]))
  obtain ⟨T40, X40, e40, st40⟩ := getF X39 hx hZ hown (host := "") (Or.inl (hw _ (List.mem_of_getElem? (i := 18) rfl))) Via.refl e39 Fb_a (g := (mkF m 19 #[.val (.ref a), .val (.int p1), .unset, .unset, .unset] [(.ref a)])) rfl rfl (hb hby own_d_prog_17_11_19)
  refine Goes.st st40 ?_
  show Goes p e below s _ _ _ (T40.setTop (mkF m 22 #[.val (.ref a), .val (.int p1), .unset, .unset, .unset] [(.ref ab)]))
  refine Goes.st (fun t_ k_ => XS.aloadN X40.here hx rfl (hb hby own_d_prog_17_11_22) rfl rfl k_) ?_
  show Goes p e below s _ _ _ (T40.setTop (mkF m 23 #[.val (.ref a), .val (.int p1), .unset, .unset, .unset] [(.ref a), (.ref ab)]))
  refine Goes.st (fun t_ k_ => XS.dup X40.here hx rfl (hb hby own_d_prog_17_11_23) rfl rfl k_) ?_
  show Goes p e below s _ _ _ (T40.setTop (mkF m 24 #[.val (.ref a), .val (.int p1), .unset, .unset, .unset] [(.ref a), (.ref a), (.ref ab)]))
  obtain ⟨T41, X41, e41, st41⟩ := getF X40 hx hZ hown (host := "") (Or.inl (hw _ (List.mem_of_getElem? (i := 20) rfl))) Via.refl e40 Fp_a (g := (mkF m 24 #[.val (.ref a), .val (.int p1), .unset, .unset, .unset] [(.ref a), (.ref a), (.ref ab)])) rfl rfl (hb hby own_d_prog_17_11_24)
  refine Goes.st st41 ?_
  show Goes p e below s _ _ _ (T41.setTop (mkF m 27 #[.val (.ref a), .val (.int p1), .unset, .unset, .unset] [(.int p1), (.ref a), (.ref ab)]))
  refine Goes.st (fun t_ k_ => XS.dupX1 X41.here hx rfl (hb hby own_d_prog_17_11_27) rfl rfl rfl k_) ?_
  show Goes p e below s _ _ _ (T41.setTop (mkF m 28 #[.val (.ref a), .val (.int p1), .unset, .unset, .unset] [(.int p1), (.ref a), (.int p1), (.ref ab)]))
  refine Goes.st (fun t_ k_ => XS.iconst X41.here hx rfl (hb hby own_d_prog_17_11_28) k_) ?_
  show Goes p e below s _ _ _ (T41.setTop (mkF m 29 #[.val (.ref a), .val (.int p1), .unset, .unset, .unset] [(.int (1 : Int32)), (.int p1), (.ref a), (.int p1), (.ref ab)]))
  refine Goes.st (fun t_ k_ => XS.iadd X41.here hx rfl (hb hby own_d_prog_17_11_29) rfl k_) ?_
  show Goes p e below s _ _ _ (T41.setTop (mkF m 30 #[.val (.ref a), .val (.int p1), .unset, .unset, .unset] [(.int (p1 + (1 : Int32))), (.ref a), (.int p1), (.ref ab)]))
  obtain ⟨T42, h42, X42, e42, W42, st42⟩ := putF X41 hx hZ hown (host := "") (Or.inl (hw _ (List.mem_of_getElem? (i := 20) rfl))) Via.refl e41 Fp_a E_a (Or.inl (hw _ (List.mem_of_getElem? (i := 21) rfl))) (hw _ (List.mem_of_getElem? (i := 7) rfl)) (ty := .int) (by decide) rfl rfl (g := (mkF m 30 #[.val (.ref a), .val (.int p1), .unset, .unset, .unset] [(.int (p1 + (1 : Int32))), (.ref a), (.int p1), (.ref ab)])) rfl rfl (hb hby own_d_prog_17_11_30)
  refine Goes.st st42 ?_
  have E_a := E_a.wr W42
  have Fb_a := Fb_a.other W42 (Or.inr (slot_ne (Or.inr (hw _ (List.mem_of_getElem? (i := 19) rfl))) (Or.inl (hw _ (List.mem_of_getElem? (i := 21) rfl))) (by decide) (t := (.array .byte)) (t' := .int) (by decide) (by decide)))
  have Fp_a := Fp_a.same W42
  have Fe_a := Fe_a.other W42 (Or.inr (slot_ne (Or.inr (hw _ (List.mem_of_getElem? (i := 23) rfl))) (Or.inl (hw _ (List.mem_of_getElem? (i := 21) rfl))) (by decide) (t := .int) (t' := .int) (by decide) (by decide)))
  have V_ab := V_ab.other W42 (Ne.symm nab)
  have N42 := Fr.snoc X42 N38 g_a
  have Z0' := Nat.le_trans Z0 (Keep.of_wr W42).1
  have K0 := K0.wr W42 (Or.inl (List.mem_of_getElem? (i := 0) rfl))
  show Goes p e below s _ _ _ (T42.setTop (mkF m 33 #[.val (.ref a), .val (.int p1), .unset, .unset, .unset] [(.int p1), (.ref ab)]))
  show Goes p e below s _ _ _ (T42.setTop (mkF m 33 #[.val (.ref a), .val (.int p1), .unset, .unset, .unset] [(.int p1), (.ref ab)]))
  have VV43 := V_ab
  obtain ⟨cl43, Ar43, -, S43, M43, H43, -⟩ := VV43
  have hin43 := inb_of S43 (j := p1) hp
  refine Goes.st (fun t_ k_ => X42.baloadBytes hx (j := p1) (v := (.int tb)) (by rw [e42]; exact Ar43.1) (State.isArrayOf_alike hZ.alike Ar43.2.1) Ar43.2.2 hin43 (Has.at H43 hin43 hat) (g := (mkF m 33 #[.val (.ref a), .val (.int p1), .unset, .unset, .unset] [(.int p1), (.ref ab)])) rfl rfl (hb hby own_d_prog_17_11_33) _ k_) ?_
  show Goes p e below s _ _ _ (T42.setTop (mkF m 34 #[.val (.ref a), .val (.int p1), .unset, .unset, .unset] [(.int tb)]))
  refine Goes.st (fun t_ k_ => XS.sipush X42.here hx rfl (hb hby own_d_prog_17_11_34) k_) ?_
  show Goes p e below s _ _ _ (T42.setTop (mkF m 37 #[.val (.ref a), .val (.int p1), .unset, .unset, .unset] [(.int (255 : Int32)), (.int tb)]))
  refine Goes.st (fun t_ k_ => XS.iand X42.here hx rfl (hb hby own_d_prog_17_11_37) rfl k_) ?_
  show Goes p e below s _ _ _ (T42.setTop (mkF m 38 #[.val (.ref a), .val (.int p1), .unset, .unset, .unset] [(.int (tb &&& (255 : Int32)))]))
  refine Goes.st (fun t_ k_ => XS.istoreN X42.here hx rfl (hb hby own_d_prog_17_11_38) rfl  (l' := #[.val (.ref a), .val (.int p1), .val (.int (tb &&& (255 : Int32))), .unset, .unset]) rfl k_) ?_
  show Goes p e below s _ _ _ (T42.setTop (mkF m 39 #[.val (.ref a), .val (.int p1), .val (.int (tb &&& (255 : Int32))), .unset, .unset] []))
  refine Goes.st (fun t_ k_ => XS.iloadN X42.here hx rfl (hb hby own_d_prog_17_11_39) rfl  k_) ?_
  show Goes p e below s _ _ _ (T42.setTop (mkF m 40 #[.val (.ref a), .val (.int p1), .val (.int (tb &&& (255 : Int32))), .unset, .unset] [(.int (tb &&& (255 : Int32)))]))
  refine Goes.st (fun t_ k_ => XS.bipush X42.here hx rfl (hb hby own_d_prog_17_11_40) k_) ?_
  show Goes p e below s _ _ _ (T42.setTop (mkF m 42 #[.val (.ref a), .val (.int p1), .val (.int (tb &&& (255 : Int32))), .unset, .unset] [(.int (31 : Int32)), (.int (tb &&& (255 : Int32)))]))
  refine Goes.st (fun t_ k_ => XS.iand X42.here hx rfl (hb hby own_d_prog_17_11_42) rfl k_) ?_
  show Goes p e below s _ _ _ (T42.setTop (mkF m 43 #[.val (.ref a), .val (.int p1), .val (.int (tb &&& (255 : Int32))), .unset, .unset] [(.int ((tb &&& (255 : Int32)) &&& (31 : Int32)))]))
  refine Goes.st (fun t_ k_ => XS.bipush X42.here hx rfl (hb hby own_d_prog_17_11_43) k_) ?_
  show Goes p e below s _ _ _ (T42.setTop (mkF m 45 #[.val (.ref a), .val (.int p1), .val (.int (tb &&& (255 : Int32))), .unset, .unset] [(.int (31 : Int32)), (.int ((tb &&& (255 : Int32)) &&& (31 : Int32)))]))
  refine Goes.st (fun t_ k_ => XS.icmpYes X42.here hx rfl (pc0 := 45) (pc' := 54) rfl (hb hby own_d_prog_17_11_45) rfl (feq htb).2 (by decide) (by decide) k_) ?_
  show Goes p e below s _ _ _ (T42.setTop (mkF m 54 #[.val (.ref a), .val (.int p1), .val (.int (tb &&& (255 : Int32))), .unset, .unset] []))
  refine Goes.st (fun t_ k_ => XS.aloadN X42.here hx rfl (hb hby own_d_prog_17_11_54) rfl rfl k_) ?_
  show Goes p e below s _ _ _ (T42.setTop (mkF m 55 #[.val (.ref a), .val (.int p1), .val (.int (tb &&& (255 : Int32))), .unset, .unset] [(.ref a)]))
  have HR1 : own_R Z _ a ab (p1 + (1 : Int32)) 6 := ⟨E_a, Fb_a, Fp_a, Fe_a⟩
  obtain ⟨cq44, q44, q44'⟩ := E_a.cell
  obtain ⟨_, _, ⟨T44, L44, k44, n44⟩, -, X44, ⟨Lc44, hQ44, l44, y44, z44⟩, st44⟩ := X42.privateBack hx (y := (⟨"com/example/torniquete/torniquete/core/DerReader", "length", "()I"⟩ : MethodName)) hown (mvT hZ (hw _ (List.mem_of_getElem? (i := 35) rfl))) (mvT hZ (hw _ (List.mem_of_getElem? (i := 36) rfl))) (own_selp hZ (hw _ (List.mem_of_getElem? (i := 7) rfl)) (hw _ (List.mem_of_getElem? (i := 36) rfl)) (hw _ (List.mem_of_getElem? (i := 37) rfl)) (by decide)) (Cond.privateMethod_at (mvP hZ (hw _ (List.mem_of_getElem? (i := 37) rfl)) (args := #[]))) (mvT hZ (hw _ (List.mem_of_getElem? (i := 38) rfl))) (by decide) (backOf (W := 0) (own_rmLs l Z a0 hw [] a ab (p1 + (1 : Int32)) lb k vs h42 n0 Z0' HR1 V_ab nab hp2 hat2 hlb g_a) hZ (hw _ (List.mem_of_getElem? (i := 38) rfl)) (hw _ (List.mem_of_getElem? (i := 8) rfl)) (by decide) (by decide)) (g := (mkF m 55 #[.val (.ref a), .val (.int p1), .val (.int (tb &&& (255 : Int32))), .unset, .unset] [(.ref a)])) rfl (by rw [hml]; rfl) (Steps.refl _) (a := a) (by rw [e42]; exact q44) q44' (argsL := []) (rest := []) (lenOf own_pd162 rfl) rfl (by show 2 * 0 + _ ≤ _; exact Nat.le_of_eq rfl) (hb hby own_d_prog_17_11_55) (fun _ _ => ⟨rfl, e42, (by decide : 0 + 0 ≤ _), (by decide : 0 + 0 ≤ _)⟩)
  dsimp only [Pt.U, Pt.locs, Pt.cells, Pt.slots] at X44 l44 y44 z44 st44 hQ44
  subst l44 y44 z44
  obtain ⟨rfl, N44q, KL, HR1⟩ := hQ44
  have N44 := Fr.app N42 N44q
  refine Goes.tr st44 ?_
  have V_ab := V_ab.keep KL (ninS (Ne.symm nab) nin0)
  have Z0'' := Nat.le_trans Z0' KL.1
  have K0 : Keep h0 _ _ := K0.trans KL (allS (Or.inl (List.mem_of_getElem? (i := 0) rfl)) all0)
  have HR2 := HR1
  obtain ⟨E_a, Fb_a, Fp_a, Fe_a⟩ := HR2
  show Goes p e below s _ _ _ (T44.setTop (mkF m 58 #[.val (.ref a), .val (.int p1), .val (.int (tb &&& (255 : Int32))), .unset, .unset] [(.int (lb &&& (255 : Int32)))]))
  refine Goes.st (fun t_ k_ => XS.istoreN X44.here hx rfl (hb hby own_d_prog_17_11_58) rfl  (l' := #[.val (.ref a), .val (.int p1), .val (.int (tb &&& (255 : Int32))), .val (.int (lb &&& (255 : Int32))), .unset]) rfl k_) ?_
  show Goes p e below s _ _ _ (T44.setTop (mkF m 59 #[.val (.ref a), .val (.int p1), .val (.int (tb &&& (255 : Int32))), .val (.int (lb &&& (255 : Int32))), .unset] []))
  refine Goes.st (fun t_ k_ => XS.iloadN X44.here hx rfl (hb hby own_d_prog_17_11_59) rfl  k_) ?_
  show Goes p e below s _ _ _ (T44.setTop (mkF m 60 #[.val (.ref a), .val (.int p1), .val (.int (tb &&& (255 : Int32))), .val (.int (lb &&& (255 : Int32))), .unset] [(.int (lb &&& (255 : Int32)))]))
  refine Goes.st (fun t_ k_ => XS.aloadN X44.here hx rfl (hb hby own_d_prog_17_11_60) rfl rfl k_) ?_
  show Goes p e below s _ _ _ (T44.setTop (mkF m 61 #[.val (.ref a), .val (.int p1), .val (.int (tb &&& (255 : Int32))), .val (.int (lb &&& (255 : Int32))), .unset] [(.ref a), (.int (lb &&& (255 : Int32)))]))
  obtain ⟨T45, X45, e45, st45⟩ := getF X44 hx hZ hown (host := "") (Or.inl (hw _ (List.mem_of_getElem? (i := 22) rfl))) Via.refl rfl Fe_a (g := (mkF m 61 #[.val (.ref a), .val (.int p1), .val (.int (tb &&& (255 : Int32))), .val (.int (lb &&& (255 : Int32))), .unset] [(.ref a), (.int (lb &&& (255 : Int32)))])) rfl rfl (hb hby own_d_prog_17_11_61)
  refine Goes.st st45 ?_
  show Goes p e below s _ _ _ (T45.setTop (mkF m 64 #[.val (.ref a), .val (.int p1), .val (.int (tb &&& (255 : Int32))), .val (.int (lb &&& (255 : Int32))), .unset] [(.int (6 : Int32)), (.int (lb &&& (255 : Int32)))]))
  refine Goes.st (fun t_ k_ => XS.aloadN X45.here hx rfl (hb hby own_d_prog_17_11_64) rfl rfl k_) ?_
  show Goes p e below s _ _ _ (T45.setTop (mkF m 65 #[.val (.ref a), .val (.int p1), .val (.int (tb &&& (255 : Int32))), .val (.int (lb &&& (255 : Int32))), .unset] [(.ref a), (.int (6 : Int32)), (.int (lb &&& (255 : Int32)))]))
  obtain ⟨T46, X46, e46, st46⟩ := getF X45 hx hZ hown (host := "") (Or.inl (hw _ (List.mem_of_getElem? (i := 20) rfl))) Via.refl e45 Fp_a (g := (mkF m 65 #[.val (.ref a), .val (.int p1), .val (.int (tb &&& (255 : Int32))), .val (.int (lb &&& (255 : Int32))), .unset] [(.ref a), (.int (6 : Int32)), (.int (lb &&& (255 : Int32)))])) rfl rfl (hb hby own_d_prog_17_11_65)
  refine Goes.st st46 ?_
  show Goes p e below s _ _ _ (T46.setTop (mkF m 68 #[.val (.ref a), .val (.int p1), .val (.int (tb &&& (255 : Int32))), .val (.int (lb &&& (255 : Int32))), .unset] [(.int ((p1 + (1 : Int32)) + 1)), (.int (6 : Int32)), (.int (lb &&& (255 : Int32)))]))
  refine Goes.st (fun t_ k_ => XS.isub X46.here hx rfl (hb hby own_d_prog_17_11_68) rfl k_) ?_
  show Goes p e below s _ _ _ (T46.setTop (mkF m 69 #[.val (.ref a), .val (.int p1), .val (.int (tb &&& (255 : Int32))), .val (.int (lb &&& (255 : Int32))), .unset] [(.int ((6 : Int32) - ((p1 + (1 : Int32)) + 1))), (.int (lb &&& (255 : Int32)))]))
  refine Goes.st (fun t_ k_ => XS.icmpYes X46.here hx rfl (pc0 := 69) (pc' := 78) rfl (hb hby own_d_prog_17_11_69) rfl (flt hfit).2.2.2 (by decide) (by decide) k_) ?_
  show Goes p e below s _ _ _ (T46.setTop (mkF m 78 #[.val (.ref a), .val (.int p1), .val (.int (tb &&& (255 : Int32))), .val (.int (lb &&& (255 : Int32))), .unset] []))
  obtain ⟨T47, h47, X47, e47, E47, A47, D47, -, st47⟩ := newO X46 hx hZ hown (hw _ (List.mem_of_getElem? (i := 39) rfl)) (hw _ (List.mem_of_getElem? (i := 40) rfl)) (hw _ (List.mem_of_getElem? (i := 41) rfl)) e46 (g := (mkF m 78 #[.val (.ref a), .val (.int p1), .val (.int (tb &&& (255 : Int32))), .val (.int (lb &&& (255 : Int32))), .unset] [])) rfl (hb hby own_d_prog_17_11_78) (by decide) (by decide)
  obtain ⟨b47, g47⟩ : ∃ z, z = T44.heap.size := ⟨_, rfl⟩
  rw [← g47] at A47 D47 st47
  have ne_ab_b47 : ab ≠ b47 := Nat.ne_of_lt (Nat.lt_of_lt_of_le V_ab.lt (Nat.le_of_eq g47.symm))
  have ne_a_b47 : a ≠ b47 := Nat.ne_of_lt (Nat.lt_of_lt_of_le E_a.lt (Nat.le_of_eq g47.symm))
  have gn_b47 : n0 ≤ b47 := Nat.le_trans Z0'' (Nat.le_of_eq g47.symm)
  have kn_b47 : h0.size ≤ b47 := Nat.le_trans K0.1 (Nat.le_of_eq g47.symm)
  refine Goes.st st47 ?_
  have V_ab := V_ab.ext E47
  have E_a := E_a.ext E47
  have Fb_a := Fb_a.ext E47
  have Fp_a := Fp_a.ext E47
  have Fe_a := Fe_a.ext E47
  have Z0''' := Nat.le_trans Z0'' E47.1
  have K0 := K0.ext E47
  have Ex_b47 := A47
  have F_bytes_b47 : Fld Z h47 b47 "com/example/torniquete/torniquete/core/DerReader$Element" "bytes" "[B" .null := D47 (Or.inr (hw _ (List.mem_of_getElem? (i := 47) rfl))) (ty := (.array .byte)) (by decide)
  have F_tag_b47 : Fld Z h47 b47 "com/example/torniquete/torniquete/core/DerReader$Element" "tag" "I" (.int (0 : Int32)) := D47 (Or.inr (hw _ (List.mem_of_getElem? (i := 49) rfl))) (ty := .int) (by decide)
  have F_start_b47 : Fld Z h47 b47 "com/example/torniquete/torniquete/core/DerReader$Element" "start" "I" (.int (0 : Int32)) := D47 (Or.inr (hw _ (List.mem_of_getElem? (i := 51) rfl))) (ty := .int) (by decide)
  have F_contentsStart_b47 : Fld Z h47 b47 "com/example/torniquete/torniquete/core/DerReader$Element" "contentsStart" "I" (.int (0 : Int32)) := D47 (Or.inr (hw _ (List.mem_of_getElem? (i := 53) rfl))) (ty := .int) (by decide)
  have F_end_b47 : Fld Z h47 b47 "com/example/torniquete/torniquete/core/DerReader$Element" "end" "I" (.int (0 : Int32)) := D47 (Or.inr (hw _ (List.mem_of_getElem? (i := 55) rfl))) (ty := .int) (by decide)
  show Goes p e below s _ _ _ (T47.setTop (mkF m 81 #[.val (.ref a), .val (.int p1), .val (.int (tb &&& (255 : Int32))), .val (.int (lb &&& (255 : Int32))), .unset] [(.ref b47)]))
  refine Goes.st (fun t_ k_ => XS.dup X47.here hx rfl (hb hby own_d_prog_17_11_81) rfl rfl k_) ?_
  show Goes p e below s _ _ _ (T47.setTop (mkF m 82 #[.val (.ref a), .val (.int p1), .val (.int (tb &&& (255 : Int32))), .val (.int (lb &&& (255 : Int32))), .unset] [(.ref b47), (.ref b47)]))
  refine Goes.st (fun t_ k_ => XS.aloadN X47.here hx rfl (hb hby own_d_prog_17_11_82) rfl rfl k_) ?_
  show Goes p e below s _ _ _ (T47.setTop (mkF m 83 #[.val (.ref a), .val (.int p1), .val (.int (tb &&& (255 : Int32))), .val (.int (lb &&& (255 : Int32))), .unset] [(.ref a), (.ref b47), (.ref b47)]))
  obtain ⟨T48, X48, e48, st48⟩ := getF X47 hx hZ hown (host := "") (Or.inl (hw _ (List.mem_of_getElem? (i := 18) rfl))) Via.refl e47 Fb_a (g := (mkF m 83 #[.val (.ref a), .val (.int p1), .val (.int (tb &&& (255 : Int32))), .val (.int (lb &&& (255 : Int32))), .unset] [(.ref a), (.ref b47), (.ref b47)])) rfl rfl (hb hby own_d_prog_17_11_83)
  refine Goes.st st48 ?_
  show Goes p e below s _ _ _ (T48.setTop (mkF m 86 #[.val (.ref a), .val (.int p1), .val (.int (tb &&& (255 : Int32))), .val (.int (lb &&& (255 : Int32))), .unset] [(.ref ab), (.ref b47), (.ref b47)]))
  refine Goes.st (fun t_ k_ => XS.iloadN X48.here hx rfl (hb hby own_d_prog_17_11_86) rfl  k_) ?_
  show Goes p e below s _ _ _ (T48.setTop (mkF m 87 #[.val (.ref a), .val (.int p1), .val (.int (tb &&& (255 : Int32))), .val (.int (lb &&& (255 : Int32))), .unset] [(.int (tb &&& (255 : Int32))), (.ref ab), (.ref b47), (.ref b47)]))
  refine Goes.st (fun t_ k_ => XS.iloadN X48.here hx rfl (hb hby own_d_prog_17_11_87) rfl  k_) ?_
  show Goes p e below s _ _ _ (T48.setTop (mkF m 88 #[.val (.ref a), .val (.int p1), .val (.int (tb &&& (255 : Int32))), .val (.int (lb &&& (255 : Int32))), .unset] [(.int p1), (.int (tb &&& (255 : Int32))), (.ref ab), (.ref b47), (.ref b47)]))
  refine Goes.st (fun t_ k_ => XS.aloadN X48.here hx rfl (hb hby own_d_prog_17_11_88) rfl rfl k_) ?_
  show Goes p e below s _ _ _ (T48.setTop (mkF m 89 #[.val (.ref a), .val (.int p1), .val (.int (tb &&& (255 : Int32))), .val (.int (lb &&& (255 : Int32))), .unset] [(.ref a), (.int p1), (.int (tb &&& (255 : Int32))), (.ref ab), (.ref b47), (.ref b47)]))
  obtain ⟨T49, X49, e49, st49⟩ := getF X48 hx hZ hown (host := "") (Or.inl (hw _ (List.mem_of_getElem? (i := 20) rfl))) Via.refl e48 Fp_a (g := (mkF m 89 #[.val (.ref a), .val (.int p1), .val (.int (tb &&& (255 : Int32))), .val (.int (lb &&& (255 : Int32))), .unset] [(.ref a), (.int p1), (.int (tb &&& (255 : Int32))), (.ref ab), (.ref b47), (.ref b47)])) rfl rfl (hb hby own_d_prog_17_11_89)
  refine Goes.st st49 ?_
  show Goes p e below s _ _ _ (T49.setTop (mkF m 92 #[.val (.ref a), .val (.int p1), .val (.int (tb &&& (255 : Int32))), .val (.int (lb &&& (255 : Int32))), .unset] [(.int ((p1 + (1 : Int32)) + 1)), (.int p1), (.int (tb &&& (255 : Int32))), (.ref ab), (.ref b47), (.ref b47)]))
  refine Goes.st (fun t_ k_ => XS.aloadN X49.here hx rfl (hb hby own_d_prog_17_11_92) rfl rfl k_) ?_
  show Goes p e below s _ _ _ (T49.setTop (mkF m 93 #[.val (.ref a), .val (.int p1), .val (.int (tb &&& (255 : Int32))), .val (.int (lb &&& (255 : Int32))), .unset] [(.ref a), (.int ((p1 + (1 : Int32)) + 1)), (.int p1), (.int (tb &&& (255 : Int32))), (.ref ab), (.ref b47), (.ref b47)]))
  obtain ⟨T50, X50, e50, st50⟩ := getF X49 hx hZ hown (host := "") (Or.inl (hw _ (List.mem_of_getElem? (i := 20) rfl))) Via.refl e49 Fp_a (g := (mkF m 93 #[.val (.ref a), .val (.int p1), .val (.int (tb &&& (255 : Int32))), .val (.int (lb &&& (255 : Int32))), .unset] [(.ref a), (.int ((p1 + (1 : Int32)) + 1)), (.int p1), (.int (tb &&& (255 : Int32))), (.ref ab), (.ref b47), (.ref b47)])) rfl rfl (hb hby own_d_prog_17_11_93)
  refine Goes.st st50 ?_
  show Goes p e below s _ _ _ (T50.setTop (mkF m 96 #[.val (.ref a), .val (.int p1), .val (.int (tb &&& (255 : Int32))), .val (.int (lb &&& (255 : Int32))), .unset] [(.int ((p1 + (1 : Int32)) + 1)), (.int ((p1 + (1 : Int32)) + 1)), (.int p1), (.int (tb &&& (255 : Int32))), (.ref ab), (.ref b47), (.ref b47)]))
  refine Goes.st (fun t_ k_ => XS.iloadN X50.here hx rfl (hb hby own_d_prog_17_11_96) rfl  k_) ?_
  show Goes p e below s _ _ _ (T50.setTop (mkF m 97 #[.val (.ref a), .val (.int p1), .val (.int (tb &&& (255 : Int32))), .val (.int (lb &&& (255 : Int32))), .unset] [(.int (lb &&& (255 : Int32))), (.int ((p1 + (1 : Int32)) + 1)), (.int ((p1 + (1 : Int32)) + 1)), (.int p1), (.int (tb &&& (255 : Int32))), (.ref ab), (.ref b47), (.ref b47)]))
  refine Goes.st (fun t_ k_ => XS.iadd X50.here hx rfl (hb hby own_d_prog_17_11_97) rfl k_) ?_
  show Goes p e below s _ _ _ (T50.setTop (mkF m 98 #[.val (.ref a), .val (.int p1), .val (.int (tb &&& (255 : Int32))), .val (.int (lb &&& (255 : Int32))), .unset] [(.int (((p1 + (1 : Int32)) + 1) + (lb &&& (255 : Int32)))), (.int ((p1 + (1 : Int32)) + 1)), (.int p1), (.int (tb &&& (255 : Int32))), (.ref ab), (.ref b47), (.ref b47)]))
  obtain ⟨_, _, ⟨T51, L51, k51, n51⟩, -, X51, ⟨Lc51, hQ51, l51, y51, z51⟩, st51⟩ := own_specialRef X50 hx hZ (y := (⟨"com/example/torniquete/torniquete/core/DerReader$Element", "<init>", "([BIIII)V"⟩ : MethodName)) rfl hown (hw _ (List.mem_of_getElem? (i := 42) rfl)) (mvT hZ (hw _ (List.mem_of_getElem? (i := 43) rfl))) (mvT hZ (hw _ (List.mem_of_getElem? (i := 44) rfl))) (by decide) (backOf (W := 1) (own_rmE l Z a0 hw [] b47 ab (tb &&& (255 : Int32)) p1 ((p1 + (1 : Int32)) + 1) (((p1 + (1 : Int32)) + 1) + (lb &&& (255 : Int32))) h47 n0 Z0''' Ex_b47 F_bytes_b47 F_tag_b47 F_start_b47 F_contentsStart_b47 F_end_b47 gn_b47) hZ (hw _ (List.mem_of_getElem? (i := 44) rfl)) (hw _ (List.mem_of_getElem? (i := 41) rfl)) (by decide) (by decide)) (g := (mkF m 98 #[.val (.ref a), .val (.int p1), .val (.int (tb &&& (255 : Int32))), .val (.int (lb &&& (255 : Int32))), .unset] [(.int (((p1 + (1 : Int32)) + 1) + (lb &&& (255 : Int32)))), (.int ((p1 + (1 : Int32)) + 1)), (.int p1), (.int (tb &&& (255 : Int32))), (.ref ab), (.ref b47), (.ref b47)])) rfl (by rw [hml]; rfl) (Steps.refl _) (a := b47) (argsL := [(.ref ab), (.int (tb &&& (255 : Int32))), (.int p1), (.int ((p1 + (1 : Int32)) + 1)), (.int (((p1 + (1 : Int32)) + 1) + (lb &&& (255 : Int32))))]) (rest := [(.ref b47)]) (lenOf own_pd184 rfl) rfl (by show 2 * 0 + _ ≤ _; exact Nat.le_of_eq rfl) (hb hby own_d_prog_17_11_98) (fun _ _ => ⟨rfl, e50, (by decide : 1 + 0 ≤ _), (by decide : 5 + 0 ≤ _)⟩)
  dsimp only [Pt.U, Pt.locs, Pt.cells, Pt.slots] at X51 l51 y51 z51 st51 hQ51
  subst l51 y51 z51
  obtain ⟨rfl, N51q, KE⟩ := hQ51
  have N51 := Fr.app N44 N51q
  refine Goes.tr st51 ?_
  have V_ab := V_ab.keep KE (ninS ne_ab_b47 nin0)
  have E_a := E_a.keep KE
  have Fb_a := Fb_a.keep KE (ninS ne_a_b47 nin0)
  have Fp_a := Fp_a.keep KE (ninS ne_a_b47 nin0)
  have Fe_a := Fe_a.keep KE (ninS ne_a_b47 nin0)
  have Z0'''' := Nat.le_trans Z0''' KE.1
  have K0 : Keep h0 _ _ := K0.trans KE (allS (Or.inr kn_b47) all0)
  show Goes p e below s _ _ _ (T51.setTop (mkF m 101 #[.val (.ref a), .val (.int p1), .val (.int (tb &&& (255 : Int32))), .val (.int (lb &&& (255 : Int32))), .unset] [(.ref b47)]))
  refine Goes.st (fun t_ k_ => XS.astore X51.here hx rfl (hb hby own_d_prog_17_11_101) rfl rfl (l' := #[.val (.ref a), .val (.int p1), .val (.int (tb &&& (255 : Int32))), .val (.int (lb &&& (255 : Int32))), .val (.ref b47)]) rfl k_) ?_
  show Goes p e below s _ _ _ (T51.setTop (mkF m 103 #[.val (.ref a), .val (.int p1), .val (.int (tb &&& (255 : Int32))), .val (.int (lb &&& (255 : Int32))), .val (.ref b47)] []))
  refine Goes.st (fun t_ k_ => XS.aloadN X51.here hx rfl (hb hby own_d_prog_17_11_103) rfl rfl k_) ?_
  show Goes p e below s _ _ _ (T51.setTop (mkF m 104 #[.val (.ref a), .val (.int p1), .val (.int (tb &&& (255 : Int32))), .val (.int (lb &&& (255 : Int32))), .val (.ref b47)] [(.ref a)]))
  refine Goes.st (fun t_ k_ => XS.dup X51.here hx rfl (hb hby own_d_prog_17_11_104) rfl rfl k_) ?_
  show Goes p e below s _ _ _ (T51.setTop (mkF m 105 #[.val (.ref a), .val (.int p1), .val (.int (tb &&& (255 : Int32))), .val (.int (lb &&& (255 : Int32))), .val (.ref b47)] [(.ref a), (.ref a)]))
  obtain ⟨T52, X52, e52, st52⟩ := getF X51 hx hZ hown (host := "") (Or.inl (hw _ (List.mem_of_getElem? (i := 20) rfl))) Via.refl rfl Fp_a (g := (mkF m 105 #[.val (.ref a), .val (.int p1), .val (.int (tb &&& (255 : Int32))), .val (.int (lb &&& (255 : Int32))), .val (.ref b47)] [(.ref a), (.ref a)])) rfl rfl (hb hby own_d_prog_17_11_105)
  refine Goes.st st52 ?_
  show Goes p e below s _ _ _ (T52.setTop (mkF m 108 #[.val (.ref a), .val (.int p1), .val (.int (tb &&& (255 : Int32))), .val (.int (lb &&& (255 : Int32))), .val (.ref b47)] [(.int ((p1 + (1 : Int32)) + 1)), (.ref a)]))
  refine Goes.st (fun t_ k_ => XS.iloadN X52.here hx rfl (hb hby own_d_prog_17_11_108) rfl  k_) ?_
  show Goes p e below s _ _ _ (T52.setTop (mkF m 109 #[.val (.ref a), .val (.int p1), .val (.int (tb &&& (255 : Int32))), .val (.int (lb &&& (255 : Int32))), .val (.ref b47)] [(.int (lb &&& (255 : Int32))), (.int ((p1 + (1 : Int32)) + 1)), (.ref a)]))
  refine Goes.st (fun t_ k_ => XS.iadd X52.here hx rfl (hb hby own_d_prog_17_11_109) rfl k_) ?_
  show Goes p e below s _ _ _ (T52.setTop (mkF m 110 #[.val (.ref a), .val (.int p1), .val (.int (tb &&& (255 : Int32))), .val (.int (lb &&& (255 : Int32))), .val (.ref b47)] [(.int (((p1 + (1 : Int32)) + 1) + (lb &&& (255 : Int32)))), (.ref a)]))
  obtain ⟨T53, h53, X53, e53, W53, st53⟩ := putF X52 hx hZ hown (host := "") (Or.inl (hw _ (List.mem_of_getElem? (i := 20) rfl))) Via.refl e52 Fp_a E_a (Or.inl (hw _ (List.mem_of_getElem? (i := 21) rfl))) (hw _ (List.mem_of_getElem? (i := 7) rfl)) (ty := .int) (by decide) rfl rfl (g := (mkF m 110 #[.val (.ref a), .val (.int p1), .val (.int (tb &&& (255 : Int32))), .val (.int (lb &&& (255 : Int32))), .val (.ref b47)] [(.int (((p1 + (1 : Int32)) + 1) + (lb &&& (255 : Int32)))), (.ref a)])) rfl rfl (hb hby own_d_prog_17_11_110)
  refine Goes.st st53 ?_
  have V_ab := V_ab.other W53 (Ne.symm nab)
  have E_a := E_a.wr W53
  have Fb_a := Fb_a.other W53 (Or.inr (slot_ne (Or.inr (hw _ (List.mem_of_getElem? (i := 19) rfl))) (Or.inl (hw _ (List.mem_of_getElem? (i := 21) rfl))) (by decide) (t := (.array .byte)) (t' := .int) (by decide) (by decide)))
  have Fp_a := Fp_a.same W53
  have Fe_a := Fe_a.other W53 (Or.inr (slot_ne (Or.inr (hw _ (List.mem_of_getElem? (i := 23) rfl))) (Or.inl (hw _ (List.mem_of_getElem? (i := 21) rfl))) (by decide) (t := .int) (t' := .int) (by decide) (by decide)))
  have N53 := Fr.snoc X53 N51 g_a
  have Z0''''' := Nat.le_trans Z0'''' (Keep.of_wr W53).1
  have K0 := K0.wr W53 (Or.inl (List.mem_of_getElem? (i := 0) rfl))
  show Goes p e below s _ _ _ (T53.setTop (mkF m 113 #[.val (.ref a), .val (.int p1), .val (.int (tb &&& (255 : Int32))), .val (.int (lb &&& (255 : Int32))), .val (.ref b47)] []))
  refine Goes.st (fun t_ k_ => XS.aload X53.here hx rfl (hb hby own_d_prog_17_11_113) rfl rfl k_) ?_
  show Goes p e below s _ _ _ (T53.setTop (mkF m 115 #[.val (.ref a), .val (.int p1), .val (.int (tb &&& (255 : Int32))), .val (.int (lb &&& (255 : Int32))), .val (.ref b47)] [(.ref b47)]))
  rw [← e53] at K0 E_a Fb_a Fp_a Fe_a
  exact Goes.retO X53 hx hret hlk rfl (Or.inr (Or.inr (Or.inr (Or.inr ⟨rfl, rfl, rfl⟩)))) (hb hby own_d_prog_17_11_115) (by decide) (by decide) (⟨b47, rfl, N53, K0, E_a, Fb_a, Fp_a, Fe_a⟩)
theorem own_rmNl_ef (m : MethodId) (a : Addr) : entryFrame m #[(.ref a)] 5 = mkF m 0 #[.val (.ref a), .unset, .unset, .unset, .unset] [] := by first | (simp [entryFrame, mkF, argsToLocals, Value.category]; done) | rfl
set_option maxRecDepth 65536 in
set_option maxHeartbeats 40000000 in
theorem own_rmNl (l : Launch) (Z : State) (a0 : Array Value) (hw : ∀ d ∈ tables_1, d.before a0 Z = true) (ws : List Jvm.Cond) (a ab : Addr) (tb : Int32) (k : ClassId) (vs : List Value) (h0 : Heap) (n0 : Nat) (Z0 : n0 ≤ h0.size) (HR : own_R Z h0 a ab (0 : Int32) 6) (V_ab : Arv Z h0 ab k .byte (6 : Int32) vs (.int (0 : Int32))) (nab : a ≠ ab) (hat : vs.getD 0 (.int (0 : Int32)) = .int tb) (htb : ¬ (tb &&& 255) &&& 31 = 31) (hat1 : vs.getD 1 (.int (0 : Int32)) = .int (-127)) (hat2 : vs.getD 2 (.int (0 : Int32)) = .int 3) (g_a : n0 ≤ a) :
    MetFree l (⟨"com/example/torniquete/torniquete/core/DerReader", "next", "()Lcom/example/torniquete/torniquete/core/DerReader$Element;"⟩ : MethodName) (head1 (Jvm.Cond.code (⟨"com/example/torniquete/torniquete/core/DerReader", "next", "()Lcom/example/torniquete/torniquete/core/DerReader$Element;"⟩ : MethodName) prog_17_method_11_code 5 (some (.object "com/example/torniquete/torniquete/core/DerReader$Element")) :: ws) ({ frames := 2, cells := 1, slots := 5, locals := 30 } : Room)) (fun aa_ U => aa_ = #[(.ref a)] ∧ Z.Warmed39 U.vm ∧ U.heap = h0) (fun _ _ _ _ _ => True) (fun _ U oo_ U' => ∃ vv_ LL_, oo_ = .returned vv_ ∧ own_QN Z a ab (3 + 3) h0 n0 vv_ U'.heap LL_ ∧ FrameEnd U oo_ U' LL_ ({ frames := 2, cells := 1, slots := 5, locals := 30 } : Room).cells ({ frames := 2, cells := 1, slots := 5, locals := 30 } : Room).slots) := by
  refine MetFree.of_bodySF (plainFor_of_name own_pn28) hisR ?_
  intro p e s m args below meth c s₁ Bd hml0 hP hK
  obtain ⟨rfl, hZ, hh⟩ := hP
  have hx := Bd.exec
  have hby := Bd.bytes
  have hml : c.maxLocals = 5 := hml0
  have hown : s.vm.findClass "com/example/torniquete/torniquete/core/DerReader" = some m.cls := findClass_of_methodNamed Bd.named
  have hnm := (name_of_methodNamed Bd.named Bd.method).1
  have hlk := Bd.notSynchronized
  have hret := Bd.returns
  have X0 : Stand p l e ({ frames := 2, cells := 1, slots := 5, locals := 30 } : Room) s m #[(.ref a)] below meth c s₁ [] 0 0 := Stand.of_body Bd
  have e0 : s₁.heap = h0 := by rw [← hh, Bd.state]; rfl
  have N0 := Fr.nil n0
  show Goes p e below s (own_QN Z a ab (3 + 3) h0 n0) ({ frames := 2, cells := 1, slots := 5, locals := 30 } : Room).cells ({ frames := 2, cells := 1, slots := 5, locals := 30 } : Room).slots _
  refine Goes.cast (own_rmNl_ef m a) ?_
  have HR' := HR
  obtain ⟨E_a, Fb_a, Fp_a, Fe_a⟩ := HR'
  have K0 := Keep.refl h0 [a]
  show Goes p e below s _ _ _ (s₁.setTop (mkF m 0 #[.val (.ref a), .unset, .unset, .unset, .unset] []))
  refine Goes.st (fun t_ k_ => XS.aloadN X0.here hx rfl (hb hby own_d_prog_17_11_0) rfl rfl k_) ?_
  show Goes p e below s _ _ _ (s₁.setTop (mkF m 1 #[.val (.ref a), .unset, .unset, .unset, .unset] [(.ref a)]))
  obtain ⟨cq54, kq54, q54a, q54b, q54c⟩ := isOf hZ e0 E_a
  obtain ⟨_, _, ⟨T54, L54, k54, n54⟩, -, X54, ⟨Lc54, hQ54, l54, y54, z54⟩, st54⟩ := X0.virtualBack hx (y := (⟨"com/example/torniquete/torniquete/core/DerReader", "hasNext", "()Z"⟩ : MethodName)) (z := (⟨"com/example/torniquete/torniquete/core/DerReader", "hasNext", "()Z"⟩ : MethodName)) hown (mvT hZ (hw _ (List.mem_of_getElem? (i := 34) rfl))) (mvT hZ (hw _ (List.mem_of_getElem? (i := 25) rfl))) (notFace_of_selects (args := #[]) (mvT hZ (hw _ (List.mem_of_getElem? (i := 27) rfl)))) (mvT hZ (hw _ (List.mem_of_getElem? (i := 27) rfl))) (mvT hZ (hw _ (List.mem_of_getElem? (i := 26) rfl))) (by decide) (backOf (W := 0) (own_rmH l Z a0 hw [] a ab (0 : Int32) 6 true h0 n0 Z0 HR (decide_eq_true (by decide))) hZ (hw _ (List.mem_of_getElem? (i := 28) rfl)) (hw _ (List.mem_of_getElem? (i := 8) rfl)) (by decide) (by decide)) q54a q54c (g := (mkF m 1 #[.val (.ref a), .unset, .unset, .unset, .unset] [(.ref a)])) rfl (by rw [hml]; rfl) (Steps.refl _) (argsL := []) (rest := []) (lenOf own_pd66 rfl) rfl (by show 2 * 0 + _ ≤ _; exact Nat.le_of_eq rfl) (hb hby own_d_prog_17_11_1) (fun _ _ => ⟨rfl, e0, (by decide : 0 + 0 ≤ _), (by decide : 0 + 0 ≤ _)⟩)
  dsimp only [Pt.U, Pt.locs, Pt.cells, Pt.slots] at X54 l54 y54 z54 st54 hQ54
  subst l54 y54 z54
  obtain ⟨rfl, N54q, EQ1⟩ := hQ54
  have N54 := Fr.app N0 N54q
  refine Goes.tr st54 ?_
  show Goes p e below s _ _ _ (T54.setTop (mkF m 4 #[.val (.ref a), .unset, .unset, .unset, .unset] [(.int (own_bI true))]))
  refine Goes.st (fun t_ k_ => XS.ifYes X54.here hx rfl (pc0 := 4) (pc' := 13) rfl (hb hby own_d_prog_17_11_4) rfl ((if0 _ _).trans (feq (by decide)).2) (by decide) (by decide) k_) ?_
  show Goes p e below s _ _ _ (T54.setTop (mkF m 13 #[.val (.ref a), .unset, .unset, .unset, .unset] []))
  refine Goes.st (fun t_ k_ => XS.aloadN X54.here hx rfl (hb hby own_d_prog_17_11_13) rfl rfl k_) ?_
  show Goes p e below s _ _ _ (T54.setTop (mkF m 14 #[.val (.ref a), .unset, .unset, .unset, .unset] [(.ref a)]))
  obtain ⟨T55, X55, e55, st55⟩ := getF X54 hx hZ hown (host := "") (Or.inl (hw _ (List.mem_of_getElem? (i := 20) rfl))) Via.refl EQ1 Fp_a (g := (mkF m 14 #[.val (.ref a), .unset, .unset, .unset, .unset] [(.ref a)])) rfl rfl (hb hby own_d_prog_17_11_14)
  refine Goes.st st55 ?_
  show Goes p e below s _ _ _ (T55.setTop (mkF m 17 #[.val (.ref a), .unset, .unset, .unset, .unset] [(.int (0 : Int32))]))
  refine Goes.st (fun t_ k_ => XS.istoreN X55.here hx rfl (hb hby own_d_prog_17_11_17) rfl  (l' := #[.val (.ref a), .val (.int (0 : Int32)), .unset, .unset, .unset]) rfl k_) ?_
  show Goes p e below s _ _ _ (T55.setTop (mkF m 18 #[.val (.ref a), .val (.int (0 : Int32)), .unset, .unset, .unset] []))
  refine Goes.st (fun t_ k_ => XS.aloadN X55.here hx rfl (hb hby own_d_prog_17_11_18) rfl rfl k_) ?_
  show Goes p e below s _ _ _ (T55.setTop (mkF m 19 #[.val (.ref a), .val (.int (0 : Int32)), .unset, .unset, .unset] [(.ref a)]))
  obtain ⟨T56, X56, e56, st56⟩ := getF X55 hx hZ hown (host := "") (Or.inl (hw _ (List.mem_of_getElem? (i := 18) rfl))) Via.refl e55 Fb_a (g := (mkF m 19 #[.val (.ref a), .val (.int (0 : Int32)), .unset, .unset, .unset] [(.ref a)])) rfl rfl (hb hby own_d_prog_17_11_19)
  refine Goes.st st56 ?_
  show Goes p e below s _ _ _ (T56.setTop (mkF m 22 #[.val (.ref a), .val (.int (0 : Int32)), .unset, .unset, .unset] [(.ref ab)]))
  refine Goes.st (fun t_ k_ => XS.aloadN X56.here hx rfl (hb hby own_d_prog_17_11_22) rfl rfl k_) ?_
  show Goes p e below s _ _ _ (T56.setTop (mkF m 23 #[.val (.ref a), .val (.int (0 : Int32)), .unset, .unset, .unset] [(.ref a), (.ref ab)]))
  refine Goes.st (fun t_ k_ => XS.dup X56.here hx rfl (hb hby own_d_prog_17_11_23) rfl rfl k_) ?_
  show Goes p e below s _ _ _ (T56.setTop (mkF m 24 #[.val (.ref a), .val (.int (0 : Int32)), .unset, .unset, .unset] [(.ref a), (.ref a), (.ref ab)]))
  obtain ⟨T57, X57, e57, st57⟩ := getF X56 hx hZ hown (host := "") (Or.inl (hw _ (List.mem_of_getElem? (i := 20) rfl))) Via.refl e56 Fp_a (g := (mkF m 24 #[.val (.ref a), .val (.int (0 : Int32)), .unset, .unset, .unset] [(.ref a), (.ref a), (.ref ab)])) rfl rfl (hb hby own_d_prog_17_11_24)
  refine Goes.st st57 ?_
  show Goes p e below s _ _ _ (T57.setTop (mkF m 27 #[.val (.ref a), .val (.int (0 : Int32)), .unset, .unset, .unset] [(.int (0 : Int32)), (.ref a), (.ref ab)]))
  refine Goes.st (fun t_ k_ => XS.dupX1 X57.here hx rfl (hb hby own_d_prog_17_11_27) rfl rfl rfl k_) ?_
  show Goes p e below s _ _ _ (T57.setTop (mkF m 28 #[.val (.ref a), .val (.int (0 : Int32)), .unset, .unset, .unset] [(.int (0 : Int32)), (.ref a), (.int (0 : Int32)), (.ref ab)]))
  refine Goes.st (fun t_ k_ => XS.iconst X57.here hx rfl (hb hby own_d_prog_17_11_28) k_) ?_
  show Goes p e below s _ _ _ (T57.setTop (mkF m 29 #[.val (.ref a), .val (.int (0 : Int32)), .unset, .unset, .unset] [(.int (1 : Int32)), (.int (0 : Int32)), (.ref a), (.int (0 : Int32)), (.ref ab)]))
  refine Goes.st (fun t_ k_ => XS.iadd X57.here hx rfl (hb hby own_d_prog_17_11_29) rfl k_) ?_
  show Goes p e below s _ _ _ (T57.setTop (mkF m 30 #[.val (.ref a), .val (.int (0 : Int32)), .unset, .unset, .unset] [(.int ((0 : Int32) + (1 : Int32))), (.ref a), (.int (0 : Int32)), (.ref ab)]))
  obtain ⟨T58, h58, X58, e58, W58, st58⟩ := putF X57 hx hZ hown (host := "") (Or.inl (hw _ (List.mem_of_getElem? (i := 20) rfl))) Via.refl e57 Fp_a E_a (Or.inl (hw _ (List.mem_of_getElem? (i := 21) rfl))) (hw _ (List.mem_of_getElem? (i := 7) rfl)) (ty := .int) (by decide) rfl rfl (g := (mkF m 30 #[.val (.ref a), .val (.int (0 : Int32)), .unset, .unset, .unset] [(.int ((0 : Int32) + (1 : Int32))), (.ref a), (.int (0 : Int32)), (.ref ab)])) rfl rfl (hb hby own_d_prog_17_11_30)
  refine Goes.st st58 ?_
  have E_a := E_a.wr W58
  have Fb_a := Fb_a.other W58 (Or.inr (slot_ne (Or.inr (hw _ (List.mem_of_getElem? (i := 19) rfl))) (Or.inl (hw _ (List.mem_of_getElem? (i := 21) rfl))) (by decide) (t := (.array .byte)) (t' := .int) (by decide) (by decide)))
  have Fp_a := Fp_a.same W58
  have Fe_a := Fe_a.other W58 (Or.inr (slot_ne (Or.inr (hw _ (List.mem_of_getElem? (i := 23) rfl))) (Or.inl (hw _ (List.mem_of_getElem? (i := 21) rfl))) (by decide) (t := .int) (t' := .int) (by decide) (by decide)))
  have V_ab := V_ab.other W58 (Ne.symm nab)
  have N58 := Fr.snoc X58 N54 g_a
  have Z0' := Nat.le_trans Z0 (Keep.of_wr W58).1
  have K0 := K0.wr W58 (Or.inl (List.mem_of_getElem? (i := 0) rfl))
  show Goes p e below s _ _ _ (T58.setTop (mkF m 33 #[.val (.ref a), .val (.int (0 : Int32)), .unset, .unset, .unset] [(.int (0 : Int32)), (.ref ab)]))
  have lit59 : ((0 : Int32) + (1 : Int32)) = (1 : Int32) := by decide
  rw [lit59] at Fp_a
  show Goes p e below s _ _ _ (T58.setTop (mkF m 33 #[.val (.ref a), .val (.int (0 : Int32)), .unset, .unset, .unset] [(.int (0 : Int32)), (.ref ab)]))
  show Goes p e below s _ _ _ (T58.setTop (mkF m 33 #[.val (.ref a), .val (.int (0 : Int32)), .unset, .unset, .unset] [(.int (0 : Int32)), (.ref ab)]))
  have VV60 := V_ab
  obtain ⟨cl60, Ar60, -, S60, M60, H60, -⟩ := VV60
  have hin60 := inb_of S60 (j := (0 : Int32)) ⟨by decide, by decide⟩
  refine Goes.st (fun t_ k_ => X58.baloadBytes hx (j := (0 : Int32)) (v := (.int tb)) (by rw [e58]; exact Ar60.1) (State.isArrayOf_alike hZ.alike Ar60.2.1) Ar60.2.2 hin60 (Has.at H60 hin60 hat) (g := (mkF m 33 #[.val (.ref a), .val (.int (0 : Int32)), .unset, .unset, .unset] [(.int (0 : Int32)), (.ref ab)])) rfl rfl (hb hby own_d_prog_17_11_33) _ k_) ?_
  show Goes p e below s _ _ _ (T58.setTop (mkF m 34 #[.val (.ref a), .val (.int (0 : Int32)), .unset, .unset, .unset] [(.int tb)]))
  refine Goes.st (fun t_ k_ => XS.sipush X58.here hx rfl (hb hby own_d_prog_17_11_34) k_) ?_
  show Goes p e below s _ _ _ (T58.setTop (mkF m 37 #[.val (.ref a), .val (.int (0 : Int32)), .unset, .unset, .unset] [(.int (255 : Int32)), (.int tb)]))
  refine Goes.st (fun t_ k_ => XS.iand X58.here hx rfl (hb hby own_d_prog_17_11_37) rfl k_) ?_
  show Goes p e below s _ _ _ (T58.setTop (mkF m 38 #[.val (.ref a), .val (.int (0 : Int32)), .unset, .unset, .unset] [(.int (tb &&& (255 : Int32)))]))
  refine Goes.st (fun t_ k_ => XS.istoreN X58.here hx rfl (hb hby own_d_prog_17_11_38) rfl  (l' := #[.val (.ref a), .val (.int (0 : Int32)), .val (.int (tb &&& (255 : Int32))), .unset, .unset]) rfl k_) ?_
  show Goes p e below s _ _ _ (T58.setTop (mkF m 39 #[.val (.ref a), .val (.int (0 : Int32)), .val (.int (tb &&& (255 : Int32))), .unset, .unset] []))
  refine Goes.st (fun t_ k_ => XS.iloadN X58.here hx rfl (hb hby own_d_prog_17_11_39) rfl  k_) ?_
  show Goes p e below s _ _ _ (T58.setTop (mkF m 40 #[.val (.ref a), .val (.int (0 : Int32)), .val (.int (tb &&& (255 : Int32))), .unset, .unset] [(.int (tb &&& (255 : Int32)))]))
  refine Goes.st (fun t_ k_ => XS.bipush X58.here hx rfl (hb hby own_d_prog_17_11_40) k_) ?_
  show Goes p e below s _ _ _ (T58.setTop (mkF m 42 #[.val (.ref a), .val (.int (0 : Int32)), .val (.int (tb &&& (255 : Int32))), .unset, .unset] [(.int (31 : Int32)), (.int (tb &&& (255 : Int32)))]))
  refine Goes.st (fun t_ k_ => XS.iand X58.here hx rfl (hb hby own_d_prog_17_11_42) rfl k_) ?_
  show Goes p e below s _ _ _ (T58.setTop (mkF m 43 #[.val (.ref a), .val (.int (0 : Int32)), .val (.int (tb &&& (255 : Int32))), .unset, .unset] [(.int ((tb &&& (255 : Int32)) &&& (31 : Int32)))]))
  refine Goes.st (fun t_ k_ => XS.bipush X58.here hx rfl (hb hby own_d_prog_17_11_43) k_) ?_
  show Goes p e below s _ _ _ (T58.setTop (mkF m 45 #[.val (.ref a), .val (.int (0 : Int32)), .val (.int (tb &&& (255 : Int32))), .unset, .unset] [(.int (31 : Int32)), (.int ((tb &&& (255 : Int32)) &&& (31 : Int32)))]))
  refine Goes.st (fun t_ k_ => XS.icmpYes X58.here hx rfl (pc0 := 45) (pc' := 54) rfl (hb hby own_d_prog_17_11_45) rfl (feq htb).2 (by decide) (by decide) k_) ?_
  show Goes p e below s _ _ _ (T58.setTop (mkF m 54 #[.val (.ref a), .val (.int (0 : Int32)), .val (.int (tb &&& (255 : Int32))), .unset, .unset] []))
  refine Goes.st (fun t_ k_ => XS.aloadN X58.here hx rfl (hb hby own_d_prog_17_11_54) rfl rfl k_) ?_
  show Goes p e below s _ _ _ (T58.setTop (mkF m 55 #[.val (.ref a), .val (.int (0 : Int32)), .val (.int (tb &&& (255 : Int32))), .unset, .unset] [(.ref a)]))
  have HR1 : own_R Z _ a ab (1 : Int32) 6 := ⟨E_a, Fb_a, Fp_a, Fe_a⟩
  obtain ⟨cq61, q61, q61'⟩ := E_a.cell
  obtain ⟨_, _, ⟨T61, L61, k61, n61⟩, -, X61, ⟨Lc61, hQ61, l61, y61, z61⟩, st61⟩ := X58.privateBack hx (y := (⟨"com/example/torniquete/torniquete/core/DerReader", "length", "()I"⟩ : MethodName)) hown (mvT hZ (hw _ (List.mem_of_getElem? (i := 35) rfl))) (mvT hZ (hw _ (List.mem_of_getElem? (i := 36) rfl))) (own_selp hZ (hw _ (List.mem_of_getElem? (i := 7) rfl)) (hw _ (List.mem_of_getElem? (i := 36) rfl)) (hw _ (List.mem_of_getElem? (i := 37) rfl)) (by decide)) (Cond.privateMethod_at (mvP hZ (hw _ (List.mem_of_getElem? (i := 37) rfl)) (args := #[]))) (mvT hZ (hw _ (List.mem_of_getElem? (i := 38) rfl))) (by decide) (backOf (W := 0) (own_rmLl l Z a0 hw [] a ab k vs h58 n0 Z0' HR1 V_ab nab hat1 hat2 g_a) hZ (hw _ (List.mem_of_getElem? (i := 38) rfl)) (hw _ (List.mem_of_getElem? (i := 8) rfl)) (by decide) (by decide)) (g := (mkF m 55 #[.val (.ref a), .val (.int (0 : Int32)), .val (.int (tb &&& (255 : Int32))), .unset, .unset] [(.ref a)])) rfl (by rw [hml]; rfl) (Steps.refl _) (a := a) (by rw [e58]; exact q61) q61' (argsL := []) (rest := []) (lenOf own_pd162 rfl) rfl (by show 2 * 0 + _ ≤ _; exact Nat.le_of_eq rfl) (hb hby own_d_prog_17_11_55) (fun _ _ => ⟨rfl, e58, (by decide : 0 + 0 ≤ _), (by decide : 0 + 0 ≤ _)⟩)
  dsimp only [Pt.U, Pt.locs, Pt.cells, Pt.slots] at X61 l61 y61 z61 st61 hQ61
  subst l61 y61 z61
  obtain ⟨rfl, N61q, KL, HR1⟩ := hQ61
  have N61 := Fr.app N58 N61q
  refine Goes.tr st61 ?_
  have V_ab := V_ab.keep KL (ninS (Ne.symm nab) nin0)
  have Z0'' := Nat.le_trans Z0' KL.1
  have K0 : Keep h0 _ _ := K0.trans KL (allS (Or.inl (List.mem_of_getElem? (i := 0) rfl)) all0)
  have HR2 := HR1
  obtain ⟨E_a, Fb_a, Fp_a, Fe_a⟩ := HR2
  show Goes p e below s _ _ _ (T61.setTop (mkF m 58 #[.val (.ref a), .val (.int (0 : Int32)), .val (.int (tb &&& (255 : Int32))), .unset, .unset] [(.int (3 : Int32))]))
  refine Goes.st (fun t_ k_ => XS.istoreN X61.here hx rfl (hb hby own_d_prog_17_11_58) rfl  (l' := #[.val (.ref a), .val (.int (0 : Int32)), .val (.int (tb &&& (255 : Int32))), .val (.int (3 : Int32)), .unset]) rfl k_) ?_
  show Goes p e below s _ _ _ (T61.setTop (mkF m 59 #[.val (.ref a), .val (.int (0 : Int32)), .val (.int (tb &&& (255 : Int32))), .val (.int (3 : Int32)), .unset] []))
  refine Goes.st (fun t_ k_ => XS.iloadN X61.here hx rfl (hb hby own_d_prog_17_11_59) rfl  k_) ?_
  show Goes p e below s _ _ _ (T61.setTop (mkF m 60 #[.val (.ref a), .val (.int (0 : Int32)), .val (.int (tb &&& (255 : Int32))), .val (.int (3 : Int32)), .unset] [(.int (3 : Int32))]))
  refine Goes.st (fun t_ k_ => XS.aloadN X61.here hx rfl (hb hby own_d_prog_17_11_60) rfl rfl k_) ?_
  show Goes p e below s _ _ _ (T61.setTop (mkF m 61 #[.val (.ref a), .val (.int (0 : Int32)), .val (.int (tb &&& (255 : Int32))), .val (.int (3 : Int32)), .unset] [(.ref a), (.int (3 : Int32))]))
  obtain ⟨T62, X62, e62, st62⟩ := getF X61 hx hZ hown (host := "") (Or.inl (hw _ (List.mem_of_getElem? (i := 22) rfl))) Via.refl rfl Fe_a (g := (mkF m 61 #[.val (.ref a), .val (.int (0 : Int32)), .val (.int (tb &&& (255 : Int32))), .val (.int (3 : Int32)), .unset] [(.ref a), (.int (3 : Int32))])) rfl rfl (hb hby own_d_prog_17_11_61)
  refine Goes.st st62 ?_
  show Goes p e below s _ _ _ (T62.setTop (mkF m 64 #[.val (.ref a), .val (.int (0 : Int32)), .val (.int (tb &&& (255 : Int32))), .val (.int (3 : Int32)), .unset] [(.int (6 : Int32)), (.int (3 : Int32))]))
  refine Goes.st (fun t_ k_ => XS.aloadN X62.here hx rfl (hb hby own_d_prog_17_11_64) rfl rfl k_) ?_
  show Goes p e below s _ _ _ (T62.setTop (mkF m 65 #[.val (.ref a), .val (.int (0 : Int32)), .val (.int (tb &&& (255 : Int32))), .val (.int (3 : Int32)), .unset] [(.ref a), (.int (6 : Int32)), (.int (3 : Int32))]))
  obtain ⟨T63, X63, e63, st63⟩ := getF X62 hx hZ hown (host := "") (Or.inl (hw _ (List.mem_of_getElem? (i := 20) rfl))) Via.refl e62 Fp_a (g := (mkF m 65 #[.val (.ref a), .val (.int (0 : Int32)), .val (.int (tb &&& (255 : Int32))), .val (.int (3 : Int32)), .unset] [(.ref a), (.int (6 : Int32)), (.int (3 : Int32))])) rfl rfl (hb hby own_d_prog_17_11_65)
  refine Goes.st st63 ?_
  show Goes p e below s _ _ _ (T63.setTop (mkF m 68 #[.val (.ref a), .val (.int (0 : Int32)), .val (.int (tb &&& (255 : Int32))), .val (.int (3 : Int32)), .unset] [(.int (3 : Int32)), (.int (6 : Int32)), (.int (3 : Int32))]))
  refine Goes.st (fun t_ k_ => XS.isub X63.here hx rfl (hb hby own_d_prog_17_11_68) rfl k_) ?_
  show Goes p e below s _ _ _ (T63.setTop (mkF m 69 #[.val (.ref a), .val (.int (0 : Int32)), .val (.int (tb &&& (255 : Int32))), .val (.int (3 : Int32)), .unset] [(.int ((6 : Int32) - (3 : Int32))), (.int (3 : Int32))]))
  refine Goes.st (fun t_ k_ => XS.icmpYes X63.here hx rfl (pc0 := 69) (pc' := 78) rfl (hb hby own_d_prog_17_11_69) rfl (flt (by decide)).2.2.2 (by decide) (by decide) k_) ?_
  show Goes p e below s _ _ _ (T63.setTop (mkF m 78 #[.val (.ref a), .val (.int (0 : Int32)), .val (.int (tb &&& (255 : Int32))), .val (.int (3 : Int32)), .unset] []))
  obtain ⟨T64, h64, X64, e64, E64, A64, D64, -, st64⟩ := newO X63 hx hZ hown (hw _ (List.mem_of_getElem? (i := 39) rfl)) (hw _ (List.mem_of_getElem? (i := 40) rfl)) (hw _ (List.mem_of_getElem? (i := 41) rfl)) e63 (g := (mkF m 78 #[.val (.ref a), .val (.int (0 : Int32)), .val (.int (tb &&& (255 : Int32))), .val (.int (3 : Int32)), .unset] [])) rfl (hb hby own_d_prog_17_11_78) (by decide) (by decide)
  obtain ⟨b64, g64⟩ : ∃ z, z = T61.heap.size := ⟨_, rfl⟩
  rw [← g64] at A64 D64 st64
  have ne_ab_b64 : ab ≠ b64 := Nat.ne_of_lt (Nat.lt_of_lt_of_le V_ab.lt (Nat.le_of_eq g64.symm))
  have ne_a_b64 : a ≠ b64 := Nat.ne_of_lt (Nat.lt_of_lt_of_le E_a.lt (Nat.le_of_eq g64.symm))
  have gn_b64 : n0 ≤ b64 := Nat.le_trans Z0'' (Nat.le_of_eq g64.symm)
  have kn_b64 : h0.size ≤ b64 := Nat.le_trans K0.1 (Nat.le_of_eq g64.symm)
  refine Goes.st st64 ?_
  have V_ab := V_ab.ext E64
  have E_a := E_a.ext E64
  have Fb_a := Fb_a.ext E64
  have Fp_a := Fp_a.ext E64
  have Fe_a := Fe_a.ext E64
  have Z0''' := Nat.le_trans Z0'' E64.1
  have K0 := K0.ext E64
  have Ex_b64 := A64
  have F_bytes_b64 : Fld Z h64 b64 "com/example/torniquete/torniquete/core/DerReader$Element" "bytes" "[B" .null := D64 (Or.inr (hw _ (List.mem_of_getElem? (i := 47) rfl))) (ty := (.array .byte)) (by decide)
  have F_tag_b64 : Fld Z h64 b64 "com/example/torniquete/torniquete/core/DerReader$Element" "tag" "I" (.int (0 : Int32)) := D64 (Or.inr (hw _ (List.mem_of_getElem? (i := 49) rfl))) (ty := .int) (by decide)
  have F_start_b64 : Fld Z h64 b64 "com/example/torniquete/torniquete/core/DerReader$Element" "start" "I" (.int (0 : Int32)) := D64 (Or.inr (hw _ (List.mem_of_getElem? (i := 51) rfl))) (ty := .int) (by decide)
  have F_contentsStart_b64 : Fld Z h64 b64 "com/example/torniquete/torniquete/core/DerReader$Element" "contentsStart" "I" (.int (0 : Int32)) := D64 (Or.inr (hw _ (List.mem_of_getElem? (i := 53) rfl))) (ty := .int) (by decide)
  have F_end_b64 : Fld Z h64 b64 "com/example/torniquete/torniquete/core/DerReader$Element" "end" "I" (.int (0 : Int32)) := D64 (Or.inr (hw _ (List.mem_of_getElem? (i := 55) rfl))) (ty := .int) (by decide)
  show Goes p e below s _ _ _ (T64.setTop (mkF m 81 #[.val (.ref a), .val (.int (0 : Int32)), .val (.int (tb &&& (255 : Int32))), .val (.int (3 : Int32)), .unset] [(.ref b64)]))
  refine Goes.st (fun t_ k_ => XS.dup X64.here hx rfl (hb hby own_d_prog_17_11_81) rfl rfl k_) ?_
  show Goes p e below s _ _ _ (T64.setTop (mkF m 82 #[.val (.ref a), .val (.int (0 : Int32)), .val (.int (tb &&& (255 : Int32))), .val (.int (3 : Int32)), .unset] [(.ref b64), (.ref b64)]))
  refine Goes.st (fun t_ k_ => XS.aloadN X64.here hx rfl (hb hby own_d_prog_17_11_82) rfl rfl k_) ?_
  show Goes p e below s _ _ _ (T64.setTop (mkF m 83 #[.val (.ref a), .val (.int (0 : Int32)), .val (.int (tb &&& (255 : Int32))), .val (.int (3 : Int32)), .unset] [(.ref a), (.ref b64), (.ref b64)]))
  obtain ⟨T65, X65, e65, st65⟩ := getF X64 hx hZ hown (host := "") (Or.inl (hw _ (List.mem_of_getElem? (i := 18) rfl))) Via.refl e64 Fb_a (g := (mkF m 83 #[.val (.ref a), .val (.int (0 : Int32)), .val (.int (tb &&& (255 : Int32))), .val (.int (3 : Int32)), .unset] [(.ref a), (.ref b64), (.ref b64)])) rfl rfl (hb hby own_d_prog_17_11_83)
  refine Goes.st st65 ?_
  show Goes p e below s _ _ _ (T65.setTop (mkF m 86 #[.val (.ref a), .val (.int (0 : Int32)), .val (.int (tb &&& (255 : Int32))), .val (.int (3 : Int32)), .unset] [(.ref ab), (.ref b64), (.ref b64)]))
  refine Goes.st (fun t_ k_ => XS.iloadN X65.here hx rfl (hb hby own_d_prog_17_11_86) rfl  k_) ?_
  show Goes p e below s _ _ _ (T65.setTop (mkF m 87 #[.val (.ref a), .val (.int (0 : Int32)), .val (.int (tb &&& (255 : Int32))), .val (.int (3 : Int32)), .unset] [(.int (tb &&& (255 : Int32))), (.ref ab), (.ref b64), (.ref b64)]))
  refine Goes.st (fun t_ k_ => XS.iloadN X65.here hx rfl (hb hby own_d_prog_17_11_87) rfl  k_) ?_
  show Goes p e below s _ _ _ (T65.setTop (mkF m 88 #[.val (.ref a), .val (.int (0 : Int32)), .val (.int (tb &&& (255 : Int32))), .val (.int (3 : Int32)), .unset] [(.int (0 : Int32)), (.int (tb &&& (255 : Int32))), (.ref ab), (.ref b64), (.ref b64)]))
  refine Goes.st (fun t_ k_ => XS.aloadN X65.here hx rfl (hb hby own_d_prog_17_11_88) rfl rfl k_) ?_
  show Goes p e below s _ _ _ (T65.setTop (mkF m 89 #[.val (.ref a), .val (.int (0 : Int32)), .val (.int (tb &&& (255 : Int32))), .val (.int (3 : Int32)), .unset] [(.ref a), (.int (0 : Int32)), (.int (tb &&& (255 : Int32))), (.ref ab), (.ref b64), (.ref b64)]))
  obtain ⟨T66, X66, e66, st66⟩ := getF X65 hx hZ hown (host := "") (Or.inl (hw _ (List.mem_of_getElem? (i := 20) rfl))) Via.refl e65 Fp_a (g := (mkF m 89 #[.val (.ref a), .val (.int (0 : Int32)), .val (.int (tb &&& (255 : Int32))), .val (.int (3 : Int32)), .unset] [(.ref a), (.int (0 : Int32)), (.int (tb &&& (255 : Int32))), (.ref ab), (.ref b64), (.ref b64)])) rfl rfl (hb hby own_d_prog_17_11_89)
  refine Goes.st st66 ?_
  show Goes p e below s _ _ _ (T66.setTop (mkF m 92 #[.val (.ref a), .val (.int (0 : Int32)), .val (.int (tb &&& (255 : Int32))), .val (.int (3 : Int32)), .unset] [(.int (3 : Int32)), (.int (0 : Int32)), (.int (tb &&& (255 : Int32))), (.ref ab), (.ref b64), (.ref b64)]))
  refine Goes.st (fun t_ k_ => XS.aloadN X66.here hx rfl (hb hby own_d_prog_17_11_92) rfl rfl k_) ?_
  show Goes p e below s _ _ _ (T66.setTop (mkF m 93 #[.val (.ref a), .val (.int (0 : Int32)), .val (.int (tb &&& (255 : Int32))), .val (.int (3 : Int32)), .unset] [(.ref a), (.int (3 : Int32)), (.int (0 : Int32)), (.int (tb &&& (255 : Int32))), (.ref ab), (.ref b64), (.ref b64)]))
  obtain ⟨T67, X67, e67, st67⟩ := getF X66 hx hZ hown (host := "") (Or.inl (hw _ (List.mem_of_getElem? (i := 20) rfl))) Via.refl e66 Fp_a (g := (mkF m 93 #[.val (.ref a), .val (.int (0 : Int32)), .val (.int (tb &&& (255 : Int32))), .val (.int (3 : Int32)), .unset] [(.ref a), (.int (3 : Int32)), (.int (0 : Int32)), (.int (tb &&& (255 : Int32))), (.ref ab), (.ref b64), (.ref b64)])) rfl rfl (hb hby own_d_prog_17_11_93)
  refine Goes.st st67 ?_
  show Goes p e below s _ _ _ (T67.setTop (mkF m 96 #[.val (.ref a), .val (.int (0 : Int32)), .val (.int (tb &&& (255 : Int32))), .val (.int (3 : Int32)), .unset] [(.int (3 : Int32)), (.int (3 : Int32)), (.int (0 : Int32)), (.int (tb &&& (255 : Int32))), (.ref ab), (.ref b64), (.ref b64)]))
  refine Goes.st (fun t_ k_ => XS.iloadN X67.here hx rfl (hb hby own_d_prog_17_11_96) rfl  k_) ?_
  show Goes p e below s _ _ _ (T67.setTop (mkF m 97 #[.val (.ref a), .val (.int (0 : Int32)), .val (.int (tb &&& (255 : Int32))), .val (.int (3 : Int32)), .unset] [(.int (3 : Int32)), (.int (3 : Int32)), (.int (3 : Int32)), (.int (0 : Int32)), (.int (tb &&& (255 : Int32))), (.ref ab), (.ref b64), (.ref b64)]))
  refine Goes.st (fun t_ k_ => XS.iadd X67.here hx rfl (hb hby own_d_prog_17_11_97) rfl k_) ?_
  show Goes p e below s _ _ _ (T67.setTop (mkF m 98 #[.val (.ref a), .val (.int (0 : Int32)), .val (.int (tb &&& (255 : Int32))), .val (.int (3 : Int32)), .unset] [(.int ((3 : Int32) + (3 : Int32))), (.int (3 : Int32)), (.int (0 : Int32)), (.int (tb &&& (255 : Int32))), (.ref ab), (.ref b64), (.ref b64)]))
  obtain ⟨_, _, ⟨T68, L68, k68, n68⟩, -, X68, ⟨Lc68, hQ68, l68, y68, z68⟩, st68⟩ := own_specialRef X67 hx hZ (y := (⟨"com/example/torniquete/torniquete/core/DerReader$Element", "<init>", "([BIIII)V"⟩ : MethodName)) rfl hown (hw _ (List.mem_of_getElem? (i := 42) rfl)) (mvT hZ (hw _ (List.mem_of_getElem? (i := 43) rfl))) (mvT hZ (hw _ (List.mem_of_getElem? (i := 44) rfl))) (by decide) (backOf (W := 1) (own_rmE l Z a0 hw [] b64 ab (tb &&& (255 : Int32)) (0 : Int32) (3 : Int32) ((3 : Int32) + (3 : Int32)) h64 n0 Z0''' Ex_b64 F_bytes_b64 F_tag_b64 F_start_b64 F_contentsStart_b64 F_end_b64 gn_b64) hZ (hw _ (List.mem_of_getElem? (i := 44) rfl)) (hw _ (List.mem_of_getElem? (i := 41) rfl)) (by decide) (by decide)) (g := (mkF m 98 #[.val (.ref a), .val (.int (0 : Int32)), .val (.int (tb &&& (255 : Int32))), .val (.int (3 : Int32)), .unset] [(.int ((3 : Int32) + (3 : Int32))), (.int (3 : Int32)), (.int (0 : Int32)), (.int (tb &&& (255 : Int32))), (.ref ab), (.ref b64), (.ref b64)])) rfl (by rw [hml]; rfl) (Steps.refl _) (a := b64) (argsL := [(.ref ab), (.int (tb &&& (255 : Int32))), (.int (0 : Int32)), (.int (3 : Int32)), (.int ((3 : Int32) + (3 : Int32)))]) (rest := [(.ref b64)]) (lenOf own_pd184 rfl) rfl (by show 2 * 0 + _ ≤ _; exact Nat.le_of_eq rfl) (hb hby own_d_prog_17_11_98) (fun _ _ => ⟨rfl, e67, (by decide : 1 + 0 ≤ _), (by decide : 5 + 0 ≤ _)⟩)
  dsimp only [Pt.U, Pt.locs, Pt.cells, Pt.slots] at X68 l68 y68 z68 st68 hQ68
  subst l68 y68 z68
  obtain ⟨rfl, N68q, KE⟩ := hQ68
  have N68 := Fr.app N61 N68q
  refine Goes.tr st68 ?_
  have V_ab := V_ab.keep KE (ninS ne_ab_b64 nin0)
  have E_a := E_a.keep KE
  have Fb_a := Fb_a.keep KE (ninS ne_a_b64 nin0)
  have Fp_a := Fp_a.keep KE (ninS ne_a_b64 nin0)
  have Fe_a := Fe_a.keep KE (ninS ne_a_b64 nin0)
  have Z0'''' := Nat.le_trans Z0''' KE.1
  have K0 : Keep h0 _ _ := K0.trans KE (allS (Or.inr kn_b64) all0)
  show Goes p e below s _ _ _ (T68.setTop (mkF m 101 #[.val (.ref a), .val (.int (0 : Int32)), .val (.int (tb &&& (255 : Int32))), .val (.int (3 : Int32)), .unset] [(.ref b64)]))
  refine Goes.st (fun t_ k_ => XS.astore X68.here hx rfl (hb hby own_d_prog_17_11_101) rfl rfl (l' := #[.val (.ref a), .val (.int (0 : Int32)), .val (.int (tb &&& (255 : Int32))), .val (.int (3 : Int32)), .val (.ref b64)]) rfl k_) ?_
  show Goes p e below s _ _ _ (T68.setTop (mkF m 103 #[.val (.ref a), .val (.int (0 : Int32)), .val (.int (tb &&& (255 : Int32))), .val (.int (3 : Int32)), .val (.ref b64)] []))
  refine Goes.st (fun t_ k_ => XS.aloadN X68.here hx rfl (hb hby own_d_prog_17_11_103) rfl rfl k_) ?_
  show Goes p e below s _ _ _ (T68.setTop (mkF m 104 #[.val (.ref a), .val (.int (0 : Int32)), .val (.int (tb &&& (255 : Int32))), .val (.int (3 : Int32)), .val (.ref b64)] [(.ref a)]))
  refine Goes.st (fun t_ k_ => XS.dup X68.here hx rfl (hb hby own_d_prog_17_11_104) rfl rfl k_) ?_
  show Goes p e below s _ _ _ (T68.setTop (mkF m 105 #[.val (.ref a), .val (.int (0 : Int32)), .val (.int (tb &&& (255 : Int32))), .val (.int (3 : Int32)), .val (.ref b64)] [(.ref a), (.ref a)]))
  obtain ⟨T69, X69, e69, st69⟩ := getF X68 hx hZ hown (host := "") (Or.inl (hw _ (List.mem_of_getElem? (i := 20) rfl))) Via.refl rfl Fp_a (g := (mkF m 105 #[.val (.ref a), .val (.int (0 : Int32)), .val (.int (tb &&& (255 : Int32))), .val (.int (3 : Int32)), .val (.ref b64)] [(.ref a), (.ref a)])) rfl rfl (hb hby own_d_prog_17_11_105)
  refine Goes.st st69 ?_
  show Goes p e below s _ _ _ (T69.setTop (mkF m 108 #[.val (.ref a), .val (.int (0 : Int32)), .val (.int (tb &&& (255 : Int32))), .val (.int (3 : Int32)), .val (.ref b64)] [(.int (3 : Int32)), (.ref a)]))
  refine Goes.st (fun t_ k_ => XS.iloadN X69.here hx rfl (hb hby own_d_prog_17_11_108) rfl  k_) ?_
  show Goes p e below s _ _ _ (T69.setTop (mkF m 109 #[.val (.ref a), .val (.int (0 : Int32)), .val (.int (tb &&& (255 : Int32))), .val (.int (3 : Int32)), .val (.ref b64)] [(.int (3 : Int32)), (.int (3 : Int32)), (.ref a)]))
  refine Goes.st (fun t_ k_ => XS.iadd X69.here hx rfl (hb hby own_d_prog_17_11_109) rfl k_) ?_
  show Goes p e below s _ _ _ (T69.setTop (mkF m 110 #[.val (.ref a), .val (.int (0 : Int32)), .val (.int (tb &&& (255 : Int32))), .val (.int (3 : Int32)), .val (.ref b64)] [(.int ((3 : Int32) + (3 : Int32))), (.ref a)]))
  obtain ⟨T70, h70, X70, e70, W70, st70⟩ := putF X69 hx hZ hown (host := "") (Or.inl (hw _ (List.mem_of_getElem? (i := 20) rfl))) Via.refl e69 Fp_a E_a (Or.inl (hw _ (List.mem_of_getElem? (i := 21) rfl))) (hw _ (List.mem_of_getElem? (i := 7) rfl)) (ty := .int) (by decide) rfl rfl (g := (mkF m 110 #[.val (.ref a), .val (.int (0 : Int32)), .val (.int (tb &&& (255 : Int32))), .val (.int (3 : Int32)), .val (.ref b64)] [(.int ((3 : Int32) + (3 : Int32))), (.ref a)])) rfl rfl (hb hby own_d_prog_17_11_110)
  refine Goes.st st70 ?_
  have V_ab := V_ab.other W70 (Ne.symm nab)
  have E_a := E_a.wr W70
  have Fb_a := Fb_a.other W70 (Or.inr (slot_ne (Or.inr (hw _ (List.mem_of_getElem? (i := 19) rfl))) (Or.inl (hw _ (List.mem_of_getElem? (i := 21) rfl))) (by decide) (t := (.array .byte)) (t' := .int) (by decide) (by decide)))
  have Fp_a := Fp_a.same W70
  have Fe_a := Fe_a.other W70 (Or.inr (slot_ne (Or.inr (hw _ (List.mem_of_getElem? (i := 23) rfl))) (Or.inl (hw _ (List.mem_of_getElem? (i := 21) rfl))) (by decide) (t := .int) (t' := .int) (by decide) (by decide)))
  have N70 := Fr.snoc X70 N68 g_a
  have Z0''''' := Nat.le_trans Z0'''' (Keep.of_wr W70).1
  have K0 := K0.wr W70 (Or.inl (List.mem_of_getElem? (i := 0) rfl))
  show Goes p e below s _ _ _ (T70.setTop (mkF m 113 #[.val (.ref a), .val (.int (0 : Int32)), .val (.int (tb &&& (255 : Int32))), .val (.int (3 : Int32)), .val (.ref b64)] []))
  refine Goes.st (fun t_ k_ => XS.aload X70.here hx rfl (hb hby own_d_prog_17_11_113) rfl rfl k_) ?_
  show Goes p e below s _ _ _ (T70.setTop (mkF m 115 #[.val (.ref a), .val (.int (0 : Int32)), .val (.int (tb &&& (255 : Int32))), .val (.int (3 : Int32)), .val (.ref b64)] [(.ref b64)]))
  rw [← e70] at K0 E_a Fb_a Fp_a Fe_a
  exact Goes.retO X70 hx hret hlk rfl (Or.inr (Or.inr (Or.inr (Or.inr ⟨rfl, rfl, rfl⟩)))) (hb hby own_d_prog_17_11_115) (by decide) (by decide) (⟨b64, rfl, N70, K0, E_a, Fb_a, Fp_a, Fe_a⟩)
theorem own_rm0_ef (m : MethodId) (md : Int32) (sp : Int32) (tg : Int32) (fi : Int64) : entryFrame m #[(.int md), (.int sp), (.int tg), (.long fi)] maxLocals = mkF m 0 #[.val (.int md), .val (.int sp), .val (.int tg), .val (.long fi), .second, .unset, .unset, .unset, .unset, .unset, .unset, .unset, .unset, .unset, .unset, .unset] [] := by first | (simp [entryFrame, mkF, argsToLocals, Value.category, maxLocals]; done) | rfl
set_option maxRecDepth 65536 in
set_option maxHeartbeats 40000000 in
theorem own_rm0 (l : Launch) (Z : State) (a0 : Array Value) (hw : ∀ d ∈ tables_1, d.before a0 Z = true) (ws : List Jvm.Cond) (md sp tg : Int32) (fi : Int64) (h0 : Heap) (n0 : Nat) (Z0 : n0 ≤ h0.size)  :
    MetFree l x (head1 (Jvm.Cond.code x code maxLocals ret :: ws) room_1) (fun aa_ U => aa_ = #[(.int md), (.int sp), (.int tg), (.long fi)] ∧ Z.Warmed39 U.vm ∧ U.heap = h0) (fun _ _ _ _ _ => True) (fun _ U oo_ U' => ∃ vv_ LL_, oo_ = .returned vv_ ∧ own_Q0 Z  h0 n0 vv_ U'.heap LL_ ∧ FrameEnd U oo_ U' LL_ 5 19) := by
  refine MetFree.of_bodySF (plainFor_of_name own_pn15) hisR ?_
  intro p e s m args below meth c s₁ Bd hml0 hP hK
  obtain ⟨rfl, hZ, hh⟩ := hP
  have hx := Bd.exec
  have hby := Bd.bytes
  have hml : c.maxLocals = 16 := hml0
  have hown : s.vm.findClass "com/example/torniquete/torniquete/core/DerReaderHasNextPinLaw" = some m.cls := findClass_of_methodNamed Bd.named
  have hnm := (name_of_methodNamed Bd.named Bd.method).1
  have hlk := Bd.notSynchronized
  have hret := Bd.returns
  have X0 : Stand p l e room_1 s m #[(.int md), (.int sp), (.int tg), (.long fi)] below meth c s₁ [] 0 0 := Stand.of_body Bd
  have e0 : s₁.heap = h0 := by rw [← hh, Bd.state]; rfl
  have N0 := Fr.nil n0
  show Goes p e below s (own_Q0 Z  h0 n0) (5) (19) _
  refine Goes.cast (own_rm0_ef m md sp tg fi) ?_
  show Goes p e below s _ _ _ (s₁.setTop (mkF m 0 #[.val (.int md), .val (.int sp), .val (.int tg), .val (.long fi), .second, .unset, .unset, .unset, .unset, .unset, .unset, .unset, .unset, .unset, .unset, .unset] []))
  refine Goes.st (fun t_ k_ => XS.iloadN X0.here hx rfl (hb hby at_0) rfl  k_) ?_
  show Goes p e below s _ _ _ (s₁.setTop (mkF m 1 #[.val (.int md), .val (.int sp), .val (.int tg), .val (.long fi), .second, .unset, .unset, .unset, .unset, .unset, .unset, .unset, .unset, .unset, .unset, .unset] [(.int md)]))
  refine Goes.st (fun t_ k_ => X0.ldcInt hx hown (mvT hZ (hw _ (List.mem_of_getElem? (i := 0) rfl))) (g := (mkF m 1 #[.val (.int md), .val (.int sp), .val (.int tg), .val (.long fi), .second, .unset, .unset, .unset, .unset, .unset, .unset, .unset, .unset, .unset, .unset, .unset] [(.int md)])) rfl (hb hby at_1) _ k_) ?_
  show Goes p e below s _ _ _ (s₁.setTop (mkF m 3 #[.val (.int md), .val (.int sp), .val (.int tg), .val (.long fi), .second, .unset, .unset, .unset, .unset, .unset, .unset, .unset, .unset, .unset, .unset, .unset] [(.int (2147483647 : Int32)), (.int md)]))
  refine Goes.st (fun t_ k_ => XS.iand X0.here hx rfl (hb hby at_3) rfl k_) ?_
  show Goes p e below s _ _ _ (s₁.setTop (mkF m 4 #[.val (.int md), .val (.int sp), .val (.int tg), .val (.long fi), .second, .unset, .unset, .unset, .unset, .unset, .unset, .unset, .unset, .unset, .unset, .unset] [(.int (md &&& (2147483647 : Int32)))]))
  refine Goes.st (fun t_ k_ => XS.iconst X0.here hx rfl (hb hby at_4) k_) ?_
  show Goes p e below s _ _ _ (s₁.setTop (mkF m 5 #[.val (.int md), .val (.int sp), .val (.int tg), .val (.long fi), .second, .unset, .unset, .unset, .unset, .unset, .unset, .unset, .unset, .unset, .unset, .unset] [(.int (3 : Int32)), (.int (md &&& (2147483647 : Int32)))]))
  refine Goes.st (fun t_ k_ => iremM (g := (mkF m 5 #[.val (.int md), .val (.int sp), .val (.int tg), .val (.long fi), .second, .unset, .unset, .unset, .unset, .unset, .unset, .unset, .unset, .unset, .unset, .unset] [(.int (3 : Int32)), (.int (md &&& (2147483647 : Int32)))])) X0 hx rfl (hb hby at_5) rfl (by decide) k_) ?_
  show Goes p e below s _ _ _ (s₁.setTop (mkF m 6 #[.val (.int md), .val (.int sp), .val (.int tg), .val (.long fi), .second, .unset, .unset, .unset, .unset, .unset, .unset, .unset, .unset, .unset, .unset, .unset] [(.int ((md &&& (2147483647 : Int32)) % (3 : Int32)))]))
  refine Goes.st (fun t_ k_ => XS.istore X0.here hx rfl (hb hby at_6) rfl  (l' := #[.val (.int md), .val (.int sp), .val (.int tg), .val (.long fi), .second, .val (.int ((md &&& (2147483647 : Int32)) % (3 : Int32))), .unset, .unset, .unset, .unset, .unset, .unset, .unset, .unset, .unset, .unset]) rfl k_) ?_
  show Goes p e below s _ _ _ (s₁.setTop (mkF m 8 #[.val (.int md), .val (.int sp), .val (.int tg), .val (.long fi), .second, .val (.int ((md &&& (2147483647 : Int32)) % (3 : Int32))), .unset, .unset, .unset, .unset, .unset, .unset, .unset, .unset, .unset, .unset] []))
  obtain ⟨mm, hd_mm⟩ : ∃ z : Int32, z = ((md &&& (2147483647 : Int32)) % (3 : Int32)) := ⟨_, rfl⟩
  rw [← hd_mm]
  show Goes p e below s _ _ _ (s₁.setTop (mkF m 8 #[.val (.int md), .val (.int sp), .val (.int tg), .val (.long fi), .second, .val (.int mm), .unset, .unset, .unset, .unset, .unset, .unset, .unset, .unset, .unset, .unset] []))
  have hmm : mm = 0 ∨ mm = 1 ∨ mm = 2 := by rw [hd_mm]; exact own_m3 _
  clear hd_mm
  show Goes p e below s _ _ _ (s₁.setTop (mkF m 8 #[.val (.int md), .val (.int sp), .val (.int tg), .val (.long fi), .second, .val (.int mm), .unset, .unset, .unset, .unset, .unset, .unset, .unset, .unset, .unset, .unset] []))
  refine Goes.st (fun t_ k_ => XS.iloadN X0.here hx rfl (hb hby at_8) rfl  k_) ?_
  show Goes p e below s _ _ _ (s₁.setTop (mkF m 9 #[.val (.int md), .val (.int sp), .val (.int tg), .val (.long fi), .second, .val (.int mm), .unset, .unset, .unset, .unset, .unset, .unset, .unset, .unset, .unset, .unset] [(.int md)]))
  refine Goes.st (fun t_ k_ => XS.bipush X0.here hx rfl (hb hby at_9) k_) ?_
  show Goes p e below s _ _ _ (s₁.setTop (mkF m 11 #[.val (.int md), .val (.int sp), .val (.int tg), .val (.long fi), .second, .val (.int mm), .unset, .unset, .unset, .unset, .unset, .unset, .unset, .unset, .unset, .unset] [(.int (16 : Int32)), (.int md)]))
  refine Goes.st (fun t_ k_ => XS.iushr X0.here hx rfl (hb hby at_11) rfl k_) ?_
  show Goes p e below s _ _ _ (s₁.setTop (mkF m 12 #[.val (.int md), .val (.int sp), .val (.int tg), .val (.long fi), .second, .val (.int mm), .unset, .unset, .unset, .unset, .unset, .unset, .unset, .unset, .unset, .unset] [(.int ((md.toUInt32 >>> ((16 : Int32) &&& 31).toUInt32).toInt32))]))
  refine Goes.st (fun t_ k_ => XS.iconst X0.here hx rfl (hb hby at_12) k_) ?_
  show Goes p e below s _ _ _ (s₁.setTop (mkF m 13 #[.val (.int md), .val (.int sp), .val (.int tg), .val (.long fi), .second, .val (.int mm), .unset, .unset, .unset, .unset, .unset, .unset, .unset, .unset, .unset, .unset] [(.int (1 : Int32)), (.int ((md.toUInt32 >>> ((16 : Int32) &&& 31).toUInt32).toInt32))]))
  refine Goes.st (fun t_ k_ => XS.iand X0.here hx rfl (hb hby at_13) rfl k_) ?_
  show Goes p e below s _ _ _ (s₁.setTop (mkF m 14 #[.val (.int md), .val (.int sp), .val (.int tg), .val (.long fi), .second, .val (.int mm), .unset, .unset, .unset, .unset, .unset, .unset, .unset, .unset, .unset, .unset] [(.int (((md.toUInt32 >>> ((16 : Int32) &&& 31).toUInt32).toInt32) &&& (1 : Int32)))]))
  have hj1 : ∀ lf : Int32, Goes p e below s (own_Q0 Z h0 n0) (5) (19) (s₁.setTop (mkF m 22 #[.val (.int md), .val (.int sp), .val (.int tg), .val (.long fi), .second, .val (.int mm), .unset, .unset, .unset, .unset, .unset, .unset, .unset, .unset, .unset, .unset] [(.int lf)])) := by
    intro lf
    show Goes p e below s _ _ _ (s₁.setTop (mkF m 22 #[.val (.int md), .val (.int sp), .val (.int tg), .val (.long fi), .second, .val (.int mm), .unset, .unset, .unset, .unset, .unset, .unset, .unset, .unset, .unset, .unset] [(.int lf)]))
    refine Goes.st (fun t_ k_ => XS.istore X0.here hx rfl (hb hby at_22) rfl  (l' := #[.val (.int md), .val (.int sp), .val (.int tg), .val (.long fi), .second, .val (.int mm), .val (.int lf), .unset, .unset, .unset, .unset, .unset, .unset, .unset, .unset, .unset]) rfl k_) ?_
    show Goes p e below s _ _ _ (s₁.setTop (mkF m 24 #[.val (.int md), .val (.int sp), .val (.int tg), .val (.long fi), .second, .val (.int mm), .val (.int lf), .unset, .unset, .unset, .unset, .unset, .unset, .unset, .unset, .unset] []))
    refine Goes.st (fun t_ k_ => XS.iloadN X0.here hx rfl (hb hby at_24) rfl  k_) ?_
    show Goes p e below s _ _ _ (s₁.setTop (mkF m 25 #[.val (.int md), .val (.int sp), .val (.int tg), .val (.long fi), .second, .val (.int mm), .val (.int lf), .unset, .unset, .unset, .unset, .unset, .unset, .unset, .unset, .unset] [(.int sp)]))
    refine Goes.st (fun t_ k_ => X0.ldcInt hx hown (mvT hZ (hw _ (List.mem_of_getElem? (i := 0) rfl))) (g := (mkF m 25 #[.val (.int md), .val (.int sp), .val (.int tg), .val (.long fi), .second, .val (.int mm), .val (.int lf), .unset, .unset, .unset, .unset, .unset, .unset, .unset, .unset, .unset] [(.int sp)])) rfl (hb hby at_25) _ k_) ?_
    show Goes p e below s _ _ _ (s₁.setTop (mkF m 27 #[.val (.int md), .val (.int sp), .val (.int tg), .val (.long fi), .second, .val (.int mm), .val (.int lf), .unset, .unset, .unset, .unset, .unset, .unset, .unset, .unset, .unset] [(.int (2147483647 : Int32)), (.int sp)]))
    refine Goes.st (fun t_ k_ => XS.iand X0.here hx rfl (hb hby at_27) rfl k_) ?_
    show Goes p e below s _ _ _ (s₁.setTop (mkF m 28 #[.val (.int md), .val (.int sp), .val (.int tg), .val (.long fi), .second, .val (.int mm), .val (.int lf), .unset, .unset, .unset, .unset, .unset, .unset, .unset, .unset, .unset] [(.int (sp &&& (2147483647 : Int32)))]))
    refine Goes.st (fun t_ k_ => XS.iconst X0.here hx rfl (hb hby at_28) k_) ?_
    show Goes p e below s _ _ _ (s₁.setTop (mkF m 29 #[.val (.int md), .val (.int sp), .val (.int tg), .val (.long fi), .second, .val (.int mm), .val (.int lf), .unset, .unset, .unset, .unset, .unset, .unset, .unset, .unset, .unset] [(.int (3 : Int32)), (.int (sp &&& (2147483647 : Int32)))]))
    refine Goes.st (fun t_ k_ => iremM (g := (mkF m 29 #[.val (.int md), .val (.int sp), .val (.int tg), .val (.long fi), .second, .val (.int mm), .val (.int lf), .unset, .unset, .unset, .unset, .unset, .unset, .unset, .unset, .unset] [(.int (3 : Int32)), (.int (sp &&& (2147483647 : Int32)))])) X0 hx rfl (hb hby at_29) rfl (by decide) k_) ?_
    show Goes p e below s _ _ _ (s₁.setTop (mkF m 30 #[.val (.int md), .val (.int sp), .val (.int tg), .val (.long fi), .second, .val (.int mm), .val (.int lf), .unset, .unset, .unset, .unset, .unset, .unset, .unset, .unset, .unset] [(.int ((sp &&& (2147483647 : Int32)) % (3 : Int32)))]))
    refine Goes.st (fun t_ k_ => XS.istore X0.here hx rfl (hb hby at_30) rfl  (l' := #[.val (.int md), .val (.int sp), .val (.int tg), .val (.long fi), .second, .val (.int mm), .val (.int lf), .val (.int ((sp &&& (2147483647 : Int32)) % (3 : Int32))), .unset, .unset, .unset, .unset, .unset, .unset, .unset, .unset]) rfl k_) ?_
    show Goes p e below s _ _ _ (s₁.setTop (mkF m 32 #[.val (.int md), .val (.int sp), .val (.int tg), .val (.long fi), .second, .val (.int mm), .val (.int lf), .val (.int ((sp &&& (2147483647 : Int32)) % (3 : Int32))), .unset, .unset, .unset, .unset, .unset, .unset, .unset, .unset] []))
    obtain ⟨l1, hd_l1⟩ : ∃ z : Int32, z = ((sp &&& (2147483647 : Int32)) % (3 : Int32)) := ⟨_, rfl⟩
    rw [← hd_l1]
    show Goes p e below s _ _ _ (s₁.setTop (mkF m 32 #[.val (.int md), .val (.int sp), .val (.int tg), .val (.long fi), .second, .val (.int mm), .val (.int lf), .val (.int l1), .unset, .unset, .unset, .unset, .unset, .unset, .unset, .unset] []))
    have hl1 : l1 = 0 ∨ l1 = 1 ∨ l1 = 2 := by rw [hd_l1]; exact own_m3 _
    clear hd_l1
    show Goes p e below s _ _ _ (s₁.setTop (mkF m 32 #[.val (.int md), .val (.int sp), .val (.int tg), .val (.long fi), .second, .val (.int mm), .val (.int lf), .val (.int l1), .unset, .unset, .unset, .unset, .unset, .unset, .unset, .unset] []))
    refine Goes.st (fun t_ k_ => XS.iloadN X0.here hx rfl (hb hby at_32) rfl  k_) ?_
    show Goes p e below s _ _ _ (s₁.setTop (mkF m 33 #[.val (.int md), .val (.int sp), .val (.int tg), .val (.long fi), .second, .val (.int mm), .val (.int lf), .val (.int l1), .unset, .unset, .unset, .unset, .unset, .unset, .unset, .unset] [(.int tg)]))
    obtain ⟨_, _, ⟨T71, L71, k71, n71⟩, -, X71, ⟨Lc71, hQ71, l71, y71, z71⟩, st71⟩ := Jvm.LawKit.callS X0 hx (y := (⟨"com/example/torniquete/torniquete/core/DerReaderHasNextPinLaw", "tag", "(I)I"⟩ : MethodName)) hown (mvT hZ (hw _ (List.mem_of_getElem? (i := 1) rfl))) (mvT hZ (hw _ (List.mem_of_getElem? (i := 2) rfl))) (mvT hZ (hw _ (List.mem_of_getElem? (i := 3) rfl))) (mvT hZ (hw _ (List.mem_of_getElem? (i := 4) rfl))) (by decide) (backOf (W := 0) (own_rmT l Z a0 hw [] tg h0 n0 Z0 ) hZ (hw _ (List.mem_of_getElem? (i := 4) rfl)) (hw _ (List.mem_of_getElem? (i := 3) rfl)) (by decide) (by decide)) (g := (mkF m 33 #[.val (.int md), .val (.int sp), .val (.int tg), .val (.long fi), .second, .val (.int mm), .val (.int lf), .val (.int l1), .unset, .unset, .unset, .unset, .unset, .unset, .unset, .unset] [(.int tg)])) rfl (by rw [hml]; rfl) (argsL := [(.int tg)]) (rest := []) (lenOf own_pd195 rfl) rfl (by show 2 * 0 + _ ≤ _; exact Nat.le_of_eq rfl) (hb hby at_33) (fun _ _ => ⟨rfl, e0, (by decide : 0 + 0 ≤ _), (by decide : 0 + 0 ≤ _)⟩)
    dsimp only [Pt.U, Pt.locs, Pt.cells, Pt.slots] at X71 l71 y71 z71 st71 hQ71
    subst l71 y71 z71
    obtain ⟨t1, rfl, N71q, EQ1, ht1⟩ := hQ71
    have N71 := Fr.app N0 N71q
    refine Goes.st st71 ?_
    show Goes p e below s _ _ _ (T71.setTop (mkF m 36 #[.val (.int md), .val (.int sp), .val (.int tg), .val (.long fi), .second, .val (.int mm), .val (.int lf), .val (.int l1), .unset, .unset, .unset, .unset, .unset, .unset, .unset, .unset] [(.int t1)]))
    refine Goes.st (fun t_ k_ => XS.istore X71.here hx rfl (hb hby at_36) rfl  (l' := #[.val (.int md), .val (.int sp), .val (.int tg), .val (.long fi), .second, .val (.int mm), .val (.int lf), .val (.int l1), .val (.int t1), .unset, .unset, .unset, .unset, .unset, .unset, .unset]) rfl k_) ?_
    show Goes p e below s _ _ _ (T71.setTop (mkF m 38 #[.val (.int md), .val (.int sp), .val (.int tg), .val (.long fi), .second, .val (.int mm), .val (.int lf), .val (.int l1), .val (.int t1), .unset, .unset, .unset, .unset, .unset, .unset, .unset] []))
    refine Goes.st (fun t_ k_ => XS.iloadN X71.here hx rfl (hb hby at_38) rfl  k_) ?_
    show Goes p e below s _ _ _ (T71.setTop (mkF m 39 #[.val (.int md), .val (.int sp), .val (.int tg), .val (.long fi), .second, .val (.int mm), .val (.int lf), .val (.int l1), .val (.int t1), .unset, .unset, .unset, .unset, .unset, .unset, .unset] [(.int tg)]))
    refine Goes.st (fun t_ k_ => XS.bipush X71.here hx rfl (hb hby at_39) k_) ?_
    show Goes p e below s _ _ _ (T71.setTop (mkF m 41 #[.val (.int md), .val (.int sp), .val (.int tg), .val (.long fi), .second, .val (.int mm), .val (.int lf), .val (.int l1), .val (.int t1), .unset, .unset, .unset, .unset, .unset, .unset, .unset] [(.int (8 : Int32)), (.int tg)]))
    refine Goes.st (fun t_ k_ => XS.iushr X71.here hx rfl (hb hby at_41) rfl k_) ?_
    show Goes p e below s _ _ _ (T71.setTop (mkF m 42 #[.val (.int md), .val (.int sp), .val (.int tg), .val (.long fi), .second, .val (.int mm), .val (.int lf), .val (.int l1), .val (.int t1), .unset, .unset, .unset, .unset, .unset, .unset, .unset] [(.int ((tg.toUInt32 >>> ((8 : Int32) &&& 31).toUInt32).toInt32))]))
    obtain ⟨_, _, ⟨T72, L72, k72, n72⟩, -, X72, ⟨Lc72, hQ72, l72, y72, z72⟩, st72⟩ := Jvm.LawKit.callS X71 hx (y := (⟨"com/example/torniquete/torniquete/core/DerReaderHasNextPinLaw", "tag", "(I)I"⟩ : MethodName)) hown (mvT hZ (hw _ (List.mem_of_getElem? (i := 1) rfl))) (mvT hZ (hw _ (List.mem_of_getElem? (i := 2) rfl))) (mvT hZ (hw _ (List.mem_of_getElem? (i := 3) rfl))) (mvT hZ (hw _ (List.mem_of_getElem? (i := 4) rfl))) (by decide) (backOf (W := 0) (own_rmT l Z a0 hw [] ((tg.toUInt32 >>> ((8 : Int32) &&& 31).toUInt32).toInt32) h0 n0 Z0 ) hZ (hw _ (List.mem_of_getElem? (i := 4) rfl)) (hw _ (List.mem_of_getElem? (i := 3) rfl)) (by decide) (by decide)) (g := (mkF m 42 #[.val (.int md), .val (.int sp), .val (.int tg), .val (.long fi), .second, .val (.int mm), .val (.int lf), .val (.int l1), .val (.int t1), .unset, .unset, .unset, .unset, .unset, .unset, .unset] [(.int ((tg.toUInt32 >>> ((8 : Int32) &&& 31).toUInt32).toInt32))])) rfl (by rw [hml]; rfl) (argsL := [(.int ((tg.toUInt32 >>> ((8 : Int32) &&& 31).toUInt32).toInt32))]) (rest := []) (lenOf own_pd195 rfl) rfl (by show 2 * 0 + _ ≤ _; exact Nat.le_of_eq rfl) (hb hby at_42) (fun _ _ => ⟨rfl, EQ1, (by decide : 0 + 0 ≤ _), (by decide : 0 + 0 ≤ _)⟩)
    dsimp only [Pt.U, Pt.locs, Pt.cells, Pt.slots] at X72 l72 y72 z72 st72 hQ72
    subst l72 y72 z72
    obtain ⟨t2, rfl, N72q, EQ2, ht2⟩ := hQ72
    have N72 := Fr.app N71 N72q
    refine Goes.st st72 ?_
    show Goes p e below s _ _ _ (T72.setTop (mkF m 45 #[.val (.int md), .val (.int sp), .val (.int tg), .val (.long fi), .second, .val (.int mm), .val (.int lf), .val (.int l1), .val (.int t1), .unset, .unset, .unset, .unset, .unset, .unset, .unset] [(.int t2)]))
    refine Goes.st (fun t_ k_ => XS.istore X72.here hx rfl (hb hby at_45) rfl  (l' := #[.val (.int md), .val (.int sp), .val (.int tg), .val (.long fi), .second, .val (.int mm), .val (.int lf), .val (.int l1), .val (.int t1), .val (.int t2), .unset, .unset, .unset, .unset, .unset, .unset]) rfl k_) ?_
    show Goes p e below s _ _ _ (T72.setTop (mkF m 47 #[.val (.int md), .val (.int sp), .val (.int tg), .val (.long fi), .second, .val (.int mm), .val (.int lf), .val (.int l1), .val (.int t1), .val (.int t2), .unset, .unset, .unset, .unset, .unset, .unset] []))
    refine Goes.st (fun t_ k_ => XS.iconst X72.here hx rfl (hb hby at_47) k_) ?_
    show Goes p e below s _ _ _ (T72.setTop (mkF m 48 #[.val (.int md), .val (.int sp), .val (.int tg), .val (.long fi), .second, .val (.int mm), .val (.int lf), .val (.int l1), .val (.int t1), .val (.int t2), .unset, .unset, .unset, .unset, .unset, .unset] [(.int (0 : Int32))]))
    obtain ⟨T73, h73, k73, X73, e73, E73, A73, st73⟩ := newP X72 hx hZ (hw _ (List.mem_of_getElem? (i := 5) rfl)) EQ2 (g := (mkF m 48 #[.val (.int md), .val (.int sp), .val (.int tg), .val (.long fi), .second, .val (.int mm), .val (.int lf), .val (.int l1), .val (.int t1), .val (.int t2), .unset, .unset, .unset, .unset, .unset, .unset] [(.int (0 : Int32))])) rfl (hb hby at_48) rfl (by decide) (cap := 0) (by decide) (by decide) (by decide) (by decide)
    obtain ⟨b73, g73⟩ : ∃ z, z = h0.size := ⟨_, rfl⟩
    rw [← g73] at A73 st73
    have gn_b73 : n0 ≤ b73 := Nat.le_trans Z0 (Nat.le_of_eq g73.symm)
    refine Goes.st st73 ?_
    have Z0' := Nat.le_trans Z0 E73.1
    have V_b73 : Arv Z h73 b73 k73 .byte (0 : Int32) [] (.int (0 : Int32)) := (Arv.new A73 (by decide)).pad (pad_rep [] (.int (0 : Int32)) 0)
    show Goes p e below s _ _ _ (T73.setTop (mkF m 50 #[.val (.int md), .val (.int sp), .val (.int tg), .val (.long fi), .second, .val (.int mm), .val (.int lf), .val (.int l1), .val (.int t1), .val (.int t2), .unset, .unset, .unset, .unset, .unset, .unset] [(.ref b73)]))
    refine Goes.st (fun t_ k_ => XS.astore X73.here hx rfl (hb hby at_50) rfl rfl (l' := #[.val (.int md), .val (.int sp), .val (.int tg), .val (.long fi), .second, .val (.int mm), .val (.int lf), .val (.int l1), .val (.int t1), .val (.int t2), .val (.ref b73), .unset, .unset, .unset, .unset, .unset]) rfl k_) ?_
    show Goes p e below s _ _ _ (T73.setTop (mkF m 52 #[.val (.int md), .val (.int sp), .val (.int tg), .val (.long fi), .second, .val (.int mm), .val (.int lf), .val (.int l1), .val (.int t1), .val (.int t2), .val (.ref b73), .unset, .unset, .unset, .unset, .unset] []))
    refine Goes.st (fun t_ k_ => XS.bipush X73.here hx rfl (hb hby at_52) k_) ?_
    show Goes p e below s _ _ _ (T73.setTop (mkF m 54 #[.val (.int md), .val (.int sp), .val (.int tg), .val (.long fi), .second, .val (.int mm), .val (.int lf), .val (.int l1), .val (.int t1), .val (.int t2), .val (.ref b73), .unset, .unset, .unset, .unset, .unset] [(.int (6 : Int32))]))
    obtain ⟨T74, h74, k74, X74, e74, E74, A74, st74⟩ := newP X73 hx hZ (hw _ (List.mem_of_getElem? (i := 5) rfl)) e73 (g := (mkF m 54 #[.val (.int md), .val (.int sp), .val (.int tg), .val (.long fi), .second, .val (.int mm), .val (.int lf), .val (.int l1), .val (.int t1), .val (.int t2), .val (.ref b73), .unset, .unset, .unset, .unset, .unset] [(.int (6 : Int32))])) rfl (hb hby at_54) rfl (by decide) (cap := 6) (by decide) (by decide) (by decide) (by decide)
    obtain ⟨b74, g74⟩ : ∃ z, z = h73.size := ⟨_, rfl⟩
    rw [← g74] at A74 st74
    have ne_b73_b74 : b73 ≠ b74 := Nat.ne_of_lt (Nat.lt_of_lt_of_le V_b73.lt (Nat.le_of_eq g74.symm))
    have gn_b74 : n0 ≤ b74 := Nat.le_trans Z0' (Nat.le_of_eq g74.symm)
    refine Goes.st st74 ?_
    have V_b73 := V_b73.ext E74
    have Z0'' := Nat.le_trans Z0' E74.1
    have V_b74 : Arv Z h74 b74 k74 .byte (6 : Int32) [(.int (0 : Int32)), (.int (0 : Int32)), (.int (0 : Int32)), (.int (0 : Int32)), (.int (0 : Int32)), (.int (0 : Int32))] (.int (0 : Int32)) := (Arv.new A74 (by decide)).pad (pad_rep [] (.int (0 : Int32)) 6)
    show Goes p e below s _ _ _ (T74.setTop (mkF m 56 #[.val (.int md), .val (.int sp), .val (.int tg), .val (.long fi), .second, .val (.int mm), .val (.int lf), .val (.int l1), .val (.int t1), .val (.int t2), .val (.ref b73), .unset, .unset, .unset, .unset, .unset] [(.ref b74)]))
    refine Goes.st (fun t_ k_ => XS.astore X74.here hx rfl (hb hby at_56) rfl rfl (l' := #[.val (.int md), .val (.int sp), .val (.int tg), .val (.long fi), .second, .val (.int mm), .val (.int lf), .val (.int l1), .val (.int t1), .val (.int t2), .val (.ref b73), .val (.ref b74), .unset, .unset, .unset, .unset]) rfl k_) ?_
    show Goes p e below s _ _ _ (T74.setTop (mkF m 58 #[.val (.int md), .val (.int sp), .val (.int tg), .val (.long fi), .second, .val (.int mm), .val (.int lf), .val (.int l1), .val (.int t1), .val (.int t2), .val (.ref b73), .val (.ref b74), .unset, .unset, .unset, .unset] []))
    refine Goes.st (fun t_ k_ => XS.aload X74.here hx rfl (hb hby at_58) rfl rfl k_) ?_
    show Goes p e below s _ _ _ (T74.setTop (mkF m 60 #[.val (.int md), .val (.int sp), .val (.int tg), .val (.long fi), .second, .val (.int mm), .val (.int lf), .val (.int l1), .val (.int t1), .val (.int t2), .val (.ref b73), .val (.ref b74), .unset, .unset, .unset, .unset] [(.ref b74)]))
    refine Goes.st (fun t_ k_ => XS.iconst X74.here hx rfl (hb hby at_60) k_) ?_
    show Goes p e below s _ _ _ (T74.setTop (mkF m 61 #[.val (.int md), .val (.int sp), .val (.int tg), .val (.long fi), .second, .val (.int mm), .val (.int lf), .val (.int l1), .val (.int t1), .val (.int t2), .val (.ref b73), .val (.ref b74), .unset, .unset, .unset, .unset] [(.int (0 : Int32)), (.ref b74)]))
    refine Goes.st (fun t_ k_ => XS.lloadN X74.here hx rfl (hb hby at_61) rfl  k_) ?_
    show Goes p e below s _ _ _ (T74.setTop (mkF m 62 #[.val (.int md), .val (.int sp), .val (.int tg), .val (.long fi), .second, .val (.int mm), .val (.int lf), .val (.int l1), .val (.int t1), .val (.int t2), .val (.ref b73), .val (.ref b74), .unset, .unset, .unset, .unset] [(.long fi), (.int (0 : Int32)), (.ref b74)]))
    refine Goes.st (fun t_ k_ => XS.l2i X74.here hx rfl (hb hby at_62) rfl k_) ?_
    show Goes p e below s _ _ _ (T74.setTop (mkF m 63 #[.val (.int md), .val (.int sp), .val (.int tg), .val (.long fi), .second, .val (.int mm), .val (.int lf), .val (.int l1), .val (.int t1), .val (.int t2), .val (.ref b73), .val (.ref b74), .unset, .unset, .unset, .unset] [(.int (fi.toInt32)), (.int (0 : Int32)), (.ref b74)]))
    refine Goes.st (fun t_ k_ => XS.i2b X74.here hx rfl (hb hby at_63) rfl k_) ?_
    show Goes p e below s _ _ _ (T74.setTop (mkF m 64 #[.val (.int md), .val (.int sp), .val (.int tg), .val (.long fi), .second, .val (.int mm), .val (.int lf), .val (.int l1), .val (.int t1), .val (.int t2), .val (.ref b73), .val (.ref b74), .unset, .unset, .unset, .unset] [(.int ((fi.toInt32).toInt8.toInt32)), (.int (0 : Int32)), (.ref b74)]))
    obtain ⟨cl75, Ar75, q75, S75, M75, H75, G75⟩ := V_b74
    obtain ⟨T75, h75, X75, e75, W75, st75⟩ := stB X74 hx hZ e74 Ar75 (j := (0 : Int32)) (inb_of S75 ⟨by decide, by decide⟩) (g := (mkF m 64 #[.val (.int md), .val (.int sp), .val (.int tg), .val (.long fi), .second, .val (.int mm), .val (.int lf), .val (.int l1), .val (.int t1), .val (.int t2), .val (.ref b73), .val (.ref b74), .unset, .unset, .unset, .unset] [(.int ((fi.toInt32).toInt8.toInt32)), (.int (0 : Int32)), (.ref b74)])) rfl rfl (hb hby at_64)
    have V_b74 := Arv.set Ar75 q75 S75 M75 H75 G75 (fits_nar_byte _) W75 0 rfl (Nat.le_of_ble_eq_true rfl)
    refine Goes.st st75 ?_
    have V_b74 : Arv Z h75 b74 k74 .byte (6 : Int32) [(.int (nar .byte ((fi.toInt32).toInt8.toInt32))), (.int (0 : Int32)), (.int (0 : Int32)), (.int (0 : Int32)), (.int (0 : Int32)), (.int (0 : Int32))] (.int (0 : Int32)) := V_b74
    have V_b73 := V_b73.other W75 ne_b73_b74
    have N75 := Fr.snoc X75 N72 gn_b74
    have Z0''' := Nat.le_trans Z0'' (Keep.of_wr W75).1
    show Goes p e below s _ _ _ (T75.setTop (mkF m 65 #[.val (.int md), .val (.int sp), .val (.int tg), .val (.long fi), .second, .val (.int mm), .val (.int lf), .val (.int l1), .val (.int t1), .val (.int t2), .val (.ref b73), .val (.ref b74), .unset, .unset, .unset, .unset] []))
    refine Goes.st (fun t_ k_ => XS.aload X75.here hx rfl (hb hby at_65) rfl rfl k_) ?_
    show Goes p e below s _ _ _ (T75.setTop (mkF m 67 #[.val (.int md), .val (.int sp), .val (.int tg), .val (.long fi), .second, .val (.int mm), .val (.int lf), .val (.int l1), .val (.int t1), .val (.int t2), .val (.ref b73), .val (.ref b74), .unset, .unset, .unset, .unset] [(.ref b74)]))
    refine Goes.st (fun t_ k_ => XS.iconst X75.here hx rfl (hb hby at_67) k_) ?_
    show Goes p e below s _ _ _ (T75.setTop (mkF m 68 #[.val (.int md), .val (.int sp), .val (.int tg), .val (.long fi), .second, .val (.int mm), .val (.int lf), .val (.int l1), .val (.int t1), .val (.int t2), .val (.ref b73), .val (.ref b74), .unset, .unset, .unset, .unset] [(.int (1 : Int32)), (.ref b74)]))
    refine Goes.st (fun t_ k_ => XS.lloadN X75.here hx rfl (hb hby at_68) rfl  k_) ?_
    show Goes p e below s _ _ _ (T75.setTop (mkF m 69 #[.val (.int md), .val (.int sp), .val (.int tg), .val (.long fi), .second, .val (.int mm), .val (.int lf), .val (.int l1), .val (.int t1), .val (.int t2), .val (.ref b73), .val (.ref b74), .unset, .unset, .unset, .unset] [(.long fi), (.int (1 : Int32)), (.ref b74)]))
    refine Goes.st (fun t_ k_ => XS.bipush X75.here hx rfl (hb hby at_69) k_) ?_
    show Goes p e below s _ _ _ (T75.setTop (mkF m 71 #[.val (.int md), .val (.int sp), .val (.int tg), .val (.long fi), .second, .val (.int mm), .val (.int lf), .val (.int l1), .val (.int t1), .val (.int t2), .val (.ref b73), .val (.ref b74), .unset, .unset, .unset, .unset] [(.int (8 : Int32)), (.long fi), (.int (1 : Int32)), (.ref b74)]))
    refine Goes.st (fun t_ k_ => XS.lushr X75.here hx rfl (hb hby at_71) rfl k_) ?_
    show Goes p e below s _ _ _ (T75.setTop (mkF m 72 #[.val (.int md), .val (.int sp), .val (.int tg), .val (.long fi), .second, .val (.int mm), .val (.int lf), .val (.int l1), .val (.int t1), .val (.int t2), .val (.ref b73), .val (.ref b74), .unset, .unset, .unset, .unset] [(.long ((fi.toUInt64 >>> ((8 : Int32) &&& 0x3f).toInt64.toUInt64).toInt64)), (.int (1 : Int32)), (.ref b74)]))
    refine Goes.st (fun t_ k_ => XS.l2i X75.here hx rfl (hb hby at_72) rfl k_) ?_
    show Goes p e below s _ _ _ (T75.setTop (mkF m 73 #[.val (.int md), .val (.int sp), .val (.int tg), .val (.long fi), .second, .val (.int mm), .val (.int lf), .val (.int l1), .val (.int t1), .val (.int t2), .val (.ref b73), .val (.ref b74), .unset, .unset, .unset, .unset] [(.int (((fi.toUInt64 >>> ((8 : Int32) &&& 0x3f).toInt64.toUInt64).toInt64).toInt32)), (.int (1 : Int32)), (.ref b74)]))
    refine Goes.st (fun t_ k_ => XS.i2b X75.here hx rfl (hb hby at_73) rfl k_) ?_
    show Goes p e below s _ _ _ (T75.setTop (mkF m 74 #[.val (.int md), .val (.int sp), .val (.int tg), .val (.long fi), .second, .val (.int mm), .val (.int lf), .val (.int l1), .val (.int t1), .val (.int t2), .val (.ref b73), .val (.ref b74), .unset, .unset, .unset, .unset] [(.int ((((fi.toUInt64 >>> ((8 : Int32) &&& 0x3f).toInt64.toUInt64).toInt64).toInt32).toInt8.toInt32)), (.int (1 : Int32)), (.ref b74)]))
    obtain ⟨cl76, Ar76, q76, S76, M76, H76, G76⟩ := V_b74
    obtain ⟨T76, h76, X76, e76, W76, st76⟩ := stB X75 hx hZ e75 Ar76 (j := (1 : Int32)) (inb_of S76 ⟨by decide, by decide⟩) (g := (mkF m 74 #[.val (.int md), .val (.int sp), .val (.int tg), .val (.long fi), .second, .val (.int mm), .val (.int lf), .val (.int l1), .val (.int t1), .val (.int t2), .val (.ref b73), .val (.ref b74), .unset, .unset, .unset, .unset] [(.int ((((fi.toUInt64 >>> ((8 : Int32) &&& 0x3f).toInt64.toUInt64).toInt64).toInt32).toInt8.toInt32)), (.int (1 : Int32)), (.ref b74)])) rfl rfl (hb hby at_74)
    have V_b74 := Arv.set Ar76 q76 S76 M76 H76 G76 (fits_nar_byte _) W76 1 rfl (Nat.le_of_ble_eq_true rfl)
    refine Goes.st st76 ?_
    have V_b74 : Arv Z h76 b74 k74 .byte (6 : Int32) [(.int (nar .byte ((fi.toInt32).toInt8.toInt32))), (.int (nar .byte ((((fi.toUInt64 >>> ((8 : Int32) &&& 0x3f).toInt64.toUInt64).toInt64).toInt32).toInt8.toInt32))), (.int (0 : Int32)), (.int (0 : Int32)), (.int (0 : Int32)), (.int (0 : Int32))] (.int (0 : Int32)) := V_b74
    have V_b73 := V_b73.other W76 ne_b73_b74
    have N76 := Fr.snoc X76 N75 gn_b74
    have Z0'''' := Nat.le_trans Z0''' (Keep.of_wr W76).1
    show Goes p e below s _ _ _ (T76.setTop (mkF m 75 #[.val (.int md), .val (.int sp), .val (.int tg), .val (.long fi), .second, .val (.int mm), .val (.int lf), .val (.int l1), .val (.int t1), .val (.int t2), .val (.ref b73), .val (.ref b74), .unset, .unset, .unset, .unset] []))
    refine Goes.st (fun t_ k_ => XS.aload X76.here hx rfl (hb hby at_75) rfl rfl k_) ?_
    show Goes p e below s _ _ _ (T76.setTop (mkF m 77 #[.val (.int md), .val (.int sp), .val (.int tg), .val (.long fi), .second, .val (.int mm), .val (.int lf), .val (.int l1), .val (.int t1), .val (.int t2), .val (.ref b73), .val (.ref b74), .unset, .unset, .unset, .unset] [(.ref b74)]))
    refine Goes.st (fun t_ k_ => XS.iconst X76.here hx rfl (hb hby at_77) k_) ?_
    show Goes p e below s _ _ _ (T76.setTop (mkF m 78 #[.val (.int md), .val (.int sp), .val (.int tg), .val (.long fi), .second, .val (.int mm), .val (.int lf), .val (.int l1), .val (.int t1), .val (.int t2), .val (.ref b73), .val (.ref b74), .unset, .unset, .unset, .unset] [(.int (2 : Int32)), (.ref b74)]))
    refine Goes.st (fun t_ k_ => XS.lloadN X76.here hx rfl (hb hby at_78) rfl  k_) ?_
    show Goes p e below s _ _ _ (T76.setTop (mkF m 79 #[.val (.int md), .val (.int sp), .val (.int tg), .val (.long fi), .second, .val (.int mm), .val (.int lf), .val (.int l1), .val (.int t1), .val (.int t2), .val (.ref b73), .val (.ref b74), .unset, .unset, .unset, .unset] [(.long fi), (.int (2 : Int32)), (.ref b74)]))
    refine Goes.st (fun t_ k_ => XS.bipush X76.here hx rfl (hb hby at_79) k_) ?_
    show Goes p e below s _ _ _ (T76.setTop (mkF m 81 #[.val (.int md), .val (.int sp), .val (.int tg), .val (.long fi), .second, .val (.int mm), .val (.int lf), .val (.int l1), .val (.int t1), .val (.int t2), .val (.ref b73), .val (.ref b74), .unset, .unset, .unset, .unset] [(.int (16 : Int32)), (.long fi), (.int (2 : Int32)), (.ref b74)]))
    refine Goes.st (fun t_ k_ => XS.lushr X76.here hx rfl (hb hby at_81) rfl k_) ?_
    show Goes p e below s _ _ _ (T76.setTop (mkF m 82 #[.val (.int md), .val (.int sp), .val (.int tg), .val (.long fi), .second, .val (.int mm), .val (.int lf), .val (.int l1), .val (.int t1), .val (.int t2), .val (.ref b73), .val (.ref b74), .unset, .unset, .unset, .unset] [(.long ((fi.toUInt64 >>> ((16 : Int32) &&& 0x3f).toInt64.toUInt64).toInt64)), (.int (2 : Int32)), (.ref b74)]))
    refine Goes.st (fun t_ k_ => XS.l2i X76.here hx rfl (hb hby at_82) rfl k_) ?_
    show Goes p e below s _ _ _ (T76.setTop (mkF m 83 #[.val (.int md), .val (.int sp), .val (.int tg), .val (.long fi), .second, .val (.int mm), .val (.int lf), .val (.int l1), .val (.int t1), .val (.int t2), .val (.ref b73), .val (.ref b74), .unset, .unset, .unset, .unset] [(.int (((fi.toUInt64 >>> ((16 : Int32) &&& 0x3f).toInt64.toUInt64).toInt64).toInt32)), (.int (2 : Int32)), (.ref b74)]))
    refine Goes.st (fun t_ k_ => XS.i2b X76.here hx rfl (hb hby at_83) rfl k_) ?_
    show Goes p e below s _ _ _ (T76.setTop (mkF m 84 #[.val (.int md), .val (.int sp), .val (.int tg), .val (.long fi), .second, .val (.int mm), .val (.int lf), .val (.int l1), .val (.int t1), .val (.int t2), .val (.ref b73), .val (.ref b74), .unset, .unset, .unset, .unset] [(.int ((((fi.toUInt64 >>> ((16 : Int32) &&& 0x3f).toInt64.toUInt64).toInt64).toInt32).toInt8.toInt32)), (.int (2 : Int32)), (.ref b74)]))
    obtain ⟨cl77, Ar77, q77, S77, M77, H77, G77⟩ := V_b74
    obtain ⟨T77, h77, X77, e77, W77, st77⟩ := stB X76 hx hZ e76 Ar77 (j := (2 : Int32)) (inb_of S77 ⟨by decide, by decide⟩) (g := (mkF m 84 #[.val (.int md), .val (.int sp), .val (.int tg), .val (.long fi), .second, .val (.int mm), .val (.int lf), .val (.int l1), .val (.int t1), .val (.int t2), .val (.ref b73), .val (.ref b74), .unset, .unset, .unset, .unset] [(.int ((((fi.toUInt64 >>> ((16 : Int32) &&& 0x3f).toInt64.toUInt64).toInt64).toInt32).toInt8.toInt32)), (.int (2 : Int32)), (.ref b74)])) rfl rfl (hb hby at_84)
    have V_b74 := Arv.set Ar77 q77 S77 M77 H77 G77 (fits_nar_byte _) W77 2 rfl (Nat.le_of_ble_eq_true rfl)
    refine Goes.st st77 ?_
    have V_b74 : Arv Z h77 b74 k74 .byte (6 : Int32) [(.int (nar .byte ((fi.toInt32).toInt8.toInt32))), (.int (nar .byte ((((fi.toUInt64 >>> ((8 : Int32) &&& 0x3f).toInt64.toUInt64).toInt64).toInt32).toInt8.toInt32))), (.int (nar .byte ((((fi.toUInt64 >>> ((16 : Int32) &&& 0x3f).toInt64.toUInt64).toInt64).toInt32).toInt8.toInt32))), (.int (0 : Int32)), (.int (0 : Int32)), (.int (0 : Int32))] (.int (0 : Int32)) := V_b74
    have V_b73 := V_b73.other W77 ne_b73_b74
    have N77 := Fr.snoc X77 N76 gn_b74
    have Z0''''' := Nat.le_trans Z0'''' (Keep.of_wr W77).1
    show Goes p e below s _ _ _ (T77.setTop (mkF m 85 #[.val (.int md), .val (.int sp), .val (.int tg), .val (.long fi), .second, .val (.int mm), .val (.int lf), .val (.int l1), .val (.int t1), .val (.int t2), .val (.ref b73), .val (.ref b74), .unset, .unset, .unset, .unset] []))
    refine Goes.st (fun t_ k_ => XS.aload X77.here hx rfl (hb hby at_85) rfl rfl k_) ?_
    show Goes p e below s _ _ _ (T77.setTop (mkF m 87 #[.val (.int md), .val (.int sp), .val (.int tg), .val (.long fi), .second, .val (.int mm), .val (.int lf), .val (.int l1), .val (.int t1), .val (.int t2), .val (.ref b73), .val (.ref b74), .unset, .unset, .unset, .unset] [(.ref b74)]))
    refine Goes.st (fun t_ k_ => XS.iconst X77.here hx rfl (hb hby at_87) k_) ?_
    show Goes p e below s _ _ _ (T77.setTop (mkF m 88 #[.val (.int md), .val (.int sp), .val (.int tg), .val (.long fi), .second, .val (.int mm), .val (.int lf), .val (.int l1), .val (.int t1), .val (.int t2), .val (.ref b73), .val (.ref b74), .unset, .unset, .unset, .unset] [(.int (3 : Int32)), (.ref b74)]))
    refine Goes.st (fun t_ k_ => XS.lloadN X77.here hx rfl (hb hby at_88) rfl  k_) ?_
    show Goes p e below s _ _ _ (T77.setTop (mkF m 89 #[.val (.int md), .val (.int sp), .val (.int tg), .val (.long fi), .second, .val (.int mm), .val (.int lf), .val (.int l1), .val (.int t1), .val (.int t2), .val (.ref b73), .val (.ref b74), .unset, .unset, .unset, .unset] [(.long fi), (.int (3 : Int32)), (.ref b74)]))
    refine Goes.st (fun t_ k_ => XS.bipush X77.here hx rfl (hb hby at_89) k_) ?_
    show Goes p e below s _ _ _ (T77.setTop (mkF m 91 #[.val (.int md), .val (.int sp), .val (.int tg), .val (.long fi), .second, .val (.int mm), .val (.int lf), .val (.int l1), .val (.int t1), .val (.int t2), .val (.ref b73), .val (.ref b74), .unset, .unset, .unset, .unset] [(.int (24 : Int32)), (.long fi), (.int (3 : Int32)), (.ref b74)]))
    refine Goes.st (fun t_ k_ => XS.lushr X77.here hx rfl (hb hby at_91) rfl k_) ?_
    show Goes p e below s _ _ _ (T77.setTop (mkF m 92 #[.val (.int md), .val (.int sp), .val (.int tg), .val (.long fi), .second, .val (.int mm), .val (.int lf), .val (.int l1), .val (.int t1), .val (.int t2), .val (.ref b73), .val (.ref b74), .unset, .unset, .unset, .unset] [(.long ((fi.toUInt64 >>> ((24 : Int32) &&& 0x3f).toInt64.toUInt64).toInt64)), (.int (3 : Int32)), (.ref b74)]))
    refine Goes.st (fun t_ k_ => XS.l2i X77.here hx rfl (hb hby at_92) rfl k_) ?_
    show Goes p e below s _ _ _ (T77.setTop (mkF m 93 #[.val (.int md), .val (.int sp), .val (.int tg), .val (.long fi), .second, .val (.int mm), .val (.int lf), .val (.int l1), .val (.int t1), .val (.int t2), .val (.ref b73), .val (.ref b74), .unset, .unset, .unset, .unset] [(.int (((fi.toUInt64 >>> ((24 : Int32) &&& 0x3f).toInt64.toUInt64).toInt64).toInt32)), (.int (3 : Int32)), (.ref b74)]))
    refine Goes.st (fun t_ k_ => XS.i2b X77.here hx rfl (hb hby at_93) rfl k_) ?_
    show Goes p e below s _ _ _ (T77.setTop (mkF m 94 #[.val (.int md), .val (.int sp), .val (.int tg), .val (.long fi), .second, .val (.int mm), .val (.int lf), .val (.int l1), .val (.int t1), .val (.int t2), .val (.ref b73), .val (.ref b74), .unset, .unset, .unset, .unset] [(.int ((((fi.toUInt64 >>> ((24 : Int32) &&& 0x3f).toInt64.toUInt64).toInt64).toInt32).toInt8.toInt32)), (.int (3 : Int32)), (.ref b74)]))
    obtain ⟨cl78, Ar78, q78, S78, M78, H78, G78⟩ := V_b74
    obtain ⟨T78, h78, X78, e78, W78, st78⟩ := stB X77 hx hZ e77 Ar78 (j := (3 : Int32)) (inb_of S78 ⟨by decide, by decide⟩) (g := (mkF m 94 #[.val (.int md), .val (.int sp), .val (.int tg), .val (.long fi), .second, .val (.int mm), .val (.int lf), .val (.int l1), .val (.int t1), .val (.int t2), .val (.ref b73), .val (.ref b74), .unset, .unset, .unset, .unset] [(.int ((((fi.toUInt64 >>> ((24 : Int32) &&& 0x3f).toInt64.toUInt64).toInt64).toInt32).toInt8.toInt32)), (.int (3 : Int32)), (.ref b74)])) rfl rfl (hb hby at_94)
    have V_b74 := Arv.set Ar78 q78 S78 M78 H78 G78 (fits_nar_byte _) W78 3 rfl (Nat.le_of_ble_eq_true rfl)
    refine Goes.st st78 ?_
    have V_b74 : Arv Z h78 b74 k74 .byte (6 : Int32) [(.int (nar .byte ((fi.toInt32).toInt8.toInt32))), (.int (nar .byte ((((fi.toUInt64 >>> ((8 : Int32) &&& 0x3f).toInt64.toUInt64).toInt64).toInt32).toInt8.toInt32))), (.int (nar .byte ((((fi.toUInt64 >>> ((16 : Int32) &&& 0x3f).toInt64.toUInt64).toInt64).toInt32).toInt8.toInt32))), (.int (nar .byte ((((fi.toUInt64 >>> ((24 : Int32) &&& 0x3f).toInt64.toUInt64).toInt64).toInt32).toInt8.toInt32))), (.int (0 : Int32)), (.int (0 : Int32))] (.int (0 : Int32)) := V_b74
    have V_b73 := V_b73.other W78 ne_b73_b74
    have N78 := Fr.snoc X78 N77 gn_b74
    have Z0'''''' := Nat.le_trans Z0''''' (Keep.of_wr W78).1
    show Goes p e below s _ _ _ (T78.setTop (mkF m 95 #[.val (.int md), .val (.int sp), .val (.int tg), .val (.long fi), .second, .val (.int mm), .val (.int lf), .val (.int l1), .val (.int t1), .val (.int t2), .val (.ref b73), .val (.ref b74), .unset, .unset, .unset, .unset] []))
    refine Goes.st (fun t_ k_ => XS.aload X78.here hx rfl (hb hby at_95) rfl rfl k_) ?_
    show Goes p e below s _ _ _ (T78.setTop (mkF m 97 #[.val (.int md), .val (.int sp), .val (.int tg), .val (.long fi), .second, .val (.int mm), .val (.int lf), .val (.int l1), .val (.int t1), .val (.int t2), .val (.ref b73), .val (.ref b74), .unset, .unset, .unset, .unset] [(.ref b74)]))
    refine Goes.st (fun t_ k_ => XS.iconst X78.here hx rfl (hb hby at_97) k_) ?_
    show Goes p e below s _ _ _ (T78.setTop (mkF m 98 #[.val (.int md), .val (.int sp), .val (.int tg), .val (.long fi), .second, .val (.int mm), .val (.int lf), .val (.int l1), .val (.int t1), .val (.int t2), .val (.ref b73), .val (.ref b74), .unset, .unset, .unset, .unset] [(.int (4 : Int32)), (.ref b74)]))
    refine Goes.st (fun t_ k_ => XS.lloadN X78.here hx rfl (hb hby at_98) rfl  k_) ?_
    show Goes p e below s _ _ _ (T78.setTop (mkF m 99 #[.val (.int md), .val (.int sp), .val (.int tg), .val (.long fi), .second, .val (.int mm), .val (.int lf), .val (.int l1), .val (.int t1), .val (.int t2), .val (.ref b73), .val (.ref b74), .unset, .unset, .unset, .unset] [(.long fi), (.int (4 : Int32)), (.ref b74)]))
    refine Goes.st (fun t_ k_ => XS.bipush X78.here hx rfl (hb hby at_99) k_) ?_
    show Goes p e below s _ _ _ (T78.setTop (mkF m 101 #[.val (.int md), .val (.int sp), .val (.int tg), .val (.long fi), .second, .val (.int mm), .val (.int lf), .val (.int l1), .val (.int t1), .val (.int t2), .val (.ref b73), .val (.ref b74), .unset, .unset, .unset, .unset] [(.int (32 : Int32)), (.long fi), (.int (4 : Int32)), (.ref b74)]))
    refine Goes.st (fun t_ k_ => XS.lushr X78.here hx rfl (hb hby at_101) rfl k_) ?_
    show Goes p e below s _ _ _ (T78.setTop (mkF m 102 #[.val (.int md), .val (.int sp), .val (.int tg), .val (.long fi), .second, .val (.int mm), .val (.int lf), .val (.int l1), .val (.int t1), .val (.int t2), .val (.ref b73), .val (.ref b74), .unset, .unset, .unset, .unset] [(.long ((fi.toUInt64 >>> ((32 : Int32) &&& 0x3f).toInt64.toUInt64).toInt64)), (.int (4 : Int32)), (.ref b74)]))
    refine Goes.st (fun t_ k_ => XS.l2i X78.here hx rfl (hb hby at_102) rfl k_) ?_
    show Goes p e below s _ _ _ (T78.setTop (mkF m 103 #[.val (.int md), .val (.int sp), .val (.int tg), .val (.long fi), .second, .val (.int mm), .val (.int lf), .val (.int l1), .val (.int t1), .val (.int t2), .val (.ref b73), .val (.ref b74), .unset, .unset, .unset, .unset] [(.int (((fi.toUInt64 >>> ((32 : Int32) &&& 0x3f).toInt64.toUInt64).toInt64).toInt32)), (.int (4 : Int32)), (.ref b74)]))
    refine Goes.st (fun t_ k_ => XS.i2b X78.here hx rfl (hb hby at_103) rfl k_) ?_
    show Goes p e below s _ _ _ (T78.setTop (mkF m 104 #[.val (.int md), .val (.int sp), .val (.int tg), .val (.long fi), .second, .val (.int mm), .val (.int lf), .val (.int l1), .val (.int t1), .val (.int t2), .val (.ref b73), .val (.ref b74), .unset, .unset, .unset, .unset] [(.int ((((fi.toUInt64 >>> ((32 : Int32) &&& 0x3f).toInt64.toUInt64).toInt64).toInt32).toInt8.toInt32)), (.int (4 : Int32)), (.ref b74)]))
    obtain ⟨cl79, Ar79, q79, S79, M79, H79, G79⟩ := V_b74
    obtain ⟨T79, h79, X79, e79, W79, st79⟩ := stB X78 hx hZ e78 Ar79 (j := (4 : Int32)) (inb_of S79 ⟨by decide, by decide⟩) (g := (mkF m 104 #[.val (.int md), .val (.int sp), .val (.int tg), .val (.long fi), .second, .val (.int mm), .val (.int lf), .val (.int l1), .val (.int t1), .val (.int t2), .val (.ref b73), .val (.ref b74), .unset, .unset, .unset, .unset] [(.int ((((fi.toUInt64 >>> ((32 : Int32) &&& 0x3f).toInt64.toUInt64).toInt64).toInt32).toInt8.toInt32)), (.int (4 : Int32)), (.ref b74)])) rfl rfl (hb hby at_104)
    have V_b74 := Arv.set Ar79 q79 S79 M79 H79 G79 (fits_nar_byte _) W79 4 rfl (Nat.le_of_ble_eq_true rfl)
    refine Goes.st st79 ?_
    have V_b74 : Arv Z h79 b74 k74 .byte (6 : Int32) [(.int (nar .byte ((fi.toInt32).toInt8.toInt32))), (.int (nar .byte ((((fi.toUInt64 >>> ((8 : Int32) &&& 0x3f).toInt64.toUInt64).toInt64).toInt32).toInt8.toInt32))), (.int (nar .byte ((((fi.toUInt64 >>> ((16 : Int32) &&& 0x3f).toInt64.toUInt64).toInt64).toInt32).toInt8.toInt32))), (.int (nar .byte ((((fi.toUInt64 >>> ((24 : Int32) &&& 0x3f).toInt64.toUInt64).toInt64).toInt32).toInt8.toInt32))), (.int (nar .byte ((((fi.toUInt64 >>> ((32 : Int32) &&& 0x3f).toInt64.toUInt64).toInt64).toInt32).toInt8.toInt32))), (.int (0 : Int32))] (.int (0 : Int32)) := V_b74
    have V_b73 := V_b73.other W79 ne_b73_b74
    have N79 := Fr.snoc X79 N78 gn_b74
    have Z0''''''' := Nat.le_trans Z0'''''' (Keep.of_wr W79).1
    show Goes p e below s _ _ _ (T79.setTop (mkF m 105 #[.val (.int md), .val (.int sp), .val (.int tg), .val (.long fi), .second, .val (.int mm), .val (.int lf), .val (.int l1), .val (.int t1), .val (.int t2), .val (.ref b73), .val (.ref b74), .unset, .unset, .unset, .unset] []))
    refine Goes.st (fun t_ k_ => XS.aload X79.here hx rfl (hb hby at_105) rfl rfl k_) ?_
    show Goes p e below s _ _ _ (T79.setTop (mkF m 107 #[.val (.int md), .val (.int sp), .val (.int tg), .val (.long fi), .second, .val (.int mm), .val (.int lf), .val (.int l1), .val (.int t1), .val (.int t2), .val (.ref b73), .val (.ref b74), .unset, .unset, .unset, .unset] [(.ref b74)]))
    refine Goes.st (fun t_ k_ => XS.iconst X79.here hx rfl (hb hby at_107) k_) ?_
    show Goes p e below s _ _ _ (T79.setTop (mkF m 108 #[.val (.int md), .val (.int sp), .val (.int tg), .val (.long fi), .second, .val (.int mm), .val (.int lf), .val (.int l1), .val (.int t1), .val (.int t2), .val (.ref b73), .val (.ref b74), .unset, .unset, .unset, .unset] [(.int (5 : Int32)), (.ref b74)]))
    refine Goes.st (fun t_ k_ => XS.lloadN X79.here hx rfl (hb hby at_108) rfl  k_) ?_
    show Goes p e below s _ _ _ (T79.setTop (mkF m 109 #[.val (.int md), .val (.int sp), .val (.int tg), .val (.long fi), .second, .val (.int mm), .val (.int lf), .val (.int l1), .val (.int t1), .val (.int t2), .val (.ref b73), .val (.ref b74), .unset, .unset, .unset, .unset] [(.long fi), (.int (5 : Int32)), (.ref b74)]))
    refine Goes.st (fun t_ k_ => XS.bipush X79.here hx rfl (hb hby at_109) k_) ?_
    show Goes p e below s _ _ _ (T79.setTop (mkF m 111 #[.val (.int md), .val (.int sp), .val (.int tg), .val (.long fi), .second, .val (.int mm), .val (.int lf), .val (.int l1), .val (.int t1), .val (.int t2), .val (.ref b73), .val (.ref b74), .unset, .unset, .unset, .unset] [(.int (40 : Int32)), (.long fi), (.int (5 : Int32)), (.ref b74)]))
    refine Goes.st (fun t_ k_ => XS.lushr X79.here hx rfl (hb hby at_111) rfl k_) ?_
    show Goes p e below s _ _ _ (T79.setTop (mkF m 112 #[.val (.int md), .val (.int sp), .val (.int tg), .val (.long fi), .second, .val (.int mm), .val (.int lf), .val (.int l1), .val (.int t1), .val (.int t2), .val (.ref b73), .val (.ref b74), .unset, .unset, .unset, .unset] [(.long ((fi.toUInt64 >>> ((40 : Int32) &&& 0x3f).toInt64.toUInt64).toInt64)), (.int (5 : Int32)), (.ref b74)]))
    refine Goes.st (fun t_ k_ => XS.l2i X79.here hx rfl (hb hby at_112) rfl k_) ?_
    show Goes p e below s _ _ _ (T79.setTop (mkF m 113 #[.val (.int md), .val (.int sp), .val (.int tg), .val (.long fi), .second, .val (.int mm), .val (.int lf), .val (.int l1), .val (.int t1), .val (.int t2), .val (.ref b73), .val (.ref b74), .unset, .unset, .unset, .unset] [(.int (((fi.toUInt64 >>> ((40 : Int32) &&& 0x3f).toInt64.toUInt64).toInt64).toInt32)), (.int (5 : Int32)), (.ref b74)]))
    refine Goes.st (fun t_ k_ => XS.i2b X79.here hx rfl (hb hby at_113) rfl k_) ?_
    show Goes p e below s _ _ _ (T79.setTop (mkF m 114 #[.val (.int md), .val (.int sp), .val (.int tg), .val (.long fi), .second, .val (.int mm), .val (.int lf), .val (.int l1), .val (.int t1), .val (.int t2), .val (.ref b73), .val (.ref b74), .unset, .unset, .unset, .unset] [(.int ((((fi.toUInt64 >>> ((40 : Int32) &&& 0x3f).toInt64.toUInt64).toInt64).toInt32).toInt8.toInt32)), (.int (5 : Int32)), (.ref b74)]))
    obtain ⟨cl80, Ar80, q80, S80, M80, H80, G80⟩ := V_b74
    obtain ⟨T80, h80, X80, e80, W80, st80⟩ := stB X79 hx hZ e79 Ar80 (j := (5 : Int32)) (inb_of S80 ⟨by decide, by decide⟩) (g := (mkF m 114 #[.val (.int md), .val (.int sp), .val (.int tg), .val (.long fi), .second, .val (.int mm), .val (.int lf), .val (.int l1), .val (.int t1), .val (.int t2), .val (.ref b73), .val (.ref b74), .unset, .unset, .unset, .unset] [(.int ((((fi.toUInt64 >>> ((40 : Int32) &&& 0x3f).toInt64.toUInt64).toInt64).toInt32).toInt8.toInt32)), (.int (5 : Int32)), (.ref b74)])) rfl rfl (hb hby at_114)
    have V_b74 := Arv.set Ar80 q80 S80 M80 H80 G80 (fits_nar_byte _) W80 5 rfl (Nat.le_of_ble_eq_true rfl)
    refine Goes.st st80 ?_
    have V_b74 : Arv Z h80 b74 k74 .byte (6 : Int32) [(.int (nar .byte ((fi.toInt32).toInt8.toInt32))), (.int (nar .byte ((((fi.toUInt64 >>> ((8 : Int32) &&& 0x3f).toInt64.toUInt64).toInt64).toInt32).toInt8.toInt32))), (.int (nar .byte ((((fi.toUInt64 >>> ((16 : Int32) &&& 0x3f).toInt64.toUInt64).toInt64).toInt32).toInt8.toInt32))), (.int (nar .byte ((((fi.toUInt64 >>> ((24 : Int32) &&& 0x3f).toInt64.toUInt64).toInt64).toInt32).toInt8.toInt32))), (.int (nar .byte ((((fi.toUInt64 >>> ((32 : Int32) &&& 0x3f).toInt64.toUInt64).toInt64).toInt32).toInt8.toInt32))), (.int (nar .byte ((((fi.toUInt64 >>> ((40 : Int32) &&& 0x3f).toInt64.toUInt64).toInt64).toInt32).toInt8.toInt32)))] (.int (0 : Int32)) := V_b74
    have V_b73 := V_b73.other W80 ne_b73_b74
    have N80 := Fr.snoc X80 N79 gn_b74
    have Z0'''''''' := Nat.le_trans Z0''''''' (Keep.of_wr W80).1
    show Goes p e below s _ _ _ (T80.setTop (mkF m 115 #[.val (.int md), .val (.int sp), .val (.int tg), .val (.long fi), .second, .val (.int mm), .val (.int lf), .val (.int l1), .val (.int t1), .val (.int t2), .val (.ref b73), .val (.ref b74), .unset, .unset, .unset, .unset] []))
    have hj2 : ∀ (T81 : State) (h81 : Heap) (L81 : List Loc) (f0 f1 f2 f3 f4 f5 : Int32) (X81 : Stand p l e room_1 s m #[(.int md), (.int sp), (.int tg), (.long fi)] below meth c T81 L81 2 6) (e81 : T81.heap = h81) (N81 : Fr n0 L81) (Z81 : n0 ≤ h81.size) (V_b73 : Arv Z h81 b73 k73 .byte (0 : Int32) [] (.int (0 : Int32))) (V_b74 : Arv Z h81 b74 k74 .byte (6 : Int32) [(.int f0), (.int f1), (.int f2), (.int f3), (.int f4), (.int f5)] (.int (0 : Int32))), Goes p e below s (own_Q0 Z  h0 n0) (5) (19) (T81.setTop (mkF m 115 #[.val (.int md), .val (.int sp), .val (.int tg), .val (.long fi), .second, .val (.int mm), .val (.int lf), .val (.int l1), .val (.int t1), .val (.int t2), .val (.ref b73), .val (.ref b74), .unset, .unset, .unset, .unset] [])) := by
      intro T81 h81 L81 f0 f1 f2 f3 f4 f5 X81 e81 N81 Z81 V_b73 V_b74    
      rcases hmm with rfl | rfl | rfl
      · show Goes p e below s _ _ _ (T81.setTop (mkF m 115 #[.val (.int md), .val (.int sp), .val (.int tg), .val (.long fi), .second, .val (.int (0 : Int32)), .val (.int lf), .val (.int l1), .val (.int t1), .val (.int t2), .val (.ref b73), .val (.ref b74), .unset, .unset, .unset, .unset] []))
        refine Goes.st (fun t_ k_ => XS.iload X81.here hx rfl (hb hby at_115) rfl  k_) ?_
        show Goes p e below s _ _ _ (T81.setTop (mkF m 117 #[.val (.int md), .val (.int sp), .val (.int tg), .val (.long fi), .second, .val (.int (0 : Int32)), .val (.int lf), .val (.int l1), .val (.int t1), .val (.int t2), .val (.ref b73), .val (.ref b74), .unset, .unset, .unset, .unset] [(.int (0 : Int32))]))
        refine Goes.st (fun t_ k_ => XS.iconst X81.here hx rfl (hb hby at_117) k_) ?_
        show Goes p e below s _ _ _ (T81.setTop (mkF m 118 #[.val (.int md), .val (.int sp), .val (.int tg), .val (.long fi), .second, .val (.int (0 : Int32)), .val (.int lf), .val (.int l1), .val (.int t1), .val (.int t2), .val (.ref b73), .val (.ref b74), .unset, .unset, .unset, .unset] [(.int (1 : Int32)), (.int (0 : Int32))]))
        refine Goes.st (fun t_ k_ => XS.icmpYes X81.here hx rfl (pc0 := 118) (pc' := 155) rfl (hb hby at_118) rfl (feq (by decide)).2 (by decide) (by decide) k_) ?_
        show Goes p e below s _ _ _ (T81.setTop (mkF m 155 #[.val (.int md), .val (.int sp), .val (.int tg), .val (.long fi), .second, .val (.int (0 : Int32)), .val (.int lf), .val (.int l1), .val (.int t1), .val (.int t2), .val (.ref b73), .val (.ref b74), .unset, .unset, .unset, .unset] []))
        refine Goes.st (fun t_ k_ => XS.iload X81.here hx rfl (hb hby at_155) rfl  k_) ?_
        show Goes p e below s _ _ _ (T81.setTop (mkF m 157 #[.val (.int md), .val (.int sp), .val (.int tg), .val (.long fi), .second, .val (.int (0 : Int32)), .val (.int lf), .val (.int l1), .val (.int t1), .val (.int t2), .val (.ref b73), .val (.ref b74), .unset, .unset, .unset, .unset] [(.int (0 : Int32))]))
        refine Goes.st (fun t_ k_ => XS.iconst X81.here hx rfl (hb hby at_157) k_) ?_
        show Goes p e below s _ _ _ (T81.setTop (mkF m 158 #[.val (.int md), .val (.int sp), .val (.int tg), .val (.long fi), .second, .val (.int (0 : Int32)), .val (.int lf), .val (.int l1), .val (.int t1), .val (.int t2), .val (.ref b73), .val (.ref b74), .unset, .unset, .unset, .unset] [(.int (2 : Int32)), (.int (0 : Int32))]))
        refine Goes.st (fun t_ k_ => XS.icmpYes X81.here hx rfl (pc0 := 158) (pc' := 197) rfl (hb hby at_158) rfl (feq (by decide)).2 (by decide) (by decide) k_) ?_
        show Goes p e below s _ _ _ (T81.setTop (mkF m 197 #[.val (.int md), .val (.int sp), .val (.int tg), .val (.long fi), .second, .val (.int (0 : Int32)), .val (.int lf), .val (.int l1), .val (.int t1), .val (.int t2), .val (.ref b73), .val (.ref b74), .unset, .unset, .unset, .unset] []))
        obtain ⟨T82, h82, X82, e82, E82, A82, D82, -, st82⟩ := newO X81 hx hZ hown (hw _ (List.mem_of_getElem? (i := 6) rfl)) (hw _ (List.mem_of_getElem? (i := 7) rfl)) (hw _ (List.mem_of_getElem? (i := 8) rfl)) e81 (g := (mkF m 197 #[.val (.int md), .val (.int sp), .val (.int tg), .val (.long fi), .second, .val (.int (0 : Int32)), .val (.int lf), .val (.int l1), .val (.int t1), .val (.int t2), .val (.ref b73), .val (.ref b74), .unset, .unset, .unset, .unset] [])) rfl (hb hby at_197) (by decide) (by decide)
        obtain ⟨b82, g82⟩ : ∃ z, z = h81.size := ⟨_, rfl⟩
        rw [← g82] at A82 D82 st82
        have ne_b73_b82 : b73 ≠ b82 := Nat.ne_of_lt (Nat.lt_of_lt_of_le V_b73.lt (Nat.le_of_eq g82.symm))
        have ne_b74_b82 : b74 ≠ b82 := Nat.ne_of_lt (Nat.lt_of_lt_of_le V_b74.lt (Nat.le_of_eq g82.symm))
        have gn_b82 : n0 ≤ b82 := Nat.le_trans Z81 (Nat.le_of_eq g82.symm)
        refine Goes.st st82 ?_
        have V_b73 := V_b73.ext E82
        have V_b74 := V_b74.ext E82
        have Z81' := Nat.le_trans Z81 E82.1
        have Ex_b82 := A82
        have F_bytes_b82 : Fld Z h82 b82 "com/example/torniquete/torniquete/core/DerReader" "bytes" "[B" .null := D82 (Or.inr (hw _ (List.mem_of_getElem? (i := 19) rfl))) (ty := (.array .byte)) (by decide)
        have F_position_b82 : Fld Z h82 b82 "com/example/torniquete/torniquete/core/DerReader" "position" "I" (.int (0 : Int32)) := D82 (Or.inl (hw _ (List.mem_of_getElem? (i := 21) rfl))) (ty := .int) (by decide)
        have F_end_b82 : Fld Z h82 b82 "com/example/torniquete/torniquete/core/DerReader" "end" "I" (.int (0 : Int32)) := D82 (Or.inr (hw _ (List.mem_of_getElem? (i := 23) rfl))) (ty := .int) (by decide)
        show Goes p e below s _ _ _ (T82.setTop (mkF m 200 #[.val (.int md), .val (.int sp), .val (.int tg), .val (.long fi), .second, .val (.int (0 : Int32)), .val (.int lf), .val (.int l1), .val (.int t1), .val (.int t2), .val (.ref b73), .val (.ref b74), .unset, .unset, .unset, .unset] [(.ref b82)]))
        refine Goes.st (fun t_ k_ => XS.dup X82.here hx rfl (hb hby at_200) rfl rfl k_) ?_
        show Goes p e below s _ _ _ (T82.setTop (mkF m 201 #[.val (.int md), .val (.int sp), .val (.int tg), .val (.long fi), .second, .val (.int (0 : Int32)), .val (.int lf), .val (.int l1), .val (.int t1), .val (.int t2), .val (.ref b73), .val (.ref b74), .unset, .unset, .unset, .unset] [(.ref b82), (.ref b82)]))
        refine Goes.st (fun t_ k_ => XS.iload X82.here hx rfl (hb hby at_201) rfl  k_) ?_
        show Goes p e below s _ _ _ (T82.setTop (mkF m 203 #[.val (.int md), .val (.int sp), .val (.int tg), .val (.long fi), .second, .val (.int (0 : Int32)), .val (.int lf), .val (.int l1), .val (.int t1), .val (.int t2), .val (.ref b73), .val (.ref b74), .unset, .unset, .unset, .unset] [(.int (0 : Int32)), (.ref b82), (.ref b82)]))
        refine Goes.st (fun t_ k_ => XS.ifNo X82.here hx rfl (hb hby at_203) rfl ((if0 _ _).trans (teq (by decide)).2) k_) ?_
        show Goes p e below s _ _ _ (T82.setTop (mkF m 206 #[.val (.int md), .val (.int sp), .val (.int tg), .val (.long fi), .second, .val (.int (0 : Int32)), .val (.int lf), .val (.int l1), .val (.int t1), .val (.int t2), .val (.ref b73), .val (.ref b74), .unset, .unset, .unset, .unset] [(.ref b82), (.ref b82)]))
        refine Goes.st (fun t_ k_ => XS.aload X82.here hx rfl (hb hby at_206) rfl rfl k_) ?_
        show Goes p e below s _ _ _ (T82.setTop (mkF m 208 #[.val (.int md), .val (.int sp), .val (.int tg), .val (.long fi), .second, .val (.int (0 : Int32)), .val (.int lf), .val (.int l1), .val (.int t1), .val (.int t2), .val (.ref b73), .val (.ref b74), .unset, .unset, .unset, .unset] [(.ref b73), (.ref b82), (.ref b82)]))
        refine Goes.st (fun t_ k_ => XS.goto X82.here hx rfl (pc0 := 208) (pc' := 213) rfl (hb hby at_208) (by decide) (by decide) k_) ?_
        show Goes p e below s _ _ _ (T82.setTop (mkF m 213 #[.val (.int md), .val (.int sp), .val (.int tg), .val (.long fi), .second, .val (.int (0 : Int32)), .val (.int lf), .val (.int l1), .val (.int t1), .val (.int t2), .val (.ref b73), .val (.ref b74), .unset, .unset, .unset, .unset] [(.ref b73), (.ref b82), (.ref b82)]))
        obtain ⟨_, _, ⟨T83, L83, k83, n83⟩, -, X83, ⟨Lc83, hQ83, l83, y83, z83⟩, st83⟩ := X82.specialBack hx (y := (⟨"com/example/torniquete/torniquete/core/DerReader", "<init>", "([B)V"⟩ : MethodName)) rfl hown (mvT hZ (hw _ (List.mem_of_getElem? (i := 9) rfl))) (mvT hZ (hw _ (List.mem_of_getElem? (i := 10) rfl))) (mvT hZ (hw _ (List.mem_of_getElem? (i := 11) rfl))) (by decide) (backOf (W := 1) (own_rmI1 l Z a0 hw [] b82 b73 k73 (0 : Int32) _ h82 n0 Z81' Ex_b82 F_bytes_b82 F_position_b82 F_end_b82 V_b73 gn_b82) hZ (hw _ (List.mem_of_getElem? (i := 11) rfl)) (hw _ (List.mem_of_getElem? (i := 8) rfl)) (by decide) (by decide)) (g := (mkF m 213 #[.val (.int md), .val (.int sp), .val (.int tg), .val (.long fi), .second, .val (.int (0 : Int32)), .val (.int lf), .val (.int l1), .val (.int t1), .val (.int t2), .val (.ref b73), .val (.ref b74), .unset, .unset, .unset, .unset] [(.ref b73), (.ref b82), (.ref b82)])) rfl (by rw [hml]; rfl) (Steps.refl _) (a := b82) (argsL := [(.ref b73)]) (rest := [(.ref b82)]) (lenOf own_pd196 rfl) rfl (by show 2 * 0 + _ ≤ _; exact Nat.le_of_eq rfl) (hb hby at_213) (fun _ _ => ⟨rfl, e82, (by decide : 3 + 0 ≤ _), (by decide : 9 + 0 ≤ _)⟩)
        dsimp only [Pt.U, Pt.locs, Pt.cells, Pt.slots] at X83 l83 y83 z83 st83 hQ83
        subst l83 y83 z83
        obtain ⟨rfl, N83q, KI, HR⟩ := hQ83
        have N83 := Fr.app N81 N83q
        refine Goes.tr st83 ?_
        have V_b73 := V_b73.keep KI (ninS ne_b73_b82 nin0)
        have V_b74 := V_b74.keep KI (ninS ne_b74_b82 nin0)
        have Z81'' := Nat.le_trans Z81' KI.1
        have HR' := HR
        obtain ⟨E_b82, Fb_b82, Fp_b82, Fe_b82⟩ := HR'
        show Goes p e below s _ _ _ (T83.setTop (mkF m 216 #[.val (.int md), .val (.int sp), .val (.int tg), .val (.long fi), .second, .val (.int (0 : Int32)), .val (.int lf), .val (.int l1), .val (.int t1), .val (.int t2), .val (.ref b73), .val (.ref b74), .unset, .unset, .unset, .unset] [(.ref b82)]))
        refine Goes.st (fun t_ k_ => XS.astore X83.here hx rfl (hb hby at_216) rfl rfl (l' := #[.val (.int md), .val (.int sp), .val (.int tg), .val (.long fi), .second, .val (.int (0 : Int32)), .val (.int lf), .val (.int l1), .val (.int t1), .val (.int t2), .val (.ref b73), .val (.ref b74), .val (.ref b82), .unset, .unset, .unset]) rfl k_) ?_
        show Goes p e below s _ _ _ (T83.setTop (mkF m 218 #[.val (.int md), .val (.int sp), .val (.int tg), .val (.long fi), .second, .val (.int (0 : Int32)), .val (.int lf), .val (.int l1), .val (.int t1), .val (.int t2), .val (.ref b73), .val (.ref b74), .val (.ref b82), .unset, .unset, .unset] []))
        refine Goes.st (fun t_ k_ => XS.aload X83.here hx rfl (hb hby at_218) rfl rfl k_) ?_
        show Goes p e below s _ _ _ (T83.setTop (mkF m 220 #[.val (.int md), .val (.int sp), .val (.int tg), .val (.long fi), .second, .val (.int (0 : Int32)), .val (.int lf), .val (.int l1), .val (.int t1), .val (.int t2), .val (.ref b73), .val (.ref b74), .val (.ref b82), .unset, .unset, .unset] [(.ref b82)]))
        obtain ⟨cq84, kq84, q84a, q84b, q84c⟩ := isOf hZ rfl E_b82
        obtain ⟨_, _, ⟨T84, L84, k84, n84⟩, -, X84, ⟨Lc84, hQ84, l84, y84, z84⟩, st84⟩ := X83.virtualBack hx (y := (⟨"com/example/torniquete/torniquete/core/DerReader", "hasNext", "()Z"⟩ : MethodName)) (z := (⟨"com/example/torniquete/torniquete/core/DerReader", "hasNext", "()Z"⟩ : MethodName)) hown (mvT hZ (hw _ (List.mem_of_getElem? (i := 24) rfl))) (mvT hZ (hw _ (List.mem_of_getElem? (i := 25) rfl))) (notFace_of_selects (args := #[]) (mvT hZ (hw _ (List.mem_of_getElem? (i := 27) rfl)))) (mvT hZ (hw _ (List.mem_of_getElem? (i := 27) rfl))) (mvT hZ (hw _ (List.mem_of_getElem? (i := 26) rfl))) (by decide) (backOf (W := 0) (own_rmH l Z a0 hw [] b82 b73 0 0 false T83.heap n0 Z81'' HR (by decide)) hZ (hw _ (List.mem_of_getElem? (i := 28) rfl)) (hw _ (List.mem_of_getElem? (i := 8) rfl)) (by decide) (by decide)) q84a q84c (g := (mkF m 220 #[.val (.int md), .val (.int sp), .val (.int tg), .val (.long fi), .second, .val (.int (0 : Int32)), .val (.int lf), .val (.int l1), .val (.int t1), .val (.int t2), .val (.ref b73), .val (.ref b74), .val (.ref b82), .unset, .unset, .unset] [(.ref b82)])) rfl (by rw [hml]; rfl) (Steps.refl _) (argsL := []) (rest := []) (lenOf own_pd66 rfl) rfl (by show 2 * 0 + _ ≤ _; exact Nat.le_of_eq rfl) (hb hby at_220) (fun _ _ => ⟨rfl, rfl, (by decide : 3 + 0 ≤ _), (by decide : 9 + 0 ≤ _)⟩)
        dsimp only [Pt.U, Pt.locs, Pt.cells, Pt.slots] at X84 l84 y84 z84 st84 hQ84
        subst l84 y84 z84
        obtain ⟨rfl, N84q, EQ3⟩ := hQ84
        have N84 := Fr.app N83 N84q
        refine Goes.tr st84 ?_
        show Goes p e below s _ _ _ (T84.setTop (mkF m 223 #[.val (.int md), .val (.int sp), .val (.int tg), .val (.long fi), .second, .val (.int (0 : Int32)), .val (.int lf), .val (.int l1), .val (.int t1), .val (.int t2), .val (.ref b73), .val (.ref b74), .val (.ref b82), .unset, .unset, .unset] [(.int (own_bI false))]))
        refine Goes.st (fun t_ k_ => XS.istore X84.here hx rfl (hb hby at_223) rfl  (l' := #[.val (.int md), .val (.int sp), .val (.int tg), .val (.long fi), .second, .val (.int (0 : Int32)), .val (.int lf), .val (.int l1), .val (.int t1), .val (.int t2), .val (.ref b73), .val (.ref b74), .val (.ref b82), .val (.int (own_bI false)), .unset, .unset]) rfl k_) ?_
        show Goes p e below s _ _ _ (T84.setTop (mkF m 225 #[.val (.int md), .val (.int sp), .val (.int tg), .val (.long fi), .second, .val (.int (0 : Int32)), .val (.int lf), .val (.int l1), .val (.int t1), .val (.int t2), .val (.ref b73), .val (.ref b74), .val (.ref b82), .val (.int (own_bI false)), .unset, .unset] []))
        refine Goes.st (fun t_ k_ => XS.aload X84.here hx rfl (hb hby at_225) rfl rfl k_) ?_
        show Goes p e below s _ _ _ (T84.setTop (mkF m 227 #[.val (.int md), .val (.int sp), .val (.int tg), .val (.long fi), .second, .val (.int (0 : Int32)), .val (.int lf), .val (.int l1), .val (.int t1), .val (.int t2), .val (.ref b73), .val (.ref b74), .val (.ref b82), .val (.int (own_bI false)), .unset, .unset] [(.ref b82)]))
        obtain ⟨cq85, kq85, q85a, q85b, q85c⟩ := isOf hZ EQ3 E_b82
        obtain ⟨_, _, ⟨T85, L85, k85, n85⟩, -, X85, ⟨Lc85, hQ85, l85, y85, z85⟩, st85⟩ := X84.virtualBack hx (y := (⟨"com/example/torniquete/torniquete/core/DerReader", "hasNext", "()Z"⟩ : MethodName)) (z := (⟨"com/example/torniquete/torniquete/core/DerReader", "hasNext", "()Z"⟩ : MethodName)) hown (mvT hZ (hw _ (List.mem_of_getElem? (i := 24) rfl))) (mvT hZ (hw _ (List.mem_of_getElem? (i := 25) rfl))) (notFace_of_selects (args := #[]) (mvT hZ (hw _ (List.mem_of_getElem? (i := 27) rfl)))) (mvT hZ (hw _ (List.mem_of_getElem? (i := 27) rfl))) (mvT hZ (hw _ (List.mem_of_getElem? (i := 26) rfl))) (by decide) (backOf (W := 0) (own_rmH l Z a0 hw [] b82 b73 0 0 false T83.heap n0 Z81'' HR (by decide)) hZ (hw _ (List.mem_of_getElem? (i := 28) rfl)) (hw _ (List.mem_of_getElem? (i := 8) rfl)) (by decide) (by decide)) q85a q85c (g := (mkF m 227 #[.val (.int md), .val (.int sp), .val (.int tg), .val (.long fi), .second, .val (.int (0 : Int32)), .val (.int lf), .val (.int l1), .val (.int t1), .val (.int t2), .val (.ref b73), .val (.ref b74), .val (.ref b82), .val (.int (own_bI false)), .unset, .unset] [(.ref b82)])) rfl (by rw [hml]; rfl) (Steps.refl _) (argsL := []) (rest := []) (lenOf own_pd66 rfl) rfl (by show 2 * 0 + _ ≤ _; exact Nat.le_of_eq rfl) (hb hby at_227) (fun _ _ => ⟨rfl, EQ3, (by decide : 3 + 0 ≤ _), (by decide : 9 + 0 ≤ _)⟩)
        dsimp only [Pt.U, Pt.locs, Pt.cells, Pt.slots] at X85 l85 y85 z85 st85 hQ85
        subst l85 y85 z85
        obtain ⟨rfl, N85q, EQ4⟩ := hQ85
        have N85 := Fr.app N84 N85q
        refine Goes.tr st85 ?_
        show Goes p e below s _ _ _ (T85.setTop (mkF m 230 #[.val (.int md), .val (.int sp), .val (.int tg), .val (.long fi), .second, .val (.int (0 : Int32)), .val (.int lf), .val (.int l1), .val (.int t1), .val (.int t2), .val (.ref b73), .val (.ref b74), .val (.ref b82), .val (.int (own_bI false)), .unset, .unset] [(.int (own_bI false))]))
        refine Goes.st (fun t_ k_ => XS.istore X85.here hx rfl (hb hby at_230) rfl  (l' := #[.val (.int md), .val (.int sp), .val (.int tg), .val (.long fi), .second, .val (.int (0 : Int32)), .val (.int lf), .val (.int l1), .val (.int t1), .val (.int t2), .val (.ref b73), .val (.ref b74), .val (.ref b82), .val (.int (own_bI false)), .val (.int (own_bI false)), .unset]) rfl k_) ?_
        show Goes p e below s _ _ _ (T85.setTop (mkF m 232 #[.val (.int md), .val (.int sp), .val (.int tg), .val (.long fi), .second, .val (.int (0 : Int32)), .val (.int lf), .val (.int l1), .val (.int t1), .val (.int t2), .val (.ref b73), .val (.ref b74), .val (.ref b82), .val (.int (own_bI false)), .val (.int (own_bI false)), .unset] []))
        refine Goes.st (fun t_ k_ => XS.iload X85.here hx rfl (hb hby at_232) rfl  k_) ?_
        show Goes p e below s _ _ _ (T85.setTop (mkF m 234 #[.val (.int md), .val (.int sp), .val (.int tg), .val (.long fi), .second, .val (.int (0 : Int32)), .val (.int lf), .val (.int l1), .val (.int t1), .val (.int t2), .val (.ref b73), .val (.ref b74), .val (.ref b82), .val (.int (own_bI false)), .val (.int (own_bI false)), .unset] [(.int (0 : Int32))]))
        refine Goes.st (fun t_ k_ => XS.ifNo X85.here hx rfl (hb hby at_234) rfl ((if0 _ _).trans (teq (by decide)).2) k_) ?_
        show Goes p e below s _ _ _ (T85.setTop (mkF m 237 #[.val (.int md), .val (.int sp), .val (.int tg), .val (.long fi), .second, .val (.int (0 : Int32)), .val (.int lf), .val (.int l1), .val (.int t1), .val (.int t2), .val (.ref b73), .val (.ref b74), .val (.ref b82), .val (.int (own_bI false)), .val (.int (own_bI false)), .unset] []))
        refine Goes.st (fun t_ k_ => XS.iload X85.here hx rfl (hb hby at_237) rfl  k_) ?_
        show Goes p e below s _ _ _ (T85.setTop (mkF m 239 #[.val (.int md), .val (.int sp), .val (.int tg), .val (.long fi), .second, .val (.int (0 : Int32)), .val (.int lf), .val (.int l1), .val (.int t1), .val (.int t2), .val (.ref b73), .val (.ref b74), .val (.ref b82), .val (.int (own_bI false)), .val (.int (own_bI false)), .unset] [(.int (own_bI false))]))
        refine Goes.st (fun t_ k_ => XS.ifNo X85.here hx rfl (hb hby at_239) rfl ((if0 _ _).trans (teq (by decide)).2) k_) ?_
        show Goes p e below s _ _ _ (T85.setTop (mkF m 242 #[.val (.int md), .val (.int sp), .val (.int tg), .val (.long fi), .second, .val (.int (0 : Int32)), .val (.int lf), .val (.int l1), .val (.int t1), .val (.int t2), .val (.ref b73), .val (.ref b74), .val (.ref b82), .val (.int (own_bI false)), .val (.int (own_bI false)), .unset] []))
        refine Goes.st (fun t_ k_ => XS.iload X85.here hx rfl (hb hby at_242) rfl  k_) ?_
        show Goes p e below s _ _ _ (T85.setTop (mkF m 244 #[.val (.int md), .val (.int sp), .val (.int tg), .val (.long fi), .second, .val (.int (0 : Int32)), .val (.int lf), .val (.int l1), .val (.int t1), .val (.int t2), .val (.ref b73), .val (.ref b74), .val (.ref b82), .val (.int (own_bI false)), .val (.int (own_bI false)), .unset] [(.int (own_bI false))]))
        refine Goes.st (fun t_ k_ => XS.ifNo X85.here hx rfl (hb hby at_244) rfl ((if0 _ _).trans (teq (by decide)).2) k_) ?_
        show Goes p e below s _ _ _ (T85.setTop (mkF m 247 #[.val (.int md), .val (.int sp), .val (.int tg), .val (.long fi), .second, .val (.int (0 : Int32)), .val (.int lf), .val (.int l1), .val (.int t1), .val (.int t2), .val (.ref b73), .val (.ref b74), .val (.ref b82), .val (.int (own_bI false)), .val (.int (own_bI false)), .unset] []))
        refine Goes.st (fun t_ k_ => XS.iconst X85.here hx rfl (hb hby at_247) k_) ?_
        show Goes p e below s _ _ _ (T85.setTop (mkF m 248 #[.val (.int md), .val (.int sp), .val (.int tg), .val (.long fi), .second, .val (.int (0 : Int32)), .val (.int lf), .val (.int l1), .val (.int t1), .val (.int t2), .val (.ref b73), .val (.ref b74), .val (.ref b82), .val (.int (own_bI false)), .val (.int (own_bI false)), .unset] [(.int (1 : Int32))]))
        refine Goes.st (fun t_ k_ => XS.goto X85.here hx rfl (pc0 := 248) (pc' := 252) rfl (hb hby at_248) (by decide) (by decide) k_) ?_
        show Goes p e below s _ _ _ (T85.setTop (mkF m 252 #[.val (.int md), .val (.int sp), .val (.int tg), .val (.long fi), .second, .val (.int (0 : Int32)), .val (.int lf), .val (.int l1), .val (.int t1), .val (.int t2), .val (.ref b73), .val (.ref b74), .val (.ref b82), .val (.int (own_bI false)), .val (.int (own_bI false)), .unset] [(.int (1 : Int32))]))
        exact Goes.retN X85 hx (t := .boolean) hret hlk (by simp) (hb hby at_252) (by decide) (by decide) (⟨rfl, N85⟩)
      · show Goes p e below s _ _ _ (T81.setTop (mkF m 115 #[.val (.int md), .val (.int sp), .val (.int tg), .val (.long fi), .second, .val (.int (1 : Int32)), .val (.int lf), .val (.int l1), .val (.int t1), .val (.int t2), .val (.ref b73), .val (.ref b74), .unset, .unset, .unset, .unset] []))
        refine Goes.st (fun t_ k_ => XS.iload X81.here hx rfl (hb hby at_115) rfl  k_) ?_
        show Goes p e below s _ _ _ (T81.setTop (mkF m 117 #[.val (.int md), .val (.int sp), .val (.int tg), .val (.long fi), .second, .val (.int (1 : Int32)), .val (.int lf), .val (.int l1), .val (.int t1), .val (.int t2), .val (.ref b73), .val (.ref b74), .unset, .unset, .unset, .unset] [(.int (1 : Int32))]))
        refine Goes.st (fun t_ k_ => XS.iconst X81.here hx rfl (hb hby at_117) k_) ?_
        show Goes p e below s _ _ _ (T81.setTop (mkF m 118 #[.val (.int md), .val (.int sp), .val (.int tg), .val (.long fi), .second, .val (.int (1 : Int32)), .val (.int lf), .val (.int l1), .val (.int t1), .val (.int t2), .val (.ref b73), .val (.ref b74), .unset, .unset, .unset, .unset] [(.int (1 : Int32)), (.int (1 : Int32))]))
        refine Goes.st (fun t_ k_ => XS.icmpNo X81.here hx rfl (hb hby at_118) rfl (teq (by decide)).2 k_) ?_
        show Goes p e below s _ _ _ (T81.setTop (mkF m 121 #[.val (.int md), .val (.int sp), .val (.int tg), .val (.long fi), .second, .val (.int (1 : Int32)), .val (.int lf), .val (.int l1), .val (.int t1), .val (.int t2), .val (.ref b73), .val (.ref b74), .unset, .unset, .unset, .unset] []))
        refine Goes.st (fun t_ k_ => XS.aload X81.here hx rfl (hb hby at_121) rfl rfl k_) ?_
        show Goes p e below s _ _ _ (T81.setTop (mkF m 123 #[.val (.int md), .val (.int sp), .val (.int tg), .val (.long fi), .second, .val (.int (1 : Int32)), .val (.int lf), .val (.int l1), .val (.int t1), .val (.int t2), .val (.ref b73), .val (.ref b74), .unset, .unset, .unset, .unset] [(.ref b74)]))
        refine Goes.st (fun t_ k_ => XS.iconst X81.here hx rfl (hb hby at_123) k_) ?_
        show Goes p e below s _ _ _ (T81.setTop (mkF m 124 #[.val (.int md), .val (.int sp), .val (.int tg), .val (.long fi), .second, .val (.int (1 : Int32)), .val (.int lf), .val (.int l1), .val (.int t1), .val (.int t2), .val (.ref b73), .val (.ref b74), .unset, .unset, .unset, .unset] [(.int (0 : Int32)), (.ref b74)]))
        refine Goes.st (fun t_ k_ => XS.iload X81.here hx rfl (hb hby at_124) rfl  k_) ?_
        show Goes p e below s _ _ _ (T81.setTop (mkF m 126 #[.val (.int md), .val (.int sp), .val (.int tg), .val (.long fi), .second, .val (.int (1 : Int32)), .val (.int lf), .val (.int l1), .val (.int t1), .val (.int t2), .val (.ref b73), .val (.ref b74), .unset, .unset, .unset, .unset] [(.int t1), (.int (0 : Int32)), (.ref b74)]))
        refine Goes.st (fun t_ k_ => XS.i2b X81.here hx rfl (hb hby at_126) rfl k_) ?_
        show Goes p e below s _ _ _ (T81.setTop (mkF m 127 #[.val (.int md), .val (.int sp), .val (.int tg), .val (.long fi), .second, .val (.int (1 : Int32)), .val (.int lf), .val (.int l1), .val (.int t1), .val (.int t2), .val (.ref b73), .val (.ref b74), .unset, .unset, .unset, .unset] [(.int (t1.toInt8.toInt32)), (.int (0 : Int32)), (.ref b74)]))
        obtain ⟨cl86, Ar86, q86, S86, M86, H86, G86⟩ := V_b74
        obtain ⟨T86, h86, X86, e86, W86, st86⟩ := stB X81 hx hZ e81 Ar86 (j := (0 : Int32)) (inb_of S86 ⟨by decide, by decide⟩) (g := (mkF m 127 #[.val (.int md), .val (.int sp), .val (.int tg), .val (.long fi), .second, .val (.int (1 : Int32)), .val (.int lf), .val (.int l1), .val (.int t1), .val (.int t2), .val (.ref b73), .val (.ref b74), .unset, .unset, .unset, .unset] [(.int (t1.toInt8.toInt32)), (.int (0 : Int32)), (.ref b74)])) rfl rfl (hb hby at_127)
        have V_b74 := Arv.set Ar86 q86 S86 M86 H86 G86 (fits_nar_byte _) W86 0 rfl (Nat.le_of_ble_eq_true rfl)
        refine Goes.st st86 ?_
        have V_b74 : Arv Z h86 b74 k74 .byte (6 : Int32) [(.int (nar .byte (t1.toInt8.toInt32))), (.int f1), (.int f2), (.int f3), (.int f4), (.int f5)] (.int (0 : Int32)) := V_b74
        have V_b73 := V_b73.other W86 ne_b73_b74
        have N86 := Fr.snoc X86 N81 gn_b74
        have Z81' := Nat.le_trans Z81 (Keep.of_wr W86).1
        show Goes p e below s _ _ _ (T86.setTop (mkF m 128 #[.val (.int md), .val (.int sp), .val (.int tg), .val (.long fi), .second, .val (.int (1 : Int32)), .val (.int lf), .val (.int l1), .val (.int t1), .val (.int t2), .val (.ref b73), .val (.ref b74), .unset, .unset, .unset, .unset] []))
        refine Goes.st (fun t_ k_ => XS.iload X86.here hx rfl (hb hby at_128) rfl  k_) ?_
        show Goes p e below s _ _ _ (T86.setTop (mkF m 130 #[.val (.int md), .val (.int sp), .val (.int tg), .val (.long fi), .second, .val (.int (1 : Int32)), .val (.int lf), .val (.int l1), .val (.int t1), .val (.int t2), .val (.ref b73), .val (.ref b74), .unset, .unset, .unset, .unset] [(.int lf)]))
        by_cases hlf : lf = (0 : Int32)
        · refine Goes.st (fun t_ k_ => XS.ifYes X86.here hx rfl (pc0 := 130) (pc' := 147) rfl (hb hby at_130) rfl ((if0 _ _).trans (teq hlf).1) (by decide) (by decide) k_) ?_
          show Goes p e below s _ _ _ (T86.setTop (mkF m 147 #[.val (.int md), .val (.int sp), .val (.int tg), .val (.long fi), .second, .val (.int (1 : Int32)), .val (.int lf), .val (.int l1), .val (.int t1), .val (.int t2), .val (.ref b73), .val (.ref b74), .unset, .unset, .unset, .unset] []))
          refine Goes.st (fun t_ k_ => XS.aload X86.here hx rfl (hb hby at_147) rfl rfl k_) ?_
          show Goes p e below s _ _ _ (T86.setTop (mkF m 149 #[.val (.int md), .val (.int sp), .val (.int tg), .val (.long fi), .second, .val (.int (1 : Int32)), .val (.int lf), .val (.int l1), .val (.int t1), .val (.int t2), .val (.ref b73), .val (.ref b74), .unset, .unset, .unset, .unset] [(.ref b74)]))
          refine Goes.st (fun t_ k_ => XS.iconst X86.here hx rfl (hb hby at_149) k_) ?_
          show Goes p e below s _ _ _ (T86.setTop (mkF m 150 #[.val (.int md), .val (.int sp), .val (.int tg), .val (.long fi), .second, .val (.int (1 : Int32)), .val (.int lf), .val (.int l1), .val (.int t1), .val (.int t2), .val (.ref b73), .val (.ref b74), .unset, .unset, .unset, .unset] [(.int (1 : Int32)), (.ref b74)]))
          refine Goes.st (fun t_ k_ => XS.iconst X86.here hx rfl (hb hby at_150) k_) ?_
          show Goes p e below s _ _ _ (T86.setTop (mkF m 151 #[.val (.int md), .val (.int sp), .val (.int tg), .val (.long fi), .second, .val (.int (1 : Int32)), .val (.int lf), .val (.int l1), .val (.int t1), .val (.int t2), .val (.ref b73), .val (.ref b74), .unset, .unset, .unset, .unset] [(.int (4 : Int32)), (.int (1 : Int32)), (.ref b74)]))
          obtain ⟨cl87, Ar87, q87, S87, M87, H87, G87⟩ := V_b74
          obtain ⟨T87, h87, X87, e87, W87, st87⟩ := stB X86 hx hZ e86 Ar87 (j := (1 : Int32)) (inb_of S87 ⟨by decide, by decide⟩) (g := (mkF m 151 #[.val (.int md), .val (.int sp), .val (.int tg), .val (.long fi), .second, .val (.int (1 : Int32)), .val (.int lf), .val (.int l1), .val (.int t1), .val (.int t2), .val (.ref b73), .val (.ref b74), .unset, .unset, .unset, .unset] [(.int (4 : Int32)), (.int (1 : Int32)), (.ref b74)])) rfl rfl (hb hby at_151)
          have V_b74 := Arv.set Ar87 q87 S87 M87 H87 G87 (fits_nar_byte _) W87 1 rfl (Nat.le_of_ble_eq_true rfl)
          refine Goes.st st87 ?_
          have V_b74 : Arv Z h87 b74 k74 .byte (6 : Int32) [(.int (nar .byte (t1.toInt8.toInt32))), (.int (nar .byte (4 : Int32))), (.int f2), (.int f3), (.int f4), (.int f5)] (.int (0 : Int32)) := V_b74
          have V_b73 := V_b73.other W87 ne_b73_b74
          have N87 := Fr.snoc X87 N86 gn_b74
          have Z81'' := Nat.le_trans Z81' (Keep.of_wr W87).1
          show Goes p e below s _ _ _ (T87.setTop (mkF m 152 #[.val (.int md), .val (.int sp), .val (.int tg), .val (.long fi), .second, .val (.int (1 : Int32)), .val (.int lf), .val (.int l1), .val (.int t1), .val (.int t2), .val (.ref b73), .val (.ref b74), .unset, .unset, .unset, .unset] []))
          refine Goes.st (fun t_ k_ => XS.goto X87.here hx rfl (pc0 := 152) (pc' := 197) rfl (hb hby at_152) (by decide) (by decide) k_) ?_
          show Goes p e below s _ _ _ (T87.setTop (mkF m 197 #[.val (.int md), .val (.int sp), .val (.int tg), .val (.long fi), .second, .val (.int (1 : Int32)), .val (.int lf), .val (.int l1), .val (.int t1), .val (.int t2), .val (.ref b73), .val (.ref b74), .unset, .unset, .unset, .unset] []))
          show Goes p e below s _ _ _ (T87.setTop (mkF m 197 #[.val (.int md), .val (.int sp), .val (.int tg), .val (.long fi), .second, .val (.int (1 : Int32)), .val (.int lf), .val (.int l1), .val (.int t1), .val (.int t2), .val (.ref b73), .val (.ref b74), .unset, .unset, .unset, .unset] []))
          obtain ⟨T88, h88, X88, e88, E88, A88, D88, -, st88⟩ := newO X87 hx hZ hown (hw _ (List.mem_of_getElem? (i := 6) rfl)) (hw _ (List.mem_of_getElem? (i := 7) rfl)) (hw _ (List.mem_of_getElem? (i := 8) rfl)) e87 (g := (mkF m 197 #[.val (.int md), .val (.int sp), .val (.int tg), .val (.long fi), .second, .val (.int (1 : Int32)), .val (.int lf), .val (.int l1), .val (.int t1), .val (.int t2), .val (.ref b73), .val (.ref b74), .unset, .unset, .unset, .unset] [])) rfl (hb hby at_197) (by decide) (by decide)
          obtain ⟨b88, g88⟩ : ∃ z, z = h87.size := ⟨_, rfl⟩
          rw [← g88] at A88 D88 st88
          have ne_b73_b88 : b73 ≠ b88 := Nat.ne_of_lt (Nat.lt_of_lt_of_le V_b73.lt (Nat.le_of_eq g88.symm))
          have ne_b74_b88 : b74 ≠ b88 := Nat.ne_of_lt (Nat.lt_of_lt_of_le V_b74.lt (Nat.le_of_eq g88.symm))
          have gn_b88 : n0 ≤ b88 := Nat.le_trans Z81'' (Nat.le_of_eq g88.symm)
          refine Goes.st st88 ?_
          have V_b73 := V_b73.ext E88
          have V_b74 := V_b74.ext E88
          have Z81''' := Nat.le_trans Z81'' E88.1
          have Ex_b88 := A88
          have F_bytes_b88 : Fld Z h88 b88 "com/example/torniquete/torniquete/core/DerReader" "bytes" "[B" .null := D88 (Or.inr (hw _ (List.mem_of_getElem? (i := 19) rfl))) (ty := (.array .byte)) (by decide)
          have F_position_b88 : Fld Z h88 b88 "com/example/torniquete/torniquete/core/DerReader" "position" "I" (.int (0 : Int32)) := D88 (Or.inl (hw _ (List.mem_of_getElem? (i := 21) rfl))) (ty := .int) (by decide)
          have F_end_b88 : Fld Z h88 b88 "com/example/torniquete/torniquete/core/DerReader" "end" "I" (.int (0 : Int32)) := D88 (Or.inr (hw _ (List.mem_of_getElem? (i := 23) rfl))) (ty := .int) (by decide)
          show Goes p e below s _ _ _ (T88.setTop (mkF m 200 #[.val (.int md), .val (.int sp), .val (.int tg), .val (.long fi), .second, .val (.int (1 : Int32)), .val (.int lf), .val (.int l1), .val (.int t1), .val (.int t2), .val (.ref b73), .val (.ref b74), .unset, .unset, .unset, .unset] [(.ref b88)]))
          refine Goes.st (fun t_ k_ => XS.dup X88.here hx rfl (hb hby at_200) rfl rfl k_) ?_
          show Goes p e below s _ _ _ (T88.setTop (mkF m 201 #[.val (.int md), .val (.int sp), .val (.int tg), .val (.long fi), .second, .val (.int (1 : Int32)), .val (.int lf), .val (.int l1), .val (.int t1), .val (.int t2), .val (.ref b73), .val (.ref b74), .unset, .unset, .unset, .unset] [(.ref b88), (.ref b88)]))
          refine Goes.st (fun t_ k_ => XS.iload X88.here hx rfl (hb hby at_201) rfl  k_) ?_
          show Goes p e below s _ _ _ (T88.setTop (mkF m 203 #[.val (.int md), .val (.int sp), .val (.int tg), .val (.long fi), .second, .val (.int (1 : Int32)), .val (.int lf), .val (.int l1), .val (.int t1), .val (.int t2), .val (.ref b73), .val (.ref b74), .unset, .unset, .unset, .unset] [(.int (1 : Int32)), (.ref b88), (.ref b88)]))
          refine Goes.st (fun t_ k_ => XS.ifYes X88.here hx rfl (pc0 := 203) (pc' := 211) rfl (hb hby at_203) rfl ((if0 _ _).trans (feq (by decide)).2) (by decide) (by decide) k_) ?_
          show Goes p e below s _ _ _ (T88.setTop (mkF m 211 #[.val (.int md), .val (.int sp), .val (.int tg), .val (.long fi), .second, .val (.int (1 : Int32)), .val (.int lf), .val (.int l1), .val (.int t1), .val (.int t2), .val (.ref b73), .val (.ref b74), .unset, .unset, .unset, .unset] [(.ref b88), (.ref b88)]))
          refine Goes.st (fun t_ k_ => XS.aload X88.here hx rfl (hb hby at_211) rfl rfl k_) ?_
          show Goes p e below s _ _ _ (T88.setTop (mkF m 213 #[.val (.int md), .val (.int sp), .val (.int tg), .val (.long fi), .second, .val (.int (1 : Int32)), .val (.int lf), .val (.int l1), .val (.int t1), .val (.int t2), .val (.ref b73), .val (.ref b74), .unset, .unset, .unset, .unset] [(.ref b74), (.ref b88), (.ref b88)]))
          obtain ⟨_, _, ⟨T89, L89, k89, n89⟩, -, X89, ⟨Lc89, hQ89, l89, y89, z89⟩, st89⟩ := X88.specialBack hx (y := (⟨"com/example/torniquete/torniquete/core/DerReader", "<init>", "([B)V"⟩ : MethodName)) rfl hown (mvT hZ (hw _ (List.mem_of_getElem? (i := 9) rfl))) (mvT hZ (hw _ (List.mem_of_getElem? (i := 10) rfl))) (mvT hZ (hw _ (List.mem_of_getElem? (i := 11) rfl))) (by decide) (backOf (W := 1) (own_rmI1 l Z a0 hw [] b88 b74 k74 (6 : Int32) _ h88 n0 Z81''' Ex_b88 F_bytes_b88 F_position_b88 F_end_b88 V_b74 gn_b88) hZ (hw _ (List.mem_of_getElem? (i := 11) rfl)) (hw _ (List.mem_of_getElem? (i := 8) rfl)) (by decide) (by decide)) (g := (mkF m 213 #[.val (.int md), .val (.int sp), .val (.int tg), .val (.long fi), .second, .val (.int (1 : Int32)), .val (.int lf), .val (.int l1), .val (.int t1), .val (.int t2), .val (.ref b73), .val (.ref b74), .unset, .unset, .unset, .unset] [(.ref b74), (.ref b88), (.ref b88)])) rfl (by rw [hml]; rfl) (Steps.refl _) (a := b88) (argsL := [(.ref b74)]) (rest := [(.ref b88)]) (lenOf own_pd196 rfl) rfl (by show 2 * 0 + _ ≤ _; exact Nat.le_of_eq rfl) (hb hby at_213) (fun _ _ => ⟨rfl, e88, (by decide : 3 + 0 ≤ _), (by decide : 9 + 0 ≤ _)⟩)
          dsimp only [Pt.U, Pt.locs, Pt.cells, Pt.slots] at X89 l89 y89 z89 st89 hQ89
          subst l89 y89 z89
          obtain ⟨rfl, N89q, KI, HR⟩ := hQ89
          have N89 := Fr.app N87 N89q
          refine Goes.tr st89 ?_
          have V_b73 := V_b73.keep KI (ninS ne_b73_b88 nin0)
          have V_b74 := V_b74.keep KI (ninS ne_b74_b88 nin0)
          have Z81'''' := Nat.le_trans Z81''' KI.1
          have HR' := HR
          obtain ⟨E_b88, Fb_b88, Fp_b88, Fe_b88⟩ := HR'
          show Goes p e below s _ _ _ (T89.setTop (mkF m 216 #[.val (.int md), .val (.int sp), .val (.int tg), .val (.long fi), .second, .val (.int (1 : Int32)), .val (.int lf), .val (.int l1), .val (.int t1), .val (.int t2), .val (.ref b73), .val (.ref b74), .unset, .unset, .unset, .unset] [(.ref b88)]))
          refine Goes.st (fun t_ k_ => XS.astore X89.here hx rfl (hb hby at_216) rfl rfl (l' := #[.val (.int md), .val (.int sp), .val (.int tg), .val (.long fi), .second, .val (.int (1 : Int32)), .val (.int lf), .val (.int l1), .val (.int t1), .val (.int t2), .val (.ref b73), .val (.ref b74), .val (.ref b88), .unset, .unset, .unset]) rfl k_) ?_
          show Goes p e below s _ _ _ (T89.setTop (mkF m 218 #[.val (.int md), .val (.int sp), .val (.int tg), .val (.long fi), .second, .val (.int (1 : Int32)), .val (.int lf), .val (.int l1), .val (.int t1), .val (.int t2), .val (.ref b73), .val (.ref b74), .val (.ref b88), .unset, .unset, .unset] []))
          refine Goes.st (fun t_ k_ => XS.aload X89.here hx rfl (hb hby at_218) rfl rfl k_) ?_
          show Goes p e below s _ _ _ (T89.setTop (mkF m 220 #[.val (.int md), .val (.int sp), .val (.int tg), .val (.long fi), .second, .val (.int (1 : Int32)), .val (.int lf), .val (.int l1), .val (.int t1), .val (.int t2), .val (.ref b73), .val (.ref b74), .val (.ref b88), .unset, .unset, .unset] [(.ref b88)]))
          obtain ⟨cq90, kq90, q90a, q90b, q90c⟩ := isOf hZ rfl E_b88
          obtain ⟨_, _, ⟨T90, L90, k90, n90⟩, -, X90, ⟨Lc90, hQ90, l90, y90, z90⟩, st90⟩ := X89.virtualBack hx (y := (⟨"com/example/torniquete/torniquete/core/DerReader", "hasNext", "()Z"⟩ : MethodName)) (z := (⟨"com/example/torniquete/torniquete/core/DerReader", "hasNext", "()Z"⟩ : MethodName)) hown (mvT hZ (hw _ (List.mem_of_getElem? (i := 24) rfl))) (mvT hZ (hw _ (List.mem_of_getElem? (i := 25) rfl))) (notFace_of_selects (args := #[]) (mvT hZ (hw _ (List.mem_of_getElem? (i := 27) rfl)))) (mvT hZ (hw _ (List.mem_of_getElem? (i := 27) rfl))) (mvT hZ (hw _ (List.mem_of_getElem? (i := 26) rfl))) (by decide) (backOf (W := 0) (own_rmH l Z a0 hw [] b88 b74 0 6 true T89.heap n0 Z81'''' HR (by decide)) hZ (hw _ (List.mem_of_getElem? (i := 28) rfl)) (hw _ (List.mem_of_getElem? (i := 8) rfl)) (by decide) (by decide)) q90a q90c (g := (mkF m 220 #[.val (.int md), .val (.int sp), .val (.int tg), .val (.long fi), .second, .val (.int (1 : Int32)), .val (.int lf), .val (.int l1), .val (.int t1), .val (.int t2), .val (.ref b73), .val (.ref b74), .val (.ref b88), .unset, .unset, .unset] [(.ref b88)])) rfl (by rw [hml]; rfl) (Steps.refl _) (argsL := []) (rest := []) (lenOf own_pd66 rfl) rfl (by show 2 * 0 + _ ≤ _; exact Nat.le_of_eq rfl) (hb hby at_220) (fun _ _ => ⟨rfl, rfl, (by decide : 3 + 0 ≤ _), (by decide : 9 + 0 ≤ _)⟩)
          dsimp only [Pt.U, Pt.locs, Pt.cells, Pt.slots] at X90 l90 y90 z90 st90 hQ90
          subst l90 y90 z90
          obtain ⟨rfl, N90q, EQ3⟩ := hQ90
          have N90 := Fr.app N89 N90q
          refine Goes.tr st90 ?_
          show Goes p e below s _ _ _ (T90.setTop (mkF m 223 #[.val (.int md), .val (.int sp), .val (.int tg), .val (.long fi), .second, .val (.int (1 : Int32)), .val (.int lf), .val (.int l1), .val (.int t1), .val (.int t2), .val (.ref b73), .val (.ref b74), .val (.ref b88), .unset, .unset, .unset] [(.int (own_bI true))]))
          refine Goes.st (fun t_ k_ => XS.istore X90.here hx rfl (hb hby at_223) rfl  (l' := #[.val (.int md), .val (.int sp), .val (.int tg), .val (.long fi), .second, .val (.int (1 : Int32)), .val (.int lf), .val (.int l1), .val (.int t1), .val (.int t2), .val (.ref b73), .val (.ref b74), .val (.ref b88), .val (.int (own_bI true)), .unset, .unset]) rfl k_) ?_
          show Goes p e below s _ _ _ (T90.setTop (mkF m 225 #[.val (.int md), .val (.int sp), .val (.int tg), .val (.long fi), .second, .val (.int (1 : Int32)), .val (.int lf), .val (.int l1), .val (.int t1), .val (.int t2), .val (.ref b73), .val (.ref b74), .val (.ref b88), .val (.int (own_bI true)), .unset, .unset] []))
          refine Goes.st (fun t_ k_ => XS.aload X90.here hx rfl (hb hby at_225) rfl rfl k_) ?_
          show Goes p e below s _ _ _ (T90.setTop (mkF m 227 #[.val (.int md), .val (.int sp), .val (.int tg), .val (.long fi), .second, .val (.int (1 : Int32)), .val (.int lf), .val (.int l1), .val (.int t1), .val (.int t2), .val (.ref b73), .val (.ref b74), .val (.ref b88), .val (.int (own_bI true)), .unset, .unset] [(.ref b88)]))
          obtain ⟨cq91, kq91, q91a, q91b, q91c⟩ := isOf hZ EQ3 E_b88
          obtain ⟨_, _, ⟨T91, L91, k91, n91⟩, -, X91, ⟨Lc91, hQ91, l91, y91, z91⟩, st91⟩ := X90.virtualBack hx (y := (⟨"com/example/torniquete/torniquete/core/DerReader", "hasNext", "()Z"⟩ : MethodName)) (z := (⟨"com/example/torniquete/torniquete/core/DerReader", "hasNext", "()Z"⟩ : MethodName)) hown (mvT hZ (hw _ (List.mem_of_getElem? (i := 24) rfl))) (mvT hZ (hw _ (List.mem_of_getElem? (i := 25) rfl))) (notFace_of_selects (args := #[]) (mvT hZ (hw _ (List.mem_of_getElem? (i := 27) rfl)))) (mvT hZ (hw _ (List.mem_of_getElem? (i := 27) rfl))) (mvT hZ (hw _ (List.mem_of_getElem? (i := 26) rfl))) (by decide) (backOf (W := 0) (own_rmH l Z a0 hw [] b88 b74 0 6 true T89.heap n0 Z81'''' HR (by decide)) hZ (hw _ (List.mem_of_getElem? (i := 28) rfl)) (hw _ (List.mem_of_getElem? (i := 8) rfl)) (by decide) (by decide)) q91a q91c (g := (mkF m 227 #[.val (.int md), .val (.int sp), .val (.int tg), .val (.long fi), .second, .val (.int (1 : Int32)), .val (.int lf), .val (.int l1), .val (.int t1), .val (.int t2), .val (.ref b73), .val (.ref b74), .val (.ref b88), .val (.int (own_bI true)), .unset, .unset] [(.ref b88)])) rfl (by rw [hml]; rfl) (Steps.refl _) (argsL := []) (rest := []) (lenOf own_pd66 rfl) rfl (by show 2 * 0 + _ ≤ _; exact Nat.le_of_eq rfl) (hb hby at_227) (fun _ _ => ⟨rfl, EQ3, (by decide : 3 + 0 ≤ _), (by decide : 9 + 0 ≤ _)⟩)
          dsimp only [Pt.U, Pt.locs, Pt.cells, Pt.slots] at X91 l91 y91 z91 st91 hQ91
          subst l91 y91 z91
          obtain ⟨rfl, N91q, EQ4⟩ := hQ91
          have N91 := Fr.app N90 N91q
          refine Goes.tr st91 ?_
          show Goes p e below s _ _ _ (T91.setTop (mkF m 230 #[.val (.int md), .val (.int sp), .val (.int tg), .val (.long fi), .second, .val (.int (1 : Int32)), .val (.int lf), .val (.int l1), .val (.int t1), .val (.int t2), .val (.ref b73), .val (.ref b74), .val (.ref b88), .val (.int (own_bI true)), .unset, .unset] [(.int (own_bI true))]))
          refine Goes.st (fun t_ k_ => XS.istore X91.here hx rfl (hb hby at_230) rfl  (l' := #[.val (.int md), .val (.int sp), .val (.int tg), .val (.long fi), .second, .val (.int (1 : Int32)), .val (.int lf), .val (.int l1), .val (.int t1), .val (.int t2), .val (.ref b73), .val (.ref b74), .val (.ref b88), .val (.int (own_bI true)), .val (.int (own_bI true)), .unset]) rfl k_) ?_
          show Goes p e below s _ _ _ (T91.setTop (mkF m 232 #[.val (.int md), .val (.int sp), .val (.int tg), .val (.long fi), .second, .val (.int (1 : Int32)), .val (.int lf), .val (.int l1), .val (.int t1), .val (.int t2), .val (.ref b73), .val (.ref b74), .val (.ref b88), .val (.int (own_bI true)), .val (.int (own_bI true)), .unset] []))
          refine Goes.st (fun t_ k_ => XS.iload X91.here hx rfl (hb hby at_232) rfl  k_) ?_
          show Goes p e below s _ _ _ (T91.setTop (mkF m 234 #[.val (.int md), .val (.int sp), .val (.int tg), .val (.long fi), .second, .val (.int (1 : Int32)), .val (.int lf), .val (.int l1), .val (.int t1), .val (.int t2), .val (.ref b73), .val (.ref b74), .val (.ref b88), .val (.int (own_bI true)), .val (.int (own_bI true)), .unset] [(.int (1 : Int32))]))
          refine Goes.st (fun t_ k_ => XS.ifYes X91.here hx rfl (pc0 := 234) (pc' := 253) rfl (hb hby at_234) rfl ((if0 _ _).trans (feq (by decide)).2) (by decide) (by decide) k_) ?_
          show Goes p e below s _ _ _ (T91.setTop (mkF m 253 #[.val (.int md), .val (.int sp), .val (.int tg), .val (.long fi), .second, .val (.int (1 : Int32)), .val (.int lf), .val (.int l1), .val (.int t1), .val (.int t2), .val (.ref b73), .val (.ref b74), .val (.ref b88), .val (.int (own_bI true)), .val (.int (own_bI true)), .unset] []))
          refine Goes.st (fun t_ k_ => XS.iload X91.here hx rfl (hb hby at_253) rfl  k_) ?_
          show Goes p e below s _ _ _ (T91.setTop (mkF m 255 #[.val (.int md), .val (.int sp), .val (.int tg), .val (.long fi), .second, .val (.int (1 : Int32)), .val (.int lf), .val (.int l1), .val (.int t1), .val (.int t2), .val (.ref b73), .val (.ref b74), .val (.ref b88), .val (.int (own_bI true)), .val (.int (own_bI true)), .unset] [(.int (own_bI true))]))
          refine Goes.st (fun t_ k_ => XS.ifNo X91.here hx rfl (hb hby at_255) rfl ((if0 _ _).trans (feq (by decide)).1) k_) ?_
          show Goes p e below s _ _ _ (T91.setTop (mkF m 258 #[.val (.int md), .val (.int sp), .val (.int tg), .val (.long fi), .second, .val (.int (1 : Int32)), .val (.int lf), .val (.int l1), .val (.int t1), .val (.int t2), .val (.ref b73), .val (.ref b74), .val (.ref b88), .val (.int (own_bI true)), .val (.int (own_bI true)), .unset] []))
          refine Goes.st (fun t_ k_ => XS.iload X91.here hx rfl (hb hby at_258) rfl  k_) ?_
          show Goes p e below s _ _ _ (T91.setTop (mkF m 260 #[.val (.int md), .val (.int sp), .val (.int tg), .val (.long fi), .second, .val (.int (1 : Int32)), .val (.int lf), .val (.int l1), .val (.int t1), .val (.int t2), .val (.ref b73), .val (.ref b74), .val (.ref b88), .val (.int (own_bI true)), .val (.int (own_bI true)), .unset] [(.int (own_bI true))]))
          refine Goes.st (fun t_ k_ => XS.ifYes X91.here hx rfl (pc0 := 260) (pc' := 265) rfl (hb hby at_260) rfl ((if0 _ _).trans (feq (by decide)).2) (by decide) (by decide) k_) ?_
          show Goes p e below s _ _ _ (T91.setTop (mkF m 265 #[.val (.int md), .val (.int sp), .val (.int tg), .val (.long fi), .second, .val (.int (1 : Int32)), .val (.int lf), .val (.int l1), .val (.int t1), .val (.int t2), .val (.ref b73), .val (.ref b74), .val (.ref b88), .val (.int (own_bI true)), .val (.int (own_bI true)), .unset] []))
          refine Goes.st (fun t_ k_ => XS.aload X91.here hx rfl (hb hby at_265) rfl rfl k_) ?_
          show Goes p e below s _ _ _ (T91.setTop (mkF m 267 #[.val (.int md), .val (.int sp), .val (.int tg), .val (.long fi), .second, .val (.int (1 : Int32)), .val (.int lf), .val (.int l1), .val (.int t1), .val (.int t2), .val (.ref b73), .val (.ref b74), .val (.ref b88), .val (.int (own_bI true)), .val (.int (own_bI true)), .unset] [(.ref b88)]))
          obtain ⟨cq92, kq92, q92a, q92b, q92c⟩ := isOf hZ EQ4 E_b88
          obtain ⟨_, _, ⟨T92, L92, k92, n92⟩, -, X92, ⟨Lc92, hQ92, l92, y92, z92⟩, st92⟩ := X91.virtualBack hx (y := (⟨"com/example/torniquete/torniquete/core/DerReader", "next", "()Lcom/example/torniquete/torniquete/core/DerReader$Element;"⟩ : MethodName)) (z := (⟨"com/example/torniquete/torniquete/core/DerReader", "next", "()Lcom/example/torniquete/torniquete/core/DerReader$Element;"⟩ : MethodName)) hown (mvT hZ (hw _ (List.mem_of_getElem? (i := 29) rfl))) (mvT hZ (hw _ (List.mem_of_getElem? (i := 30) rfl))) (notFace_of_selects (args := #[]) (mvT hZ (hw _ (List.mem_of_getElem? (i := 32) rfl)))) (mvT hZ (hw _ (List.mem_of_getElem? (i := 32) rfl))) (mvT hZ (hw _ (List.mem_of_getElem? (i := 31) rfl))) (by decide) (backOf (W := 0) (own_rmNs l Z a0 hw [] b88 b74 0 (nar .byte t1.toInt8.toInt32) (nar .byte (4 : Int32)) k74 [(.int (nar .byte (t1.toInt8.toInt32))), (.int (nar .byte (4 : Int32))), (.int f2), (.int f3), (.int f4), (.int f5)] T89.heap n0 Z81'''' HR V_b74 (Ne.symm ne_b74_b88) ⟨by decide, by decide⟩ rfl (own_tagB ht1) ⟨by decide, by decide⟩ rfl (by decide) (by decide) gn_b88) hZ (hw _ (List.mem_of_getElem? (i := 33) rfl)) (hw _ (List.mem_of_getElem? (i := 8) rfl)) (by decide) (by decide)) q92a q92c (g := (mkF m 267 #[.val (.int md), .val (.int sp), .val (.int tg), .val (.long fi), .second, .val (.int (1 : Int32)), .val (.int lf), .val (.int l1), .val (.int t1), .val (.int t2), .val (.ref b73), .val (.ref b74), .val (.ref b88), .val (.int (own_bI true)), .val (.int (own_bI true)), .unset] [(.ref b88)])) rfl (by rw [hml]; rfl) (Steps.refl _) (argsL := []) (rest := []) (lenOf own_pd197 rfl) rfl (by show 2 * 0 + _ ≤ _; exact Nat.le_of_eq rfl) (hb hby at_267) (fun _ _ => ⟨rfl, EQ4, (by decide : 3 + 1 ≤ _), (by decide : 9 + 5 ≤ _)⟩)
          dsimp only [Pt.U, Pt.locs, Pt.cells, Pt.slots] at X92 l92 y92 z92 st92 hQ92
          subst l92 y92 z92
          obtain ⟨el, rfl, N92q, KN, HR⟩ := hQ92
          have N92 := Fr.app N91 N92q
          refine Goes.tr st92 ?_
          have V_b73 := V_b73.keep KN (ninS ne_b73_b88 nin0)
          have V_b74 := V_b74.keep KN (ninS ne_b74_b88 nin0)
          have Z81''''' := Nat.le_trans Z81'''' KN.1
          rw [show (0 : Int32) + 1 + 1 + ((nar .byte (4 : Int32)) &&& 255) = 6 by decide] at HR
          have HR' := HR
          obtain ⟨E_b88, Fb_b88, Fp_b88, Fe_b88⟩ := HR'
          show Goes p e below s _ _ _ (T92.setTop (mkF m 270 #[.val (.int md), .val (.int sp), .val (.int tg), .val (.long fi), .second, .val (.int (1 : Int32)), .val (.int lf), .val (.int l1), .val (.int t1), .val (.int t2), .val (.ref b73), .val (.ref b74), .val (.ref b88), .val (.int (own_bI true)), .val (.int (own_bI true)), .unset] [(.ref el)]))
          refine Goes.st (fun t_ k_ => XS.pop X92.here hx rfl (hb hby at_270) rfl rfl k_) ?_
          show Goes p e below s _ _ _ (T92.setTop (mkF m 271 #[.val (.int md), .val (.int sp), .val (.int tg), .val (.long fi), .second, .val (.int (1 : Int32)), .val (.int lf), .val (.int l1), .val (.int t1), .val (.int t2), .val (.ref b73), .val (.ref b74), .val (.ref b88), .val (.int (own_bI true)), .val (.int (own_bI true)), .unset] []))
          refine Goes.st (fun t_ k_ => XS.aload X92.here hx rfl (hb hby at_271) rfl rfl k_) ?_
          show Goes p e below s _ _ _ (T92.setTop (mkF m 273 #[.val (.int md), .val (.int sp), .val (.int tg), .val (.long fi), .second, .val (.int (1 : Int32)), .val (.int lf), .val (.int l1), .val (.int t1), .val (.int t2), .val (.ref b73), .val (.ref b74), .val (.ref b88), .val (.int (own_bI true)), .val (.int (own_bI true)), .unset] [(.ref b88)]))
          obtain ⟨cq93, kq93, q93a, q93b, q93c⟩ := isOf hZ rfl E_b88
          obtain ⟨_, _, ⟨T93, L93, k93, n93⟩, -, X93, ⟨Lc93, hQ93, l93, y93, z93⟩, st93⟩ := X92.virtualBack hx (y := (⟨"com/example/torniquete/torniquete/core/DerReader", "hasNext", "()Z"⟩ : MethodName)) (z := (⟨"com/example/torniquete/torniquete/core/DerReader", "hasNext", "()Z"⟩ : MethodName)) hown (mvT hZ (hw _ (List.mem_of_getElem? (i := 24) rfl))) (mvT hZ (hw _ (List.mem_of_getElem? (i := 25) rfl))) (notFace_of_selects (args := #[]) (mvT hZ (hw _ (List.mem_of_getElem? (i := 27) rfl)))) (mvT hZ (hw _ (List.mem_of_getElem? (i := 27) rfl))) (mvT hZ (hw _ (List.mem_of_getElem? (i := 26) rfl))) (by decide) (backOf (W := 0) (own_rmH l Z a0 hw [] b88 b74 6 6 false T92.heap n0 Z81''''' HR (by decide)) hZ (hw _ (List.mem_of_getElem? (i := 28) rfl)) (hw _ (List.mem_of_getElem? (i := 8) rfl)) (by decide) (by decide)) q93a q93c (g := (mkF m 273 #[.val (.int md), .val (.int sp), .val (.int tg), .val (.long fi), .second, .val (.int (1 : Int32)), .val (.int lf), .val (.int l1), .val (.int t1), .val (.int t2), .val (.ref b73), .val (.ref b74), .val (.ref b88), .val (.int (own_bI true)), .val (.int (own_bI true)), .unset] [(.ref b88)])) rfl (by rw [hml]; rfl) (Steps.refl _) (argsL := []) (rest := []) (lenOf own_pd66 rfl) rfl (by show 2 * 0 + _ ≤ _; exact Nat.le_of_eq rfl) (hb hby at_273) (fun _ _ => ⟨rfl, rfl, (by decide : 4 + 0 ≤ _), (by decide : 14 + 0 ≤ _)⟩)
          dsimp only [Pt.U, Pt.locs, Pt.cells, Pt.slots] at X93 l93 y93 z93 st93 hQ93
          subst l93 y93 z93
          obtain ⟨rfl, N93q, EQ5⟩ := hQ93
          have N93 := Fr.app N92 N93q
          refine Goes.tr st93 ?_
          show Goes p e below s _ _ _ (T93.setTop (mkF m 276 #[.val (.int md), .val (.int sp), .val (.int tg), .val (.long fi), .second, .val (.int (1 : Int32)), .val (.int lf), .val (.int l1), .val (.int t1), .val (.int t2), .val (.ref b73), .val (.ref b74), .val (.ref b88), .val (.int (own_bI true)), .val (.int (own_bI true)), .unset] [(.int (own_bI false))]))
          refine Goes.st (fun t_ k_ => XS.istore X93.here hx rfl (hb hby at_276) rfl  (l' := #[.val (.int md), .val (.int sp), .val (.int tg), .val (.long fi), .second, .val (.int (1 : Int32)), .val (.int lf), .val (.int l1), .val (.int t1), .val (.int t2), .val (.ref b73), .val (.ref b74), .val (.ref b88), .val (.int (own_bI true)), .val (.int (own_bI true)), .val (.int (own_bI false))]) rfl k_) ?_
          show Goes p e below s _ _ _ (T93.setTop (mkF m 278 #[.val (.int md), .val (.int sp), .val (.int tg), .val (.long fi), .second, .val (.int (1 : Int32)), .val (.int lf), .val (.int l1), .val (.int t1), .val (.int t2), .val (.ref b73), .val (.ref b74), .val (.ref b88), .val (.int (own_bI true)), .val (.int (own_bI true)), .val (.int (own_bI false))] []))
          refine Goes.st (fun t_ k_ => XS.iload X93.here hx rfl (hb hby at_278) rfl  k_) ?_
          show Goes p e below s _ _ _ (T93.setTop (mkF m 280 #[.val (.int md), .val (.int sp), .val (.int tg), .val (.long fi), .second, .val (.int (1 : Int32)), .val (.int lf), .val (.int l1), .val (.int t1), .val (.int t2), .val (.ref b73), .val (.ref b74), .val (.ref b88), .val (.int (own_bI true)), .val (.int (own_bI true)), .val (.int (own_bI false))] [(.int (1 : Int32))]))
          refine Goes.st (fun t_ k_ => XS.iconst X93.here hx rfl (hb hby at_280) k_) ?_
          show Goes p e below s _ _ _ (T93.setTop (mkF m 281 #[.val (.int md), .val (.int sp), .val (.int tg), .val (.long fi), .second, .val (.int (1 : Int32)), .val (.int lf), .val (.int l1), .val (.int t1), .val (.int t2), .val (.ref b73), .val (.ref b74), .val (.ref b88), .val (.int (own_bI true)), .val (.int (own_bI true)), .val (.int (own_bI false))] [(.int (1 : Int32)), (.int (1 : Int32))]))
          refine Goes.st (fun t_ k_ => XS.icmpNo X93.here hx rfl (hb hby at_281) rfl (teq (by decide)).2 k_) ?_
          show Goes p e below s _ _ _ (T93.setTop (mkF m 284 #[.val (.int md), .val (.int sp), .val (.int tg), .val (.long fi), .second, .val (.int (1 : Int32)), .val (.int lf), .val (.int l1), .val (.int t1), .val (.int t2), .val (.ref b73), .val (.ref b74), .val (.ref b88), .val (.int (own_bI true)), .val (.int (own_bI true)), .val (.int (own_bI false))] []))
          refine Goes.st (fun t_ k_ => XS.iload X93.here hx rfl (hb hby at_284) rfl  k_) ?_
          show Goes p e below s _ _ _ (T93.setTop (mkF m 286 #[.val (.int md), .val (.int sp), .val (.int tg), .val (.long fi), .second, .val (.int (1 : Int32)), .val (.int lf), .val (.int l1), .val (.int t1), .val (.int t2), .val (.ref b73), .val (.ref b74), .val (.ref b88), .val (.int (own_bI true)), .val (.int (own_bI true)), .val (.int (own_bI false))] [(.int (own_bI false))]))
          refine Goes.st (fun t_ k_ => XS.ifNo X93.here hx rfl (hb hby at_286) rfl ((if0 _ _).trans (teq (by decide)).2) k_) ?_
          show Goes p e below s _ _ _ (T93.setTop (mkF m 289 #[.val (.int md), .val (.int sp), .val (.int tg), .val (.long fi), .second, .val (.int (1 : Int32)), .val (.int lf), .val (.int l1), .val (.int t1), .val (.int t2), .val (.ref b73), .val (.ref b74), .val (.ref b88), .val (.int (own_bI true)), .val (.int (own_bI true)), .val (.int (own_bI false))] []))
          refine Goes.st (fun t_ k_ => XS.iconst X93.here hx rfl (hb hby at_289) k_) ?_
          show Goes p e below s _ _ _ (T93.setTop (mkF m 290 #[.val (.int md), .val (.int sp), .val (.int tg), .val (.long fi), .second, .val (.int (1 : Int32)), .val (.int lf), .val (.int l1), .val (.int t1), .val (.int t2), .val (.ref b73), .val (.ref b74), .val (.ref b88), .val (.int (own_bI true)), .val (.int (own_bI true)), .val (.int (own_bI false))] [(.int (1 : Int32))]))
          refine Goes.st (fun t_ k_ => XS.goto X93.here hx rfl (pc0 := 290) (pc' := 294) rfl (hb hby at_290) (by decide) (by decide) k_) ?_
          show Goes p e below s _ _ _ (T93.setTop (mkF m 294 #[.val (.int md), .val (.int sp), .val (.int tg), .val (.long fi), .second, .val (.int (1 : Int32)), .val (.int lf), .val (.int l1), .val (.int t1), .val (.int t2), .val (.ref b73), .val (.ref b74), .val (.ref b88), .val (.int (own_bI true)), .val (.int (own_bI true)), .val (.int (own_bI false))] [(.int (1 : Int32))]))
          exact Goes.retN X93 hx (t := .boolean) hret hlk (by simp) (hb hby at_294) (by decide) (by decide) (⟨rfl, N93⟩)
        · refine Goes.st (fun t_ k_ => XS.ifNo X86.here hx rfl (hb hby at_130) rfl ((if0 _ _).trans (feq hlf).1) k_) ?_
          show Goes p e below s _ _ _ (T86.setTop (mkF m 133 #[.val (.int md), .val (.int sp), .val (.int tg), .val (.long fi), .second, .val (.int (1 : Int32)), .val (.int lf), .val (.int l1), .val (.int t1), .val (.int t2), .val (.ref b73), .val (.ref b74), .unset, .unset, .unset, .unset] []))
          refine Goes.st (fun t_ k_ => XS.aload X86.here hx rfl (hb hby at_133) rfl rfl k_) ?_
          show Goes p e below s _ _ _ (T86.setTop (mkF m 135 #[.val (.int md), .val (.int sp), .val (.int tg), .val (.long fi), .second, .val (.int (1 : Int32)), .val (.int lf), .val (.int l1), .val (.int t1), .val (.int t2), .val (.ref b73), .val (.ref b74), .unset, .unset, .unset, .unset] [(.ref b74)]))
          refine Goes.st (fun t_ k_ => XS.iconst X86.here hx rfl (hb hby at_135) k_) ?_
          show Goes p e below s _ _ _ (T86.setTop (mkF m 136 #[.val (.int md), .val (.int sp), .val (.int tg), .val (.long fi), .second, .val (.int (1 : Int32)), .val (.int lf), .val (.int l1), .val (.int t1), .val (.int t2), .val (.ref b73), .val (.ref b74), .unset, .unset, .unset, .unset] [(.int (1 : Int32)), (.ref b74)]))
          refine Goes.st (fun t_ k_ => XS.bipush X86.here hx rfl (hb hby at_136) k_) ?_
          show Goes p e below s _ _ _ (T86.setTop (mkF m 138 #[.val (.int md), .val (.int sp), .val (.int tg), .val (.long fi), .second, .val (.int (1 : Int32)), .val (.int lf), .val (.int l1), .val (.int t1), .val (.int t2), .val (.ref b73), .val (.ref b74), .unset, .unset, .unset, .unset] [(.int (-127 : Int32)), (.int (1 : Int32)), (.ref b74)]))
          obtain ⟨cl94, Ar94, q94, S94, M94, H94, G94⟩ := V_b74
          obtain ⟨T94, h94, X94, e94, W94, st94⟩ := stB X86 hx hZ e86 Ar94 (j := (1 : Int32)) (inb_of S94 ⟨by decide, by decide⟩) (g := (mkF m 138 #[.val (.int md), .val (.int sp), .val (.int tg), .val (.long fi), .second, .val (.int (1 : Int32)), .val (.int lf), .val (.int l1), .val (.int t1), .val (.int t2), .val (.ref b73), .val (.ref b74), .unset, .unset, .unset, .unset] [(.int (-127 : Int32)), (.int (1 : Int32)), (.ref b74)])) rfl rfl (hb hby at_138)
          have V_b74 := Arv.set Ar94 q94 S94 M94 H94 G94 (fits_nar_byte _) W94 1 rfl (Nat.le_of_ble_eq_true rfl)
          refine Goes.st st94 ?_
          have V_b74 : Arv Z h94 b74 k74 .byte (6 : Int32) [(.int (nar .byte (t1.toInt8.toInt32))), (.int (nar .byte (-127 : Int32))), (.int f2), (.int f3), (.int f4), (.int f5)] (.int (0 : Int32)) := V_b74
          have V_b73 := V_b73.other W94 ne_b73_b74
          have N94 := Fr.snoc X94 N86 gn_b74
          have Z81'' := Nat.le_trans Z81' (Keep.of_wr W94).1
          show Goes p e below s _ _ _ (T94.setTop (mkF m 139 #[.val (.int md), .val (.int sp), .val (.int tg), .val (.long fi), .second, .val (.int (1 : Int32)), .val (.int lf), .val (.int l1), .val (.int t1), .val (.int t2), .val (.ref b73), .val (.ref b74), .unset, .unset, .unset, .unset] []))
          refine Goes.st (fun t_ k_ => XS.aload X94.here hx rfl (hb hby at_139) rfl rfl k_) ?_
          show Goes p e below s _ _ _ (T94.setTop (mkF m 141 #[.val (.int md), .val (.int sp), .val (.int tg), .val (.long fi), .second, .val (.int (1 : Int32)), .val (.int lf), .val (.int l1), .val (.int t1), .val (.int t2), .val (.ref b73), .val (.ref b74), .unset, .unset, .unset, .unset] [(.ref b74)]))
          refine Goes.st (fun t_ k_ => XS.iconst X94.here hx rfl (hb hby at_141) k_) ?_
          show Goes p e below s _ _ _ (T94.setTop (mkF m 142 #[.val (.int md), .val (.int sp), .val (.int tg), .val (.long fi), .second, .val (.int (1 : Int32)), .val (.int lf), .val (.int l1), .val (.int t1), .val (.int t2), .val (.ref b73), .val (.ref b74), .unset, .unset, .unset, .unset] [(.int (2 : Int32)), (.ref b74)]))
          refine Goes.st (fun t_ k_ => XS.iconst X94.here hx rfl (hb hby at_142) k_) ?_
          show Goes p e below s _ _ _ (T94.setTop (mkF m 143 #[.val (.int md), .val (.int sp), .val (.int tg), .val (.long fi), .second, .val (.int (1 : Int32)), .val (.int lf), .val (.int l1), .val (.int t1), .val (.int t2), .val (.ref b73), .val (.ref b74), .unset, .unset, .unset, .unset] [(.int (3 : Int32)), (.int (2 : Int32)), (.ref b74)]))
          obtain ⟨cl95, Ar95, q95, S95, M95, H95, G95⟩ := V_b74
          obtain ⟨T95, h95, X95, e95, W95, st95⟩ := stB X94 hx hZ e94 Ar95 (j := (2 : Int32)) (inb_of S95 ⟨by decide, by decide⟩) (g := (mkF m 143 #[.val (.int md), .val (.int sp), .val (.int tg), .val (.long fi), .second, .val (.int (1 : Int32)), .val (.int lf), .val (.int l1), .val (.int t1), .val (.int t2), .val (.ref b73), .val (.ref b74), .unset, .unset, .unset, .unset] [(.int (3 : Int32)), (.int (2 : Int32)), (.ref b74)])) rfl rfl (hb hby at_143)
          have V_b74 := Arv.set Ar95 q95 S95 M95 H95 G95 (fits_nar_byte _) W95 2 rfl (Nat.le_of_ble_eq_true rfl)
          refine Goes.st st95 ?_
          have V_b74 : Arv Z h95 b74 k74 .byte (6 : Int32) [(.int (nar .byte (t1.toInt8.toInt32))), (.int (nar .byte (-127 : Int32))), (.int (nar .byte (3 : Int32))), (.int f3), (.int f4), (.int f5)] (.int (0 : Int32)) := V_b74
          have V_b73 := V_b73.other W95 ne_b73_b74
          have N95 := Fr.snoc X95 N94 gn_b74
          have Z81''' := Nat.le_trans Z81'' (Keep.of_wr W95).1
          show Goes p e below s _ _ _ (T95.setTop (mkF m 144 #[.val (.int md), .val (.int sp), .val (.int tg), .val (.long fi), .second, .val (.int (1 : Int32)), .val (.int lf), .val (.int l1), .val (.int t1), .val (.int t2), .val (.ref b73), .val (.ref b74), .unset, .unset, .unset, .unset] []))
          refine Goes.st (fun t_ k_ => XS.goto X95.here hx rfl (pc0 := 144) (pc' := 197) rfl (hb hby at_144) (by decide) (by decide) k_) ?_
          show Goes p e below s _ _ _ (T95.setTop (mkF m 197 #[.val (.int md), .val (.int sp), .val (.int tg), .val (.long fi), .second, .val (.int (1 : Int32)), .val (.int lf), .val (.int l1), .val (.int t1), .val (.int t2), .val (.ref b73), .val (.ref b74), .unset, .unset, .unset, .unset] []))
          show Goes p e below s _ _ _ (T95.setTop (mkF m 197 #[.val (.int md), .val (.int sp), .val (.int tg), .val (.long fi), .second, .val (.int (1 : Int32)), .val (.int lf), .val (.int l1), .val (.int t1), .val (.int t2), .val (.ref b73), .val (.ref b74), .unset, .unset, .unset, .unset] []))
          obtain ⟨T96, h96, X96, e96, E96, A96, D96, -, st96⟩ := newO X95 hx hZ hown (hw _ (List.mem_of_getElem? (i := 6) rfl)) (hw _ (List.mem_of_getElem? (i := 7) rfl)) (hw _ (List.mem_of_getElem? (i := 8) rfl)) e95 (g := (mkF m 197 #[.val (.int md), .val (.int sp), .val (.int tg), .val (.long fi), .second, .val (.int (1 : Int32)), .val (.int lf), .val (.int l1), .val (.int t1), .val (.int t2), .val (.ref b73), .val (.ref b74), .unset, .unset, .unset, .unset] [])) rfl (hb hby at_197) (by decide) (by decide)
          obtain ⟨b96, g96⟩ : ∃ z, z = h95.size := ⟨_, rfl⟩
          rw [← g96] at A96 D96 st96
          have ne_b73_b96 : b73 ≠ b96 := Nat.ne_of_lt (Nat.lt_of_lt_of_le V_b73.lt (Nat.le_of_eq g96.symm))
          have ne_b74_b96 : b74 ≠ b96 := Nat.ne_of_lt (Nat.lt_of_lt_of_le V_b74.lt (Nat.le_of_eq g96.symm))
          have gn_b96 : n0 ≤ b96 := Nat.le_trans Z81''' (Nat.le_of_eq g96.symm)
          refine Goes.st st96 ?_
          have V_b73 := V_b73.ext E96
          have V_b74 := V_b74.ext E96
          have Z81'''' := Nat.le_trans Z81''' E96.1
          have Ex_b96 := A96
          have F_bytes_b96 : Fld Z h96 b96 "com/example/torniquete/torniquete/core/DerReader" "bytes" "[B" .null := D96 (Or.inr (hw _ (List.mem_of_getElem? (i := 19) rfl))) (ty := (.array .byte)) (by decide)
          have F_position_b96 : Fld Z h96 b96 "com/example/torniquete/torniquete/core/DerReader" "position" "I" (.int (0 : Int32)) := D96 (Or.inl (hw _ (List.mem_of_getElem? (i := 21) rfl))) (ty := .int) (by decide)
          have F_end_b96 : Fld Z h96 b96 "com/example/torniquete/torniquete/core/DerReader" "end" "I" (.int (0 : Int32)) := D96 (Or.inr (hw _ (List.mem_of_getElem? (i := 23) rfl))) (ty := .int) (by decide)
          show Goes p e below s _ _ _ (T96.setTop (mkF m 200 #[.val (.int md), .val (.int sp), .val (.int tg), .val (.long fi), .second, .val (.int (1 : Int32)), .val (.int lf), .val (.int l1), .val (.int t1), .val (.int t2), .val (.ref b73), .val (.ref b74), .unset, .unset, .unset, .unset] [(.ref b96)]))
          refine Goes.st (fun t_ k_ => XS.dup X96.here hx rfl (hb hby at_200) rfl rfl k_) ?_
          show Goes p e below s _ _ _ (T96.setTop (mkF m 201 #[.val (.int md), .val (.int sp), .val (.int tg), .val (.long fi), .second, .val (.int (1 : Int32)), .val (.int lf), .val (.int l1), .val (.int t1), .val (.int t2), .val (.ref b73), .val (.ref b74), .unset, .unset, .unset, .unset] [(.ref b96), (.ref b96)]))
          refine Goes.st (fun t_ k_ => XS.iload X96.here hx rfl (hb hby at_201) rfl  k_) ?_
          show Goes p e below s _ _ _ (T96.setTop (mkF m 203 #[.val (.int md), .val (.int sp), .val (.int tg), .val (.long fi), .second, .val (.int (1 : Int32)), .val (.int lf), .val (.int l1), .val (.int t1), .val (.int t2), .val (.ref b73), .val (.ref b74), .unset, .unset, .unset, .unset] [(.int (1 : Int32)), (.ref b96), (.ref b96)]))
          refine Goes.st (fun t_ k_ => XS.ifYes X96.here hx rfl (pc0 := 203) (pc' := 211) rfl (hb hby at_203) rfl ((if0 _ _).trans (feq (by decide)).2) (by decide) (by decide) k_) ?_
          show Goes p e below s _ _ _ (T96.setTop (mkF m 211 #[.val (.int md), .val (.int sp), .val (.int tg), .val (.long fi), .second, .val (.int (1 : Int32)), .val (.int lf), .val (.int l1), .val (.int t1), .val (.int t2), .val (.ref b73), .val (.ref b74), .unset, .unset, .unset, .unset] [(.ref b96), (.ref b96)]))
          refine Goes.st (fun t_ k_ => XS.aload X96.here hx rfl (hb hby at_211) rfl rfl k_) ?_
          show Goes p e below s _ _ _ (T96.setTop (mkF m 213 #[.val (.int md), .val (.int sp), .val (.int tg), .val (.long fi), .second, .val (.int (1 : Int32)), .val (.int lf), .val (.int l1), .val (.int t1), .val (.int t2), .val (.ref b73), .val (.ref b74), .unset, .unset, .unset, .unset] [(.ref b74), (.ref b96), (.ref b96)]))
          obtain ⟨_, _, ⟨T97, L97, k97, n97⟩, -, X97, ⟨Lc97, hQ97, l97, y97, z97⟩, st97⟩ := X96.specialBack hx (y := (⟨"com/example/torniquete/torniquete/core/DerReader", "<init>", "([B)V"⟩ : MethodName)) rfl hown (mvT hZ (hw _ (List.mem_of_getElem? (i := 9) rfl))) (mvT hZ (hw _ (List.mem_of_getElem? (i := 10) rfl))) (mvT hZ (hw _ (List.mem_of_getElem? (i := 11) rfl))) (by decide) (backOf (W := 1) (own_rmI1 l Z a0 hw [] b96 b74 k74 (6 : Int32) _ h96 n0 Z81'''' Ex_b96 F_bytes_b96 F_position_b96 F_end_b96 V_b74 gn_b96) hZ (hw _ (List.mem_of_getElem? (i := 11) rfl)) (hw _ (List.mem_of_getElem? (i := 8) rfl)) (by decide) (by decide)) (g := (mkF m 213 #[.val (.int md), .val (.int sp), .val (.int tg), .val (.long fi), .second, .val (.int (1 : Int32)), .val (.int lf), .val (.int l1), .val (.int t1), .val (.int t2), .val (.ref b73), .val (.ref b74), .unset, .unset, .unset, .unset] [(.ref b74), (.ref b96), (.ref b96)])) rfl (by rw [hml]; rfl) (Steps.refl _) (a := b96) (argsL := [(.ref b74)]) (rest := [(.ref b96)]) (lenOf own_pd196 rfl) rfl (by show 2 * 0 + _ ≤ _; exact Nat.le_of_eq rfl) (hb hby at_213) (fun _ _ => ⟨rfl, e96, (by decide : 3 + 0 ≤ _), (by decide : 9 + 0 ≤ _)⟩)
          dsimp only [Pt.U, Pt.locs, Pt.cells, Pt.slots] at X97 l97 y97 z97 st97 hQ97
          subst l97 y97 z97
          obtain ⟨rfl, N97q, KI, HR⟩ := hQ97
          have N97 := Fr.app N95 N97q
          refine Goes.tr st97 ?_
          have V_b73 := V_b73.keep KI (ninS ne_b73_b96 nin0)
          have V_b74 := V_b74.keep KI (ninS ne_b74_b96 nin0)
          have Z81''''' := Nat.le_trans Z81'''' KI.1
          have HR' := HR
          obtain ⟨E_b96, Fb_b96, Fp_b96, Fe_b96⟩ := HR'
          show Goes p e below s _ _ _ (T97.setTop (mkF m 216 #[.val (.int md), .val (.int sp), .val (.int tg), .val (.long fi), .second, .val (.int (1 : Int32)), .val (.int lf), .val (.int l1), .val (.int t1), .val (.int t2), .val (.ref b73), .val (.ref b74), .unset, .unset, .unset, .unset] [(.ref b96)]))
          refine Goes.st (fun t_ k_ => XS.astore X97.here hx rfl (hb hby at_216) rfl rfl (l' := #[.val (.int md), .val (.int sp), .val (.int tg), .val (.long fi), .second, .val (.int (1 : Int32)), .val (.int lf), .val (.int l1), .val (.int t1), .val (.int t2), .val (.ref b73), .val (.ref b74), .val (.ref b96), .unset, .unset, .unset]) rfl k_) ?_
          show Goes p e below s _ _ _ (T97.setTop (mkF m 218 #[.val (.int md), .val (.int sp), .val (.int tg), .val (.long fi), .second, .val (.int (1 : Int32)), .val (.int lf), .val (.int l1), .val (.int t1), .val (.int t2), .val (.ref b73), .val (.ref b74), .val (.ref b96), .unset, .unset, .unset] []))
          refine Goes.st (fun t_ k_ => XS.aload X97.here hx rfl (hb hby at_218) rfl rfl k_) ?_
          show Goes p e below s _ _ _ (T97.setTop (mkF m 220 #[.val (.int md), .val (.int sp), .val (.int tg), .val (.long fi), .second, .val (.int (1 : Int32)), .val (.int lf), .val (.int l1), .val (.int t1), .val (.int t2), .val (.ref b73), .val (.ref b74), .val (.ref b96), .unset, .unset, .unset] [(.ref b96)]))
          obtain ⟨cq98, kq98, q98a, q98b, q98c⟩ := isOf hZ rfl E_b96
          obtain ⟨_, _, ⟨T98, L98, k98, n98⟩, -, X98, ⟨Lc98, hQ98, l98, y98, z98⟩, st98⟩ := X97.virtualBack hx (y := (⟨"com/example/torniquete/torniquete/core/DerReader", "hasNext", "()Z"⟩ : MethodName)) (z := (⟨"com/example/torniquete/torniquete/core/DerReader", "hasNext", "()Z"⟩ : MethodName)) hown (mvT hZ (hw _ (List.mem_of_getElem? (i := 24) rfl))) (mvT hZ (hw _ (List.mem_of_getElem? (i := 25) rfl))) (notFace_of_selects (args := #[]) (mvT hZ (hw _ (List.mem_of_getElem? (i := 27) rfl)))) (mvT hZ (hw _ (List.mem_of_getElem? (i := 27) rfl))) (mvT hZ (hw _ (List.mem_of_getElem? (i := 26) rfl))) (by decide) (backOf (W := 0) (own_rmH l Z a0 hw [] b96 b74 0 6 true T97.heap n0 Z81''''' HR (by decide)) hZ (hw _ (List.mem_of_getElem? (i := 28) rfl)) (hw _ (List.mem_of_getElem? (i := 8) rfl)) (by decide) (by decide)) q98a q98c (g := (mkF m 220 #[.val (.int md), .val (.int sp), .val (.int tg), .val (.long fi), .second, .val (.int (1 : Int32)), .val (.int lf), .val (.int l1), .val (.int t1), .val (.int t2), .val (.ref b73), .val (.ref b74), .val (.ref b96), .unset, .unset, .unset] [(.ref b96)])) rfl (by rw [hml]; rfl) (Steps.refl _) (argsL := []) (rest := []) (lenOf own_pd66 rfl) rfl (by show 2 * 0 + _ ≤ _; exact Nat.le_of_eq rfl) (hb hby at_220) (fun _ _ => ⟨rfl, rfl, (by decide : 3 + 0 ≤ _), (by decide : 9 + 0 ≤ _)⟩)
          dsimp only [Pt.U, Pt.locs, Pt.cells, Pt.slots] at X98 l98 y98 z98 st98 hQ98
          subst l98 y98 z98
          obtain ⟨rfl, N98q, EQ3⟩ := hQ98
          have N98 := Fr.app N97 N98q
          refine Goes.tr st98 ?_
          show Goes p e below s _ _ _ (T98.setTop (mkF m 223 #[.val (.int md), .val (.int sp), .val (.int tg), .val (.long fi), .second, .val (.int (1 : Int32)), .val (.int lf), .val (.int l1), .val (.int t1), .val (.int t2), .val (.ref b73), .val (.ref b74), .val (.ref b96), .unset, .unset, .unset] [(.int (own_bI true))]))
          refine Goes.st (fun t_ k_ => XS.istore X98.here hx rfl (hb hby at_223) rfl  (l' := #[.val (.int md), .val (.int sp), .val (.int tg), .val (.long fi), .second, .val (.int (1 : Int32)), .val (.int lf), .val (.int l1), .val (.int t1), .val (.int t2), .val (.ref b73), .val (.ref b74), .val (.ref b96), .val (.int (own_bI true)), .unset, .unset]) rfl k_) ?_
          show Goes p e below s _ _ _ (T98.setTop (mkF m 225 #[.val (.int md), .val (.int sp), .val (.int tg), .val (.long fi), .second, .val (.int (1 : Int32)), .val (.int lf), .val (.int l1), .val (.int t1), .val (.int t2), .val (.ref b73), .val (.ref b74), .val (.ref b96), .val (.int (own_bI true)), .unset, .unset] []))
          refine Goes.st (fun t_ k_ => XS.aload X98.here hx rfl (hb hby at_225) rfl rfl k_) ?_
          show Goes p e below s _ _ _ (T98.setTop (mkF m 227 #[.val (.int md), .val (.int sp), .val (.int tg), .val (.long fi), .second, .val (.int (1 : Int32)), .val (.int lf), .val (.int l1), .val (.int t1), .val (.int t2), .val (.ref b73), .val (.ref b74), .val (.ref b96), .val (.int (own_bI true)), .unset, .unset] [(.ref b96)]))
          obtain ⟨cq99, kq99, q99a, q99b, q99c⟩ := isOf hZ EQ3 E_b96
          obtain ⟨_, _, ⟨T99, L99, k99, n99⟩, -, X99, ⟨Lc99, hQ99, l99, y99, z99⟩, st99⟩ := X98.virtualBack hx (y := (⟨"com/example/torniquete/torniquete/core/DerReader", "hasNext", "()Z"⟩ : MethodName)) (z := (⟨"com/example/torniquete/torniquete/core/DerReader", "hasNext", "()Z"⟩ : MethodName)) hown (mvT hZ (hw _ (List.mem_of_getElem? (i := 24) rfl))) (mvT hZ (hw _ (List.mem_of_getElem? (i := 25) rfl))) (notFace_of_selects (args := #[]) (mvT hZ (hw _ (List.mem_of_getElem? (i := 27) rfl)))) (mvT hZ (hw _ (List.mem_of_getElem? (i := 27) rfl))) (mvT hZ (hw _ (List.mem_of_getElem? (i := 26) rfl))) (by decide) (backOf (W := 0) (own_rmH l Z a0 hw [] b96 b74 0 6 true T97.heap n0 Z81''''' HR (by decide)) hZ (hw _ (List.mem_of_getElem? (i := 28) rfl)) (hw _ (List.mem_of_getElem? (i := 8) rfl)) (by decide) (by decide)) q99a q99c (g := (mkF m 227 #[.val (.int md), .val (.int sp), .val (.int tg), .val (.long fi), .second, .val (.int (1 : Int32)), .val (.int lf), .val (.int l1), .val (.int t1), .val (.int t2), .val (.ref b73), .val (.ref b74), .val (.ref b96), .val (.int (own_bI true)), .unset, .unset] [(.ref b96)])) rfl (by rw [hml]; rfl) (Steps.refl _) (argsL := []) (rest := []) (lenOf own_pd66 rfl) rfl (by show 2 * 0 + _ ≤ _; exact Nat.le_of_eq rfl) (hb hby at_227) (fun _ _ => ⟨rfl, EQ3, (by decide : 3 + 0 ≤ _), (by decide : 9 + 0 ≤ _)⟩)
          dsimp only [Pt.U, Pt.locs, Pt.cells, Pt.slots] at X99 l99 y99 z99 st99 hQ99
          subst l99 y99 z99
          obtain ⟨rfl, N99q, EQ4⟩ := hQ99
          have N99 := Fr.app N98 N99q
          refine Goes.tr st99 ?_
          show Goes p e below s _ _ _ (T99.setTop (mkF m 230 #[.val (.int md), .val (.int sp), .val (.int tg), .val (.long fi), .second, .val (.int (1 : Int32)), .val (.int lf), .val (.int l1), .val (.int t1), .val (.int t2), .val (.ref b73), .val (.ref b74), .val (.ref b96), .val (.int (own_bI true)), .unset, .unset] [(.int (own_bI true))]))
          refine Goes.st (fun t_ k_ => XS.istore X99.here hx rfl (hb hby at_230) rfl  (l' := #[.val (.int md), .val (.int sp), .val (.int tg), .val (.long fi), .second, .val (.int (1 : Int32)), .val (.int lf), .val (.int l1), .val (.int t1), .val (.int t2), .val (.ref b73), .val (.ref b74), .val (.ref b96), .val (.int (own_bI true)), .val (.int (own_bI true)), .unset]) rfl k_) ?_
          show Goes p e below s _ _ _ (T99.setTop (mkF m 232 #[.val (.int md), .val (.int sp), .val (.int tg), .val (.long fi), .second, .val (.int (1 : Int32)), .val (.int lf), .val (.int l1), .val (.int t1), .val (.int t2), .val (.ref b73), .val (.ref b74), .val (.ref b96), .val (.int (own_bI true)), .val (.int (own_bI true)), .unset] []))
          refine Goes.st (fun t_ k_ => XS.iload X99.here hx rfl (hb hby at_232) rfl  k_) ?_
          show Goes p e below s _ _ _ (T99.setTop (mkF m 234 #[.val (.int md), .val (.int sp), .val (.int tg), .val (.long fi), .second, .val (.int (1 : Int32)), .val (.int lf), .val (.int l1), .val (.int t1), .val (.int t2), .val (.ref b73), .val (.ref b74), .val (.ref b96), .val (.int (own_bI true)), .val (.int (own_bI true)), .unset] [(.int (1 : Int32))]))
          refine Goes.st (fun t_ k_ => XS.ifYes X99.here hx rfl (pc0 := 234) (pc' := 253) rfl (hb hby at_234) rfl ((if0 _ _).trans (feq (by decide)).2) (by decide) (by decide) k_) ?_
          show Goes p e below s _ _ _ (T99.setTop (mkF m 253 #[.val (.int md), .val (.int sp), .val (.int tg), .val (.long fi), .second, .val (.int (1 : Int32)), .val (.int lf), .val (.int l1), .val (.int t1), .val (.int t2), .val (.ref b73), .val (.ref b74), .val (.ref b96), .val (.int (own_bI true)), .val (.int (own_bI true)), .unset] []))
          refine Goes.st (fun t_ k_ => XS.iload X99.here hx rfl (hb hby at_253) rfl  k_) ?_
          show Goes p e below s _ _ _ (T99.setTop (mkF m 255 #[.val (.int md), .val (.int sp), .val (.int tg), .val (.long fi), .second, .val (.int (1 : Int32)), .val (.int lf), .val (.int l1), .val (.int t1), .val (.int t2), .val (.ref b73), .val (.ref b74), .val (.ref b96), .val (.int (own_bI true)), .val (.int (own_bI true)), .unset] [(.int (own_bI true))]))
          refine Goes.st (fun t_ k_ => XS.ifNo X99.here hx rfl (hb hby at_255) rfl ((if0 _ _).trans (feq (by decide)).1) k_) ?_
          show Goes p e below s _ _ _ (T99.setTop (mkF m 258 #[.val (.int md), .val (.int sp), .val (.int tg), .val (.long fi), .second, .val (.int (1 : Int32)), .val (.int lf), .val (.int l1), .val (.int t1), .val (.int t2), .val (.ref b73), .val (.ref b74), .val (.ref b96), .val (.int (own_bI true)), .val (.int (own_bI true)), .unset] []))
          refine Goes.st (fun t_ k_ => XS.iload X99.here hx rfl (hb hby at_258) rfl  k_) ?_
          show Goes p e below s _ _ _ (T99.setTop (mkF m 260 #[.val (.int md), .val (.int sp), .val (.int tg), .val (.long fi), .second, .val (.int (1 : Int32)), .val (.int lf), .val (.int l1), .val (.int t1), .val (.int t2), .val (.ref b73), .val (.ref b74), .val (.ref b96), .val (.int (own_bI true)), .val (.int (own_bI true)), .unset] [(.int (own_bI true))]))
          refine Goes.st (fun t_ k_ => XS.ifYes X99.here hx rfl (pc0 := 260) (pc' := 265) rfl (hb hby at_260) rfl ((if0 _ _).trans (feq (by decide)).2) (by decide) (by decide) k_) ?_
          show Goes p e below s _ _ _ (T99.setTop (mkF m 265 #[.val (.int md), .val (.int sp), .val (.int tg), .val (.long fi), .second, .val (.int (1 : Int32)), .val (.int lf), .val (.int l1), .val (.int t1), .val (.int t2), .val (.ref b73), .val (.ref b74), .val (.ref b96), .val (.int (own_bI true)), .val (.int (own_bI true)), .unset] []))
          refine Goes.st (fun t_ k_ => XS.aload X99.here hx rfl (hb hby at_265) rfl rfl k_) ?_
          show Goes p e below s _ _ _ (T99.setTop (mkF m 267 #[.val (.int md), .val (.int sp), .val (.int tg), .val (.long fi), .second, .val (.int (1 : Int32)), .val (.int lf), .val (.int l1), .val (.int t1), .val (.int t2), .val (.ref b73), .val (.ref b74), .val (.ref b96), .val (.int (own_bI true)), .val (.int (own_bI true)), .unset] [(.ref b96)]))
          obtain ⟨cq100, kq100, q100a, q100b, q100c⟩ := isOf hZ EQ4 E_b96
          obtain ⟨_, _, ⟨T100, L100, k100, n100⟩, -, X100, ⟨Lc100, hQ100, l100, y100, z100⟩, st100⟩ := X99.virtualBack hx (y := (⟨"com/example/torniquete/torniquete/core/DerReader", "next", "()Lcom/example/torniquete/torniquete/core/DerReader$Element;"⟩ : MethodName)) (z := (⟨"com/example/torniquete/torniquete/core/DerReader", "next", "()Lcom/example/torniquete/torniquete/core/DerReader$Element;"⟩ : MethodName)) hown (mvT hZ (hw _ (List.mem_of_getElem? (i := 29) rfl))) (mvT hZ (hw _ (List.mem_of_getElem? (i := 30) rfl))) (notFace_of_selects (args := #[]) (mvT hZ (hw _ (List.mem_of_getElem? (i := 32) rfl)))) (mvT hZ (hw _ (List.mem_of_getElem? (i := 32) rfl))) (mvT hZ (hw _ (List.mem_of_getElem? (i := 31) rfl))) (by decide) (backOf (W := 0) (own_rmNl l Z a0 hw [] b96 b74 (nar .byte t1.toInt8.toInt32) k74 [(.int (nar .byte (t1.toInt8.toInt32))), (.int (nar .byte (-127 : Int32))), (.int (nar .byte (3 : Int32))), (.int f3), (.int f4), (.int f5)] T97.heap n0 Z81''''' HR V_b74 (Ne.symm ne_b74_b96) rfl (own_tagB ht1) rfl rfl gn_b96) hZ (hw _ (List.mem_of_getElem? (i := 33) rfl)) (hw _ (List.mem_of_getElem? (i := 8) rfl)) (by decide) (by decide)) q100a q100c (g := (mkF m 267 #[.val (.int md), .val (.int sp), .val (.int tg), .val (.long fi), .second, .val (.int (1 : Int32)), .val (.int lf), .val (.int l1), .val (.int t1), .val (.int t2), .val (.ref b73), .val (.ref b74), .val (.ref b96), .val (.int (own_bI true)), .val (.int (own_bI true)), .unset] [(.ref b96)])) rfl (by rw [hml]; rfl) (Steps.refl _) (argsL := []) (rest := []) (lenOf own_pd197 rfl) rfl (by show 2 * 0 + _ ≤ _; exact Nat.le_of_eq rfl) (hb hby at_267) (fun _ _ => ⟨rfl, EQ4, (by decide : 3 + 1 ≤ _), (by decide : 9 + 5 ≤ _)⟩)
          dsimp only [Pt.U, Pt.locs, Pt.cells, Pt.slots] at X100 l100 y100 z100 st100 hQ100
          subst l100 y100 z100
          obtain ⟨el, rfl, N100q, KN, HR⟩ := hQ100
          have N100 := Fr.app N99 N100q
          refine Goes.tr st100 ?_
          have V_b73 := V_b73.keep KN (ninS ne_b73_b96 nin0)
          have V_b74 := V_b74.keep KN (ninS ne_b74_b96 nin0)
          have Z81'''''' := Nat.le_trans Z81''''' KN.1
          rw [show (3 : Int32) + 3 = 6 by decide] at HR
          have HR' := HR
          obtain ⟨E_b96, Fb_b96, Fp_b96, Fe_b96⟩ := HR'
          show Goes p e below s _ _ _ (T100.setTop (mkF m 270 #[.val (.int md), .val (.int sp), .val (.int tg), .val (.long fi), .second, .val (.int (1 : Int32)), .val (.int lf), .val (.int l1), .val (.int t1), .val (.int t2), .val (.ref b73), .val (.ref b74), .val (.ref b96), .val (.int (own_bI true)), .val (.int (own_bI true)), .unset] [(.ref el)]))
          refine Goes.st (fun t_ k_ => XS.pop X100.here hx rfl (hb hby at_270) rfl rfl k_) ?_
          show Goes p e below s _ _ _ (T100.setTop (mkF m 271 #[.val (.int md), .val (.int sp), .val (.int tg), .val (.long fi), .second, .val (.int (1 : Int32)), .val (.int lf), .val (.int l1), .val (.int t1), .val (.int t2), .val (.ref b73), .val (.ref b74), .val (.ref b96), .val (.int (own_bI true)), .val (.int (own_bI true)), .unset] []))
          refine Goes.st (fun t_ k_ => XS.aload X100.here hx rfl (hb hby at_271) rfl rfl k_) ?_
          show Goes p e below s _ _ _ (T100.setTop (mkF m 273 #[.val (.int md), .val (.int sp), .val (.int tg), .val (.long fi), .second, .val (.int (1 : Int32)), .val (.int lf), .val (.int l1), .val (.int t1), .val (.int t2), .val (.ref b73), .val (.ref b74), .val (.ref b96), .val (.int (own_bI true)), .val (.int (own_bI true)), .unset] [(.ref b96)]))
          obtain ⟨cq101, kq101, q101a, q101b, q101c⟩ := isOf hZ rfl E_b96
          obtain ⟨_, _, ⟨T101, L101, k101, n101⟩, -, X101, ⟨Lc101, hQ101, l101, y101, z101⟩, st101⟩ := X100.virtualBack hx (y := (⟨"com/example/torniquete/torniquete/core/DerReader", "hasNext", "()Z"⟩ : MethodName)) (z := (⟨"com/example/torniquete/torniquete/core/DerReader", "hasNext", "()Z"⟩ : MethodName)) hown (mvT hZ (hw _ (List.mem_of_getElem? (i := 24) rfl))) (mvT hZ (hw _ (List.mem_of_getElem? (i := 25) rfl))) (notFace_of_selects (args := #[]) (mvT hZ (hw _ (List.mem_of_getElem? (i := 27) rfl)))) (mvT hZ (hw _ (List.mem_of_getElem? (i := 27) rfl))) (mvT hZ (hw _ (List.mem_of_getElem? (i := 26) rfl))) (by decide) (backOf (W := 0) (own_rmH l Z a0 hw [] b96 b74 6 6 false T100.heap n0 Z81'''''' HR (by decide)) hZ (hw _ (List.mem_of_getElem? (i := 28) rfl)) (hw _ (List.mem_of_getElem? (i := 8) rfl)) (by decide) (by decide)) q101a q101c (g := (mkF m 273 #[.val (.int md), .val (.int sp), .val (.int tg), .val (.long fi), .second, .val (.int (1 : Int32)), .val (.int lf), .val (.int l1), .val (.int t1), .val (.int t2), .val (.ref b73), .val (.ref b74), .val (.ref b96), .val (.int (own_bI true)), .val (.int (own_bI true)), .unset] [(.ref b96)])) rfl (by rw [hml]; rfl) (Steps.refl _) (argsL := []) (rest := []) (lenOf own_pd66 rfl) rfl (by show 2 * 0 + _ ≤ _; exact Nat.le_of_eq rfl) (hb hby at_273) (fun _ _ => ⟨rfl, rfl, (by decide : 4 + 0 ≤ _), (by decide : 14 + 0 ≤ _)⟩)
          dsimp only [Pt.U, Pt.locs, Pt.cells, Pt.slots] at X101 l101 y101 z101 st101 hQ101
          subst l101 y101 z101
          obtain ⟨rfl, N101q, EQ5⟩ := hQ101
          have N101 := Fr.app N100 N101q
          refine Goes.tr st101 ?_
          show Goes p e below s _ _ _ (T101.setTop (mkF m 276 #[.val (.int md), .val (.int sp), .val (.int tg), .val (.long fi), .second, .val (.int (1 : Int32)), .val (.int lf), .val (.int l1), .val (.int t1), .val (.int t2), .val (.ref b73), .val (.ref b74), .val (.ref b96), .val (.int (own_bI true)), .val (.int (own_bI true)), .unset] [(.int (own_bI false))]))
          refine Goes.st (fun t_ k_ => XS.istore X101.here hx rfl (hb hby at_276) rfl  (l' := #[.val (.int md), .val (.int sp), .val (.int tg), .val (.long fi), .second, .val (.int (1 : Int32)), .val (.int lf), .val (.int l1), .val (.int t1), .val (.int t2), .val (.ref b73), .val (.ref b74), .val (.ref b96), .val (.int (own_bI true)), .val (.int (own_bI true)), .val (.int (own_bI false))]) rfl k_) ?_
          show Goes p e below s _ _ _ (T101.setTop (mkF m 278 #[.val (.int md), .val (.int sp), .val (.int tg), .val (.long fi), .second, .val (.int (1 : Int32)), .val (.int lf), .val (.int l1), .val (.int t1), .val (.int t2), .val (.ref b73), .val (.ref b74), .val (.ref b96), .val (.int (own_bI true)), .val (.int (own_bI true)), .val (.int (own_bI false))] []))
          refine Goes.st (fun t_ k_ => XS.iload X101.here hx rfl (hb hby at_278) rfl  k_) ?_
          show Goes p e below s _ _ _ (T101.setTop (mkF m 280 #[.val (.int md), .val (.int sp), .val (.int tg), .val (.long fi), .second, .val (.int (1 : Int32)), .val (.int lf), .val (.int l1), .val (.int t1), .val (.int t2), .val (.ref b73), .val (.ref b74), .val (.ref b96), .val (.int (own_bI true)), .val (.int (own_bI true)), .val (.int (own_bI false))] [(.int (1 : Int32))]))
          refine Goes.st (fun t_ k_ => XS.iconst X101.here hx rfl (hb hby at_280) k_) ?_
          show Goes p e below s _ _ _ (T101.setTop (mkF m 281 #[.val (.int md), .val (.int sp), .val (.int tg), .val (.long fi), .second, .val (.int (1 : Int32)), .val (.int lf), .val (.int l1), .val (.int t1), .val (.int t2), .val (.ref b73), .val (.ref b74), .val (.ref b96), .val (.int (own_bI true)), .val (.int (own_bI true)), .val (.int (own_bI false))] [(.int (1 : Int32)), (.int (1 : Int32))]))
          refine Goes.st (fun t_ k_ => XS.icmpNo X101.here hx rfl (hb hby at_281) rfl (teq (by decide)).2 k_) ?_
          show Goes p e below s _ _ _ (T101.setTop (mkF m 284 #[.val (.int md), .val (.int sp), .val (.int tg), .val (.long fi), .second, .val (.int (1 : Int32)), .val (.int lf), .val (.int l1), .val (.int t1), .val (.int t2), .val (.ref b73), .val (.ref b74), .val (.ref b96), .val (.int (own_bI true)), .val (.int (own_bI true)), .val (.int (own_bI false))] []))
          refine Goes.st (fun t_ k_ => XS.iload X101.here hx rfl (hb hby at_284) rfl  k_) ?_
          show Goes p e below s _ _ _ (T101.setTop (mkF m 286 #[.val (.int md), .val (.int sp), .val (.int tg), .val (.long fi), .second, .val (.int (1 : Int32)), .val (.int lf), .val (.int l1), .val (.int t1), .val (.int t2), .val (.ref b73), .val (.ref b74), .val (.ref b96), .val (.int (own_bI true)), .val (.int (own_bI true)), .val (.int (own_bI false))] [(.int (own_bI false))]))
          refine Goes.st (fun t_ k_ => XS.ifNo X101.here hx rfl (hb hby at_286) rfl ((if0 _ _).trans (teq (by decide)).2) k_) ?_
          show Goes p e below s _ _ _ (T101.setTop (mkF m 289 #[.val (.int md), .val (.int sp), .val (.int tg), .val (.long fi), .second, .val (.int (1 : Int32)), .val (.int lf), .val (.int l1), .val (.int t1), .val (.int t2), .val (.ref b73), .val (.ref b74), .val (.ref b96), .val (.int (own_bI true)), .val (.int (own_bI true)), .val (.int (own_bI false))] []))
          refine Goes.st (fun t_ k_ => XS.iconst X101.here hx rfl (hb hby at_289) k_) ?_
          show Goes p e below s _ _ _ (T101.setTop (mkF m 290 #[.val (.int md), .val (.int sp), .val (.int tg), .val (.long fi), .second, .val (.int (1 : Int32)), .val (.int lf), .val (.int l1), .val (.int t1), .val (.int t2), .val (.ref b73), .val (.ref b74), .val (.ref b96), .val (.int (own_bI true)), .val (.int (own_bI true)), .val (.int (own_bI false))] [(.int (1 : Int32))]))
          refine Goes.st (fun t_ k_ => XS.goto X101.here hx rfl (pc0 := 290) (pc' := 294) rfl (hb hby at_290) (by decide) (by decide) k_) ?_
          show Goes p e below s _ _ _ (T101.setTop (mkF m 294 #[.val (.int md), .val (.int sp), .val (.int tg), .val (.long fi), .second, .val (.int (1 : Int32)), .val (.int lf), .val (.int l1), .val (.int t1), .val (.int t2), .val (.ref b73), .val (.ref b74), .val (.ref b96), .val (.int (own_bI true)), .val (.int (own_bI true)), .val (.int (own_bI false))] [(.int (1 : Int32))]))
          exact Goes.retN X101 hx (t := .boolean) hret hlk (by simp) (hb hby at_294) (by decide) (by decide) (⟨rfl, N101⟩)
      · show Goes p e below s _ _ _ (T81.setTop (mkF m 115 #[.val (.int md), .val (.int sp), .val (.int tg), .val (.long fi), .second, .val (.int (2 : Int32)), .val (.int lf), .val (.int l1), .val (.int t1), .val (.int t2), .val (.ref b73), .val (.ref b74), .unset, .unset, .unset, .unset] []))
        refine Goes.st (fun t_ k_ => XS.iload X81.here hx rfl (hb hby at_115) rfl  k_) ?_
        show Goes p e below s _ _ _ (T81.setTop (mkF m 117 #[.val (.int md), .val (.int sp), .val (.int tg), .val (.long fi), .second, .val (.int (2 : Int32)), .val (.int lf), .val (.int l1), .val (.int t1), .val (.int t2), .val (.ref b73), .val (.ref b74), .unset, .unset, .unset, .unset] [(.int (2 : Int32))]))
        refine Goes.st (fun t_ k_ => XS.iconst X81.here hx rfl (hb hby at_117) k_) ?_
        show Goes p e below s _ _ _ (T81.setTop (mkF m 118 #[.val (.int md), .val (.int sp), .val (.int tg), .val (.long fi), .second, .val (.int (2 : Int32)), .val (.int lf), .val (.int l1), .val (.int t1), .val (.int t2), .val (.ref b73), .val (.ref b74), .unset, .unset, .unset, .unset] [(.int (1 : Int32)), (.int (2 : Int32))]))
        refine Goes.st (fun t_ k_ => XS.icmpYes X81.here hx rfl (pc0 := 118) (pc' := 155) rfl (hb hby at_118) rfl (feq (by decide)).2 (by decide) (by decide) k_) ?_
        show Goes p e below s _ _ _ (T81.setTop (mkF m 155 #[.val (.int md), .val (.int sp), .val (.int tg), .val (.long fi), .second, .val (.int (2 : Int32)), .val (.int lf), .val (.int l1), .val (.int t1), .val (.int t2), .val (.ref b73), .val (.ref b74), .unset, .unset, .unset, .unset] []))
        refine Goes.st (fun t_ k_ => XS.iload X81.here hx rfl (hb hby at_155) rfl  k_) ?_
        show Goes p e below s _ _ _ (T81.setTop (mkF m 157 #[.val (.int md), .val (.int sp), .val (.int tg), .val (.long fi), .second, .val (.int (2 : Int32)), .val (.int lf), .val (.int l1), .val (.int t1), .val (.int t2), .val (.ref b73), .val (.ref b74), .unset, .unset, .unset, .unset] [(.int (2 : Int32))]))
        refine Goes.st (fun t_ k_ => XS.iconst X81.here hx rfl (hb hby at_157) k_) ?_
        show Goes p e below s _ _ _ (T81.setTop (mkF m 158 #[.val (.int md), .val (.int sp), .val (.int tg), .val (.long fi), .second, .val (.int (2 : Int32)), .val (.int lf), .val (.int l1), .val (.int t1), .val (.int t2), .val (.ref b73), .val (.ref b74), .unset, .unset, .unset, .unset] [(.int (2 : Int32)), (.int (2 : Int32))]))
        refine Goes.st (fun t_ k_ => XS.icmpNo X81.here hx rfl (hb hby at_158) rfl (teq (by decide)).2 k_) ?_
        rcases hl1 with rfl | rfl | rfl
        · show Goes p e below s _ _ _ (T81.setTop (mkF m 161 #[.val (.int md), .val (.int sp), .val (.int tg), .val (.long fi), .second, .val (.int (2 : Int32)), .val (.int lf), .val (.int (0 : Int32)), .val (.int t1), .val (.int t2), .val (.ref b73), .val (.ref b74), .unset, .unset, .unset, .unset] []))
          refine Goes.st (fun t_ k_ => XS.aload X81.here hx rfl (hb hby at_161) rfl rfl k_) ?_
          show Goes p e below s _ _ _ (T81.setTop (mkF m 163 #[.val (.int md), .val (.int sp), .val (.int tg), .val (.long fi), .second, .val (.int (2 : Int32)), .val (.int lf), .val (.int (0 : Int32)), .val (.int t1), .val (.int t2), .val (.ref b73), .val (.ref b74), .unset, .unset, .unset, .unset] [(.ref b74)]))
          refine Goes.st (fun t_ k_ => XS.iconst X81.here hx rfl (hb hby at_163) k_) ?_
          show Goes p e below s _ _ _ (T81.setTop (mkF m 164 #[.val (.int md), .val (.int sp), .val (.int tg), .val (.long fi), .second, .val (.int (2 : Int32)), .val (.int lf), .val (.int (0 : Int32)), .val (.int t1), .val (.int t2), .val (.ref b73), .val (.ref b74), .unset, .unset, .unset, .unset] [(.int (0 : Int32)), (.ref b74)]))
          refine Goes.st (fun t_ k_ => XS.iload X81.here hx rfl (hb hby at_164) rfl  k_) ?_
          show Goes p e below s _ _ _ (T81.setTop (mkF m 166 #[.val (.int md), .val (.int sp), .val (.int tg), .val (.long fi), .second, .val (.int (2 : Int32)), .val (.int lf), .val (.int (0 : Int32)), .val (.int t1), .val (.int t2), .val (.ref b73), .val (.ref b74), .unset, .unset, .unset, .unset] [(.int t1), (.int (0 : Int32)), (.ref b74)]))
          refine Goes.st (fun t_ k_ => XS.i2b X81.here hx rfl (hb hby at_166) rfl k_) ?_
          show Goes p e below s _ _ _ (T81.setTop (mkF m 167 #[.val (.int md), .val (.int sp), .val (.int tg), .val (.long fi), .second, .val (.int (2 : Int32)), .val (.int lf), .val (.int (0 : Int32)), .val (.int t1), .val (.int t2), .val (.ref b73), .val (.ref b74), .unset, .unset, .unset, .unset] [(.int (t1.toInt8.toInt32)), (.int (0 : Int32)), (.ref b74)]))
          obtain ⟨cl102, Ar102, q102, S102, M102, H102, G102⟩ := V_b74
          obtain ⟨T102, h102, X102, e102, W102, st102⟩ := stB X81 hx hZ e81 Ar102 (j := (0 : Int32)) (inb_of S102 ⟨by decide, by decide⟩) (g := (mkF m 167 #[.val (.int md), .val (.int sp), .val (.int tg), .val (.long fi), .second, .val (.int (2 : Int32)), .val (.int lf), .val (.int (0 : Int32)), .val (.int t1), .val (.int t2), .val (.ref b73), .val (.ref b74), .unset, .unset, .unset, .unset] [(.int (t1.toInt8.toInt32)), (.int (0 : Int32)), (.ref b74)])) rfl rfl (hb hby at_167)
          have V_b74 := Arv.set Ar102 q102 S102 M102 H102 G102 (fits_nar_byte _) W102 0 rfl (Nat.le_of_ble_eq_true rfl)
          refine Goes.st st102 ?_
          have V_b74 : Arv Z h102 b74 k74 .byte (6 : Int32) [(.int (nar .byte (t1.toInt8.toInt32))), (.int f1), (.int f2), (.int f3), (.int f4), (.int f5)] (.int (0 : Int32)) := V_b74
          have V_b73 := V_b73.other W102 ne_b73_b74
          have N102 := Fr.snoc X102 N81 gn_b74
          have Z81' := Nat.le_trans Z81 (Keep.of_wr W102).1
          show Goes p e below s _ _ _ (T102.setTop (mkF m 168 #[.val (.int md), .val (.int sp), .val (.int tg), .val (.long fi), .second, .val (.int (2 : Int32)), .val (.int lf), .val (.int (0 : Int32)), .val (.int t1), .val (.int t2), .val (.ref b73), .val (.ref b74), .unset, .unset, .unset, .unset] []))
          refine Goes.st (fun t_ k_ => XS.aload X102.here hx rfl (hb hby at_168) rfl rfl k_) ?_
          show Goes p e below s _ _ _ (T102.setTop (mkF m 170 #[.val (.int md), .val (.int sp), .val (.int tg), .val (.long fi), .second, .val (.int (2 : Int32)), .val (.int lf), .val (.int (0 : Int32)), .val (.int t1), .val (.int t2), .val (.ref b73), .val (.ref b74), .unset, .unset, .unset, .unset] [(.ref b74)]))
          refine Goes.st (fun t_ k_ => XS.iconst X102.here hx rfl (hb hby at_170) k_) ?_
          show Goes p e below s _ _ _ (T102.setTop (mkF m 171 #[.val (.int md), .val (.int sp), .val (.int tg), .val (.long fi), .second, .val (.int (2 : Int32)), .val (.int lf), .val (.int (0 : Int32)), .val (.int t1), .val (.int t2), .val (.ref b73), .val (.ref b74), .unset, .unset, .unset, .unset] [(.int (1 : Int32)), (.ref b74)]))
          refine Goes.st (fun t_ k_ => XS.iload X102.here hx rfl (hb hby at_171) rfl  k_) ?_
          show Goes p e below s _ _ _ (T102.setTop (mkF m 173 #[.val (.int md), .val (.int sp), .val (.int tg), .val (.long fi), .second, .val (.int (2 : Int32)), .val (.int lf), .val (.int (0 : Int32)), .val (.int t1), .val (.int t2), .val (.ref b73), .val (.ref b74), .unset, .unset, .unset, .unset] [(.int (0 : Int32)), (.int (1 : Int32)), (.ref b74)]))
          refine Goes.st (fun t_ k_ => XS.i2b X102.here hx rfl (hb hby at_173) rfl k_) ?_
          show Goes p e below s _ _ _ (T102.setTop (mkF m 174 #[.val (.int md), .val (.int sp), .val (.int tg), .val (.long fi), .second, .val (.int (2 : Int32)), .val (.int lf), .val (.int (0 : Int32)), .val (.int t1), .val (.int t2), .val (.ref b73), .val (.ref b74), .unset, .unset, .unset, .unset] [(.int ((0 : Int32).toInt8.toInt32)), (.int (1 : Int32)), (.ref b74)]))
          obtain ⟨cl103, Ar103, q103, S103, M103, H103, G103⟩ := V_b74
          obtain ⟨T103, h103, X103, e103, W103, st103⟩ := stB X102 hx hZ e102 Ar103 (j := (1 : Int32)) (inb_of S103 ⟨by decide, by decide⟩) (g := (mkF m 174 #[.val (.int md), .val (.int sp), .val (.int tg), .val (.long fi), .second, .val (.int (2 : Int32)), .val (.int lf), .val (.int (0 : Int32)), .val (.int t1), .val (.int t2), .val (.ref b73), .val (.ref b74), .unset, .unset, .unset, .unset] [(.int ((0 : Int32).toInt8.toInt32)), (.int (1 : Int32)), (.ref b74)])) rfl rfl (hb hby at_174)
          have V_b74 := Arv.set Ar103 q103 S103 M103 H103 G103 (fits_nar_byte _) W103 1 rfl (Nat.le_of_ble_eq_true rfl)
          refine Goes.st st103 ?_
          have V_b74 : Arv Z h103 b74 k74 .byte (6 : Int32) [(.int (nar .byte (t1.toInt8.toInt32))), (.int (nar .byte ((0 : Int32).toInt8.toInt32))), (.int f2), (.int f3), (.int f4), (.int f5)] (.int (0 : Int32)) := V_b74
          have V_b73 := V_b73.other W103 ne_b73_b74
          have N103 := Fr.snoc X103 N102 gn_b74
          have Z81'' := Nat.le_trans Z81' (Keep.of_wr W103).1
          show Goes p e below s _ _ _ (T103.setTop (mkF m 175 #[.val (.int md), .val (.int sp), .val (.int tg), .val (.long fi), .second, .val (.int (2 : Int32)), .val (.int lf), .val (.int (0 : Int32)), .val (.int t1), .val (.int t2), .val (.ref b73), .val (.ref b74), .unset, .unset, .unset, .unset] []))
          refine Goes.st (fun t_ k_ => XS.aload X103.here hx rfl (hb hby at_175) rfl rfl k_) ?_
          show Goes p e below s _ _ _ (T103.setTop (mkF m 177 #[.val (.int md), .val (.int sp), .val (.int tg), .val (.long fi), .second, .val (.int (2 : Int32)), .val (.int lf), .val (.int (0 : Int32)), .val (.int t1), .val (.int t2), .val (.ref b73), .val (.ref b74), .unset, .unset, .unset, .unset] [(.ref b74)]))
          refine Goes.st (fun t_ k_ => XS.iconst X103.here hx rfl (hb hby at_177) k_) ?_
          show Goes p e below s _ _ _ (T103.setTop (mkF m 178 #[.val (.int md), .val (.int sp), .val (.int tg), .val (.long fi), .second, .val (.int (2 : Int32)), .val (.int lf), .val (.int (0 : Int32)), .val (.int t1), .val (.int t2), .val (.ref b73), .val (.ref b74), .unset, .unset, .unset, .unset] [(.int (2 : Int32)), (.ref b74)]))
          refine Goes.st (fun t_ k_ => XS.iload X103.here hx rfl (hb hby at_178) rfl  k_) ?_
          show Goes p e below s _ _ _ (T103.setTop (mkF m 180 #[.val (.int md), .val (.int sp), .val (.int tg), .val (.long fi), .second, .val (.int (2 : Int32)), .val (.int lf), .val (.int (0 : Int32)), .val (.int t1), .val (.int t2), .val (.ref b73), .val (.ref b74), .unset, .unset, .unset, .unset] [(.int (0 : Int32)), (.int (2 : Int32)), (.ref b74)]))
          refine Goes.st (fun t_ k_ => XS.iadd X103.here hx rfl (hb hby at_180) rfl k_) ?_
          show Goes p e below s _ _ _ (T103.setTop (mkF m 181 #[.val (.int md), .val (.int sp), .val (.int tg), .val (.long fi), .second, .val (.int (2 : Int32)), .val (.int lf), .val (.int (0 : Int32)), .val (.int t1), .val (.int t2), .val (.ref b73), .val (.ref b74), .unset, .unset, .unset, .unset] [(.int ((2 : Int32) + (0 : Int32))), (.ref b74)]))
          have lit104 : ((2 : Int32) + (0 : Int32)) = (2 : Int32) := by decide
          rw [lit104]
          show Goes p e below s _ _ _ (T103.setTop (mkF m 181 #[.val (.int md), .val (.int sp), .val (.int tg), .val (.long fi), .second, .val (.int (2 : Int32)), .val (.int lf), .val (.int (0 : Int32)), .val (.int t1), .val (.int t2), .val (.ref b73), .val (.ref b74), .unset, .unset, .unset, .unset] [(.int (2 : Int32)), (.ref b74)]))
          show Goes p e below s _ _ _ (T103.setTop (mkF m 181 #[.val (.int md), .val (.int sp), .val (.int tg), .val (.long fi), .second, .val (.int (2 : Int32)), .val (.int lf), .val (.int (0 : Int32)), .val (.int t1), .val (.int t2), .val (.ref b73), .val (.ref b74), .unset, .unset, .unset, .unset] [(.int (2 : Int32)), (.ref b74)]))
          refine Goes.st (fun t_ k_ => XS.iload X103.here hx rfl (hb hby at_181) rfl  k_) ?_
          show Goes p e below s _ _ _ (T103.setTop (mkF m 183 #[.val (.int md), .val (.int sp), .val (.int tg), .val (.long fi), .second, .val (.int (2 : Int32)), .val (.int lf), .val (.int (0 : Int32)), .val (.int t1), .val (.int t2), .val (.ref b73), .val (.ref b74), .unset, .unset, .unset, .unset] [(.int t2), (.int (2 : Int32)), (.ref b74)]))
          refine Goes.st (fun t_ k_ => XS.i2b X103.here hx rfl (hb hby at_183) rfl k_) ?_
          show Goes p e below s _ _ _ (T103.setTop (mkF m 184 #[.val (.int md), .val (.int sp), .val (.int tg), .val (.long fi), .second, .val (.int (2 : Int32)), .val (.int lf), .val (.int (0 : Int32)), .val (.int t1), .val (.int t2), .val (.ref b73), .val (.ref b74), .unset, .unset, .unset, .unset] [(.int (t2.toInt8.toInt32)), (.int (2 : Int32)), (.ref b74)]))
          obtain ⟨cl105, Ar105, q105, S105, M105, H105, G105⟩ := V_b74
          obtain ⟨T105, h105, X105, e105, W105, st105⟩ := stB X103 hx hZ e103 Ar105 (j := (2 : Int32)) (inb_of S105 ⟨by decide, by decide⟩) (g := (mkF m 184 #[.val (.int md), .val (.int sp), .val (.int tg), .val (.long fi), .second, .val (.int (2 : Int32)), .val (.int lf), .val (.int (0 : Int32)), .val (.int t1), .val (.int t2), .val (.ref b73), .val (.ref b74), .unset, .unset, .unset, .unset] [(.int (t2.toInt8.toInt32)), (.int (2 : Int32)), (.ref b74)])) rfl rfl (hb hby at_184)
          have V_b74 := Arv.set Ar105 q105 S105 M105 H105 G105 (fits_nar_byte _) W105 2 rfl (Nat.le_of_ble_eq_true rfl)
          refine Goes.st st105 ?_
          have V_b74 : Arv Z h105 b74 k74 .byte (6 : Int32) [(.int (nar .byte (t1.toInt8.toInt32))), (.int (nar .byte ((0 : Int32).toInt8.toInt32))), (.int (nar .byte (t2.toInt8.toInt32))), (.int f3), (.int f4), (.int f5)] (.int (0 : Int32)) := V_b74
          have V_b73 := V_b73.other W105 ne_b73_b74
          have N105 := Fr.snoc X105 N103 gn_b74
          have Z81''' := Nat.le_trans Z81'' (Keep.of_wr W105).1
          show Goes p e below s _ _ _ (T105.setTop (mkF m 185 #[.val (.int md), .val (.int sp), .val (.int tg), .val (.long fi), .second, .val (.int (2 : Int32)), .val (.int lf), .val (.int (0 : Int32)), .val (.int t1), .val (.int t2), .val (.ref b73), .val (.ref b74), .unset, .unset, .unset, .unset] []))
          refine Goes.st (fun t_ k_ => XS.aload X105.here hx rfl (hb hby at_185) rfl rfl k_) ?_
          show Goes p e below s _ _ _ (T105.setTop (mkF m 187 #[.val (.int md), .val (.int sp), .val (.int tg), .val (.long fi), .second, .val (.int (2 : Int32)), .val (.int lf), .val (.int (0 : Int32)), .val (.int t1), .val (.int t2), .val (.ref b73), .val (.ref b74), .unset, .unset, .unset, .unset] [(.ref b74)]))
          refine Goes.st (fun t_ k_ => XS.iconst X105.here hx rfl (hb hby at_187) k_) ?_
          show Goes p e below s _ _ _ (T105.setTop (mkF m 188 #[.val (.int md), .val (.int sp), .val (.int tg), .val (.long fi), .second, .val (.int (2 : Int32)), .val (.int lf), .val (.int (0 : Int32)), .val (.int t1), .val (.int t2), .val (.ref b73), .val (.ref b74), .unset, .unset, .unset, .unset] [(.int (3 : Int32)), (.ref b74)]))
          refine Goes.st (fun t_ k_ => XS.iload X105.here hx rfl (hb hby at_188) rfl  k_) ?_
          show Goes p e below s _ _ _ (T105.setTop (mkF m 190 #[.val (.int md), .val (.int sp), .val (.int tg), .val (.long fi), .second, .val (.int (2 : Int32)), .val (.int lf), .val (.int (0 : Int32)), .val (.int t1), .val (.int t2), .val (.ref b73), .val (.ref b74), .unset, .unset, .unset, .unset] [(.int (0 : Int32)), (.int (3 : Int32)), (.ref b74)]))
          refine Goes.st (fun t_ k_ => XS.iadd X105.here hx rfl (hb hby at_190) rfl k_) ?_
          show Goes p e below s _ _ _ (T105.setTop (mkF m 191 #[.val (.int md), .val (.int sp), .val (.int tg), .val (.long fi), .second, .val (.int (2 : Int32)), .val (.int lf), .val (.int (0 : Int32)), .val (.int t1), .val (.int t2), .val (.ref b73), .val (.ref b74), .unset, .unset, .unset, .unset] [(.int ((3 : Int32) + (0 : Int32))), (.ref b74)]))
          have lit106 : ((3 : Int32) + (0 : Int32)) = (3 : Int32) := by decide
          rw [lit106]
          show Goes p e below s _ _ _ (T105.setTop (mkF m 191 #[.val (.int md), .val (.int sp), .val (.int tg), .val (.long fi), .second, .val (.int (2 : Int32)), .val (.int lf), .val (.int (0 : Int32)), .val (.int t1), .val (.int t2), .val (.ref b73), .val (.ref b74), .unset, .unset, .unset, .unset] [(.int (3 : Int32)), (.ref b74)]))
          show Goes p e below s _ _ _ (T105.setTop (mkF m 191 #[.val (.int md), .val (.int sp), .val (.int tg), .val (.long fi), .second, .val (.int (2 : Int32)), .val (.int lf), .val (.int (0 : Int32)), .val (.int t1), .val (.int t2), .val (.ref b73), .val (.ref b74), .unset, .unset, .unset, .unset] [(.int (3 : Int32)), (.ref b74)]))
          refine Goes.st (fun t_ k_ => XS.iconst X105.here hx rfl (hb hby at_191) k_) ?_
          show Goes p e below s _ _ _ (T105.setTop (mkF m 192 #[.val (.int md), .val (.int sp), .val (.int tg), .val (.long fi), .second, .val (.int (2 : Int32)), .val (.int lf), .val (.int (0 : Int32)), .val (.int t1), .val (.int t2), .val (.ref b73), .val (.ref b74), .unset, .unset, .unset, .unset] [(.int (2 : Int32)), (.int (3 : Int32)), (.ref b74)]))
          refine Goes.st (fun t_ k_ => XS.iload X105.here hx rfl (hb hby at_192) rfl  k_) ?_
          show Goes p e below s _ _ _ (T105.setTop (mkF m 194 #[.val (.int md), .val (.int sp), .val (.int tg), .val (.long fi), .second, .val (.int (2 : Int32)), .val (.int lf), .val (.int (0 : Int32)), .val (.int t1), .val (.int t2), .val (.ref b73), .val (.ref b74), .unset, .unset, .unset, .unset] [(.int (0 : Int32)), (.int (2 : Int32)), (.int (3 : Int32)), (.ref b74)]))
          refine Goes.st (fun t_ k_ => XS.isub X105.here hx rfl (hb hby at_194) rfl k_) ?_
          show Goes p e below s _ _ _ (T105.setTop (mkF m 195 #[.val (.int md), .val (.int sp), .val (.int tg), .val (.long fi), .second, .val (.int (2 : Int32)), .val (.int lf), .val (.int (0 : Int32)), .val (.int t1), .val (.int t2), .val (.ref b73), .val (.ref b74), .unset, .unset, .unset, .unset] [(.int ((2 : Int32) - (0 : Int32))), (.int (3 : Int32)), (.ref b74)]))
          refine Goes.st (fun t_ k_ => XS.i2b X105.here hx rfl (hb hby at_195) rfl k_) ?_
          show Goes p e below s _ _ _ (T105.setTop (mkF m 196 #[.val (.int md), .val (.int sp), .val (.int tg), .val (.long fi), .second, .val (.int (2 : Int32)), .val (.int lf), .val (.int (0 : Int32)), .val (.int t1), .val (.int t2), .val (.ref b73), .val (.ref b74), .unset, .unset, .unset, .unset] [(.int (((2 : Int32) - (0 : Int32)).toInt8.toInt32)), (.int (3 : Int32)), (.ref b74)]))
          obtain ⟨cl107, Ar107, q107, S107, M107, H107, G107⟩ := V_b74
          obtain ⟨T107, h107, X107, e107, W107, st107⟩ := stB X105 hx hZ e105 Ar107 (j := (3 : Int32)) (inb_of S107 ⟨by decide, by decide⟩) (g := (mkF m 196 #[.val (.int md), .val (.int sp), .val (.int tg), .val (.long fi), .second, .val (.int (2 : Int32)), .val (.int lf), .val (.int (0 : Int32)), .val (.int t1), .val (.int t2), .val (.ref b73), .val (.ref b74), .unset, .unset, .unset, .unset] [(.int (((2 : Int32) - (0 : Int32)).toInt8.toInt32)), (.int (3 : Int32)), (.ref b74)])) rfl rfl (hb hby at_196)
          have V_b74 := Arv.set Ar107 q107 S107 M107 H107 G107 (fits_nar_byte _) W107 3 rfl (Nat.le_of_ble_eq_true rfl)
          refine Goes.st st107 ?_
          have V_b74 : Arv Z h107 b74 k74 .byte (6 : Int32) [(.int (nar .byte (t1.toInt8.toInt32))), (.int (nar .byte ((0 : Int32).toInt8.toInt32))), (.int (nar .byte (t2.toInt8.toInt32))), (.int (nar .byte (((2 : Int32) - (0 : Int32)).toInt8.toInt32))), (.int f4), (.int f5)] (.int (0 : Int32)) := V_b74
          have V_b73 := V_b73.other W107 ne_b73_b74
          have N107 := Fr.snoc X107 N105 gn_b74
          have Z81'''' := Nat.le_trans Z81''' (Keep.of_wr W107).1
          show Goes p e below s _ _ _ (T107.setTop (mkF m 197 #[.val (.int md), .val (.int sp), .val (.int tg), .val (.long fi), .second, .val (.int (2 : Int32)), .val (.int lf), .val (.int (0 : Int32)), .val (.int t1), .val (.int t2), .val (.ref b73), .val (.ref b74), .unset, .unset, .unset, .unset] []))
          show Goes p e below s _ _ _ (T107.setTop (mkF m 197 #[.val (.int md), .val (.int sp), .val (.int tg), .val (.long fi), .second, .val (.int (2 : Int32)), .val (.int lf), .val (.int (0 : Int32)), .val (.int t1), .val (.int t2), .val (.ref b73), .val (.ref b74), .unset, .unset, .unset, .unset] []))
          obtain ⟨T108, h108, X108, e108, E108, A108, D108, -, st108⟩ := newO X107 hx hZ hown (hw _ (List.mem_of_getElem? (i := 6) rfl)) (hw _ (List.mem_of_getElem? (i := 7) rfl)) (hw _ (List.mem_of_getElem? (i := 8) rfl)) e107 (g := (mkF m 197 #[.val (.int md), .val (.int sp), .val (.int tg), .val (.long fi), .second, .val (.int (2 : Int32)), .val (.int lf), .val (.int (0 : Int32)), .val (.int t1), .val (.int t2), .val (.ref b73), .val (.ref b74), .unset, .unset, .unset, .unset] [])) rfl (hb hby at_197) (by decide) (by decide)
          obtain ⟨b108, g108⟩ : ∃ z, z = h107.size := ⟨_, rfl⟩
          rw [← g108] at A108 D108 st108
          have ne_b73_b108 : b73 ≠ b108 := Nat.ne_of_lt (Nat.lt_of_lt_of_le V_b73.lt (Nat.le_of_eq g108.symm))
          have ne_b74_b108 : b74 ≠ b108 := Nat.ne_of_lt (Nat.lt_of_lt_of_le V_b74.lt (Nat.le_of_eq g108.symm))
          have gn_b108 : n0 ≤ b108 := Nat.le_trans Z81'''' (Nat.le_of_eq g108.symm)
          refine Goes.st st108 ?_
          have V_b73 := V_b73.ext E108
          have V_b74 := V_b74.ext E108
          have Z81''''' := Nat.le_trans Z81'''' E108.1
          have Ex_b108 := A108
          have F_bytes_b108 : Fld Z h108 b108 "com/example/torniquete/torniquete/core/DerReader" "bytes" "[B" .null := D108 (Or.inr (hw _ (List.mem_of_getElem? (i := 19) rfl))) (ty := (.array .byte)) (by decide)
          have F_position_b108 : Fld Z h108 b108 "com/example/torniquete/torniquete/core/DerReader" "position" "I" (.int (0 : Int32)) := D108 (Or.inl (hw _ (List.mem_of_getElem? (i := 21) rfl))) (ty := .int) (by decide)
          have F_end_b108 : Fld Z h108 b108 "com/example/torniquete/torniquete/core/DerReader" "end" "I" (.int (0 : Int32)) := D108 (Or.inr (hw _ (List.mem_of_getElem? (i := 23) rfl))) (ty := .int) (by decide)
          show Goes p e below s _ _ _ (T108.setTop (mkF m 200 #[.val (.int md), .val (.int sp), .val (.int tg), .val (.long fi), .second, .val (.int (2 : Int32)), .val (.int lf), .val (.int (0 : Int32)), .val (.int t1), .val (.int t2), .val (.ref b73), .val (.ref b74), .unset, .unset, .unset, .unset] [(.ref b108)]))
          refine Goes.st (fun t_ k_ => XS.dup X108.here hx rfl (hb hby at_200) rfl rfl k_) ?_
          show Goes p e below s _ _ _ (T108.setTop (mkF m 201 #[.val (.int md), .val (.int sp), .val (.int tg), .val (.long fi), .second, .val (.int (2 : Int32)), .val (.int lf), .val (.int (0 : Int32)), .val (.int t1), .val (.int t2), .val (.ref b73), .val (.ref b74), .unset, .unset, .unset, .unset] [(.ref b108), (.ref b108)]))
          refine Goes.st (fun t_ k_ => XS.iload X108.here hx rfl (hb hby at_201) rfl  k_) ?_
          show Goes p e below s _ _ _ (T108.setTop (mkF m 203 #[.val (.int md), .val (.int sp), .val (.int tg), .val (.long fi), .second, .val (.int (2 : Int32)), .val (.int lf), .val (.int (0 : Int32)), .val (.int t1), .val (.int t2), .val (.ref b73), .val (.ref b74), .unset, .unset, .unset, .unset] [(.int (2 : Int32)), (.ref b108), (.ref b108)]))
          refine Goes.st (fun t_ k_ => XS.ifYes X108.here hx rfl (pc0 := 203) (pc' := 211) rfl (hb hby at_203) rfl ((if0 _ _).trans (feq (by decide)).2) (by decide) (by decide) k_) ?_
          show Goes p e below s _ _ _ (T108.setTop (mkF m 211 #[.val (.int md), .val (.int sp), .val (.int tg), .val (.long fi), .second, .val (.int (2 : Int32)), .val (.int lf), .val (.int (0 : Int32)), .val (.int t1), .val (.int t2), .val (.ref b73), .val (.ref b74), .unset, .unset, .unset, .unset] [(.ref b108), (.ref b108)]))
          refine Goes.st (fun t_ k_ => XS.aload X108.here hx rfl (hb hby at_211) rfl rfl k_) ?_
          show Goes p e below s _ _ _ (T108.setTop (mkF m 213 #[.val (.int md), .val (.int sp), .val (.int tg), .val (.long fi), .second, .val (.int (2 : Int32)), .val (.int lf), .val (.int (0 : Int32)), .val (.int t1), .val (.int t2), .val (.ref b73), .val (.ref b74), .unset, .unset, .unset, .unset] [(.ref b74), (.ref b108), (.ref b108)]))
          obtain ⟨_, _, ⟨T109, L109, k109, n109⟩, -, X109, ⟨Lc109, hQ109, l109, y109, z109⟩, st109⟩ := X108.specialBack hx (y := (⟨"com/example/torniquete/torniquete/core/DerReader", "<init>", "([B)V"⟩ : MethodName)) rfl hown (mvT hZ (hw _ (List.mem_of_getElem? (i := 9) rfl))) (mvT hZ (hw _ (List.mem_of_getElem? (i := 10) rfl))) (mvT hZ (hw _ (List.mem_of_getElem? (i := 11) rfl))) (by decide) (backOf (W := 1) (own_rmI1 l Z a0 hw [] b108 b74 k74 (6 : Int32) _ h108 n0 Z81''''' Ex_b108 F_bytes_b108 F_position_b108 F_end_b108 V_b74 gn_b108) hZ (hw _ (List.mem_of_getElem? (i := 11) rfl)) (hw _ (List.mem_of_getElem? (i := 8) rfl)) (by decide) (by decide)) (g := (mkF m 213 #[.val (.int md), .val (.int sp), .val (.int tg), .val (.long fi), .second, .val (.int (2 : Int32)), .val (.int lf), .val (.int (0 : Int32)), .val (.int t1), .val (.int t2), .val (.ref b73), .val (.ref b74), .unset, .unset, .unset, .unset] [(.ref b74), (.ref b108), (.ref b108)])) rfl (by rw [hml]; rfl) (Steps.refl _) (a := b108) (argsL := [(.ref b74)]) (rest := [(.ref b108)]) (lenOf own_pd196 rfl) rfl (by show 2 * 0 + _ ≤ _; exact Nat.le_of_eq rfl) (hb hby at_213) (fun _ _ => ⟨rfl, e108, (by decide : 3 + 0 ≤ _), (by decide : 9 + 0 ≤ _)⟩)
          dsimp only [Pt.U, Pt.locs, Pt.cells, Pt.slots] at X109 l109 y109 z109 st109 hQ109
          subst l109 y109 z109
          obtain ⟨rfl, N109q, KI, HR⟩ := hQ109
          have N109 := Fr.app N107 N109q
          refine Goes.tr st109 ?_
          have V_b73 := V_b73.keep KI (ninS ne_b73_b108 nin0)
          have V_b74 := V_b74.keep KI (ninS ne_b74_b108 nin0)
          have Z81'''''' := Nat.le_trans Z81''''' KI.1
          have HR' := HR
          obtain ⟨E_b108, Fb_b108, Fp_b108, Fe_b108⟩ := HR'
          show Goes p e below s _ _ _ (T109.setTop (mkF m 216 #[.val (.int md), .val (.int sp), .val (.int tg), .val (.long fi), .second, .val (.int (2 : Int32)), .val (.int lf), .val (.int (0 : Int32)), .val (.int t1), .val (.int t2), .val (.ref b73), .val (.ref b74), .unset, .unset, .unset, .unset] [(.ref b108)]))
          refine Goes.st (fun t_ k_ => XS.astore X109.here hx rfl (hb hby at_216) rfl rfl (l' := #[.val (.int md), .val (.int sp), .val (.int tg), .val (.long fi), .second, .val (.int (2 : Int32)), .val (.int lf), .val (.int (0 : Int32)), .val (.int t1), .val (.int t2), .val (.ref b73), .val (.ref b74), .val (.ref b108), .unset, .unset, .unset]) rfl k_) ?_
          show Goes p e below s _ _ _ (T109.setTop (mkF m 218 #[.val (.int md), .val (.int sp), .val (.int tg), .val (.long fi), .second, .val (.int (2 : Int32)), .val (.int lf), .val (.int (0 : Int32)), .val (.int t1), .val (.int t2), .val (.ref b73), .val (.ref b74), .val (.ref b108), .unset, .unset, .unset] []))
          refine Goes.st (fun t_ k_ => XS.aload X109.here hx rfl (hb hby at_218) rfl rfl k_) ?_
          show Goes p e below s _ _ _ (T109.setTop (mkF m 220 #[.val (.int md), .val (.int sp), .val (.int tg), .val (.long fi), .second, .val (.int (2 : Int32)), .val (.int lf), .val (.int (0 : Int32)), .val (.int t1), .val (.int t2), .val (.ref b73), .val (.ref b74), .val (.ref b108), .unset, .unset, .unset] [(.ref b108)]))
          obtain ⟨cq110, kq110, q110a, q110b, q110c⟩ := isOf hZ rfl E_b108
          obtain ⟨_, _, ⟨T110, L110, k110, n110⟩, -, X110, ⟨Lc110, hQ110, l110, y110, z110⟩, st110⟩ := X109.virtualBack hx (y := (⟨"com/example/torniquete/torniquete/core/DerReader", "hasNext", "()Z"⟩ : MethodName)) (z := (⟨"com/example/torniquete/torniquete/core/DerReader", "hasNext", "()Z"⟩ : MethodName)) hown (mvT hZ (hw _ (List.mem_of_getElem? (i := 24) rfl))) (mvT hZ (hw _ (List.mem_of_getElem? (i := 25) rfl))) (notFace_of_selects (args := #[]) (mvT hZ (hw _ (List.mem_of_getElem? (i := 27) rfl)))) (mvT hZ (hw _ (List.mem_of_getElem? (i := 27) rfl))) (mvT hZ (hw _ (List.mem_of_getElem? (i := 26) rfl))) (by decide) (backOf (W := 0) (own_rmH l Z a0 hw [] b108 b74 0 6 true T109.heap n0 Z81'''''' HR (by decide)) hZ (hw _ (List.mem_of_getElem? (i := 28) rfl)) (hw _ (List.mem_of_getElem? (i := 8) rfl)) (by decide) (by decide)) q110a q110c (g := (mkF m 220 #[.val (.int md), .val (.int sp), .val (.int tg), .val (.long fi), .second, .val (.int (2 : Int32)), .val (.int lf), .val (.int (0 : Int32)), .val (.int t1), .val (.int t2), .val (.ref b73), .val (.ref b74), .val (.ref b108), .unset, .unset, .unset] [(.ref b108)])) rfl (by rw [hml]; rfl) (Steps.refl _) (argsL := []) (rest := []) (lenOf own_pd66 rfl) rfl (by show 2 * 0 + _ ≤ _; exact Nat.le_of_eq rfl) (hb hby at_220) (fun _ _ => ⟨rfl, rfl, (by decide : 3 + 0 ≤ _), (by decide : 9 + 0 ≤ _)⟩)
          dsimp only [Pt.U, Pt.locs, Pt.cells, Pt.slots] at X110 l110 y110 z110 st110 hQ110
          subst l110 y110 z110
          obtain ⟨rfl, N110q, EQ3⟩ := hQ110
          have N110 := Fr.app N109 N110q
          refine Goes.tr st110 ?_
          show Goes p e below s _ _ _ (T110.setTop (mkF m 223 #[.val (.int md), .val (.int sp), .val (.int tg), .val (.long fi), .second, .val (.int (2 : Int32)), .val (.int lf), .val (.int (0 : Int32)), .val (.int t1), .val (.int t2), .val (.ref b73), .val (.ref b74), .val (.ref b108), .unset, .unset, .unset] [(.int (own_bI true))]))
          refine Goes.st (fun t_ k_ => XS.istore X110.here hx rfl (hb hby at_223) rfl  (l' := #[.val (.int md), .val (.int sp), .val (.int tg), .val (.long fi), .second, .val (.int (2 : Int32)), .val (.int lf), .val (.int (0 : Int32)), .val (.int t1), .val (.int t2), .val (.ref b73), .val (.ref b74), .val (.ref b108), .val (.int (own_bI true)), .unset, .unset]) rfl k_) ?_
          show Goes p e below s _ _ _ (T110.setTop (mkF m 225 #[.val (.int md), .val (.int sp), .val (.int tg), .val (.long fi), .second, .val (.int (2 : Int32)), .val (.int lf), .val (.int (0 : Int32)), .val (.int t1), .val (.int t2), .val (.ref b73), .val (.ref b74), .val (.ref b108), .val (.int (own_bI true)), .unset, .unset] []))
          refine Goes.st (fun t_ k_ => XS.aload X110.here hx rfl (hb hby at_225) rfl rfl k_) ?_
          show Goes p e below s _ _ _ (T110.setTop (mkF m 227 #[.val (.int md), .val (.int sp), .val (.int tg), .val (.long fi), .second, .val (.int (2 : Int32)), .val (.int lf), .val (.int (0 : Int32)), .val (.int t1), .val (.int t2), .val (.ref b73), .val (.ref b74), .val (.ref b108), .val (.int (own_bI true)), .unset, .unset] [(.ref b108)]))
          obtain ⟨cq111, kq111, q111a, q111b, q111c⟩ := isOf hZ EQ3 E_b108
          obtain ⟨_, _, ⟨T111, L111, k111, n111⟩, -, X111, ⟨Lc111, hQ111, l111, y111, z111⟩, st111⟩ := X110.virtualBack hx (y := (⟨"com/example/torniquete/torniquete/core/DerReader", "hasNext", "()Z"⟩ : MethodName)) (z := (⟨"com/example/torniquete/torniquete/core/DerReader", "hasNext", "()Z"⟩ : MethodName)) hown (mvT hZ (hw _ (List.mem_of_getElem? (i := 24) rfl))) (mvT hZ (hw _ (List.mem_of_getElem? (i := 25) rfl))) (notFace_of_selects (args := #[]) (mvT hZ (hw _ (List.mem_of_getElem? (i := 27) rfl)))) (mvT hZ (hw _ (List.mem_of_getElem? (i := 27) rfl))) (mvT hZ (hw _ (List.mem_of_getElem? (i := 26) rfl))) (by decide) (backOf (W := 0) (own_rmH l Z a0 hw [] b108 b74 0 6 true T109.heap n0 Z81'''''' HR (by decide)) hZ (hw _ (List.mem_of_getElem? (i := 28) rfl)) (hw _ (List.mem_of_getElem? (i := 8) rfl)) (by decide) (by decide)) q111a q111c (g := (mkF m 227 #[.val (.int md), .val (.int sp), .val (.int tg), .val (.long fi), .second, .val (.int (2 : Int32)), .val (.int lf), .val (.int (0 : Int32)), .val (.int t1), .val (.int t2), .val (.ref b73), .val (.ref b74), .val (.ref b108), .val (.int (own_bI true)), .unset, .unset] [(.ref b108)])) rfl (by rw [hml]; rfl) (Steps.refl _) (argsL := []) (rest := []) (lenOf own_pd66 rfl) rfl (by show 2 * 0 + _ ≤ _; exact Nat.le_of_eq rfl) (hb hby at_227) (fun _ _ => ⟨rfl, EQ3, (by decide : 3 + 0 ≤ _), (by decide : 9 + 0 ≤ _)⟩)
          dsimp only [Pt.U, Pt.locs, Pt.cells, Pt.slots] at X111 l111 y111 z111 st111 hQ111
          subst l111 y111 z111
          obtain ⟨rfl, N111q, EQ4⟩ := hQ111
          have N111 := Fr.app N110 N111q
          refine Goes.tr st111 ?_
          show Goes p e below s _ _ _ (T111.setTop (mkF m 230 #[.val (.int md), .val (.int sp), .val (.int tg), .val (.long fi), .second, .val (.int (2 : Int32)), .val (.int lf), .val (.int (0 : Int32)), .val (.int t1), .val (.int t2), .val (.ref b73), .val (.ref b74), .val (.ref b108), .val (.int (own_bI true)), .unset, .unset] [(.int (own_bI true))]))
          refine Goes.st (fun t_ k_ => XS.istore X111.here hx rfl (hb hby at_230) rfl  (l' := #[.val (.int md), .val (.int sp), .val (.int tg), .val (.long fi), .second, .val (.int (2 : Int32)), .val (.int lf), .val (.int (0 : Int32)), .val (.int t1), .val (.int t2), .val (.ref b73), .val (.ref b74), .val (.ref b108), .val (.int (own_bI true)), .val (.int (own_bI true)), .unset]) rfl k_) ?_
          show Goes p e below s _ _ _ (T111.setTop (mkF m 232 #[.val (.int md), .val (.int sp), .val (.int tg), .val (.long fi), .second, .val (.int (2 : Int32)), .val (.int lf), .val (.int (0 : Int32)), .val (.int t1), .val (.int t2), .val (.ref b73), .val (.ref b74), .val (.ref b108), .val (.int (own_bI true)), .val (.int (own_bI true)), .unset] []))
          refine Goes.st (fun t_ k_ => XS.iload X111.here hx rfl (hb hby at_232) rfl  k_) ?_
          show Goes p e below s _ _ _ (T111.setTop (mkF m 234 #[.val (.int md), .val (.int sp), .val (.int tg), .val (.long fi), .second, .val (.int (2 : Int32)), .val (.int lf), .val (.int (0 : Int32)), .val (.int t1), .val (.int t2), .val (.ref b73), .val (.ref b74), .val (.ref b108), .val (.int (own_bI true)), .val (.int (own_bI true)), .unset] [(.int (2 : Int32))]))
          refine Goes.st (fun t_ k_ => XS.ifYes X111.here hx rfl (pc0 := 234) (pc' := 253) rfl (hb hby at_234) rfl ((if0 _ _).trans (feq (by decide)).2) (by decide) (by decide) k_) ?_
          show Goes p e below s _ _ _ (T111.setTop (mkF m 253 #[.val (.int md), .val (.int sp), .val (.int tg), .val (.long fi), .second, .val (.int (2 : Int32)), .val (.int lf), .val (.int (0 : Int32)), .val (.int t1), .val (.int t2), .val (.ref b73), .val (.ref b74), .val (.ref b108), .val (.int (own_bI true)), .val (.int (own_bI true)), .unset] []))
          refine Goes.st (fun t_ k_ => XS.iload X111.here hx rfl (hb hby at_253) rfl  k_) ?_
          show Goes p e below s _ _ _ (T111.setTop (mkF m 255 #[.val (.int md), .val (.int sp), .val (.int tg), .val (.long fi), .second, .val (.int (2 : Int32)), .val (.int lf), .val (.int (0 : Int32)), .val (.int t1), .val (.int t2), .val (.ref b73), .val (.ref b74), .val (.ref b108), .val (.int (own_bI true)), .val (.int (own_bI true)), .unset] [(.int (own_bI true))]))
          refine Goes.st (fun t_ k_ => XS.ifNo X111.here hx rfl (hb hby at_255) rfl ((if0 _ _).trans (feq (by decide)).1) k_) ?_
          show Goes p e below s _ _ _ (T111.setTop (mkF m 258 #[.val (.int md), .val (.int sp), .val (.int tg), .val (.long fi), .second, .val (.int (2 : Int32)), .val (.int lf), .val (.int (0 : Int32)), .val (.int t1), .val (.int t2), .val (.ref b73), .val (.ref b74), .val (.ref b108), .val (.int (own_bI true)), .val (.int (own_bI true)), .unset] []))
          refine Goes.st (fun t_ k_ => XS.iload X111.here hx rfl (hb hby at_258) rfl  k_) ?_
          show Goes p e below s _ _ _ (T111.setTop (mkF m 260 #[.val (.int md), .val (.int sp), .val (.int tg), .val (.long fi), .second, .val (.int (2 : Int32)), .val (.int lf), .val (.int (0 : Int32)), .val (.int t1), .val (.int t2), .val (.ref b73), .val (.ref b74), .val (.ref b108), .val (.int (own_bI true)), .val (.int (own_bI true)), .unset] [(.int (own_bI true))]))
          refine Goes.st (fun t_ k_ => XS.ifYes X111.here hx rfl (pc0 := 260) (pc' := 265) rfl (hb hby at_260) rfl ((if0 _ _).trans (feq (by decide)).2) (by decide) (by decide) k_) ?_
          show Goes p e below s _ _ _ (T111.setTop (mkF m 265 #[.val (.int md), .val (.int sp), .val (.int tg), .val (.long fi), .second, .val (.int (2 : Int32)), .val (.int lf), .val (.int (0 : Int32)), .val (.int t1), .val (.int t2), .val (.ref b73), .val (.ref b74), .val (.ref b108), .val (.int (own_bI true)), .val (.int (own_bI true)), .unset] []))
          refine Goes.st (fun t_ k_ => XS.aload X111.here hx rfl (hb hby at_265) rfl rfl k_) ?_
          show Goes p e below s _ _ _ (T111.setTop (mkF m 267 #[.val (.int md), .val (.int sp), .val (.int tg), .val (.long fi), .second, .val (.int (2 : Int32)), .val (.int lf), .val (.int (0 : Int32)), .val (.int t1), .val (.int t2), .val (.ref b73), .val (.ref b74), .val (.ref b108), .val (.int (own_bI true)), .val (.int (own_bI true)), .unset] [(.ref b108)]))
          obtain ⟨cq112, kq112, q112a, q112b, q112c⟩ := isOf hZ EQ4 E_b108
          obtain ⟨_, _, ⟨T112, L112, k112, n112⟩, -, X112, ⟨Lc112, hQ112, l112, y112, z112⟩, st112⟩ := X111.virtualBack hx (y := (⟨"com/example/torniquete/torniquete/core/DerReader", "next", "()Lcom/example/torniquete/torniquete/core/DerReader$Element;"⟩ : MethodName)) (z := (⟨"com/example/torniquete/torniquete/core/DerReader", "next", "()Lcom/example/torniquete/torniquete/core/DerReader$Element;"⟩ : MethodName)) hown (mvT hZ (hw _ (List.mem_of_getElem? (i := 29) rfl))) (mvT hZ (hw _ (List.mem_of_getElem? (i := 30) rfl))) (notFace_of_selects (args := #[]) (mvT hZ (hw _ (List.mem_of_getElem? (i := 32) rfl)))) (mvT hZ (hw _ (List.mem_of_getElem? (i := 32) rfl))) (mvT hZ (hw _ (List.mem_of_getElem? (i := 31) rfl))) (by decide) (backOf (W := 0) (own_rmNs l Z a0 hw [] b108 b74 0 (nar .byte t1.toInt8.toInt32) (nar .byte ((0 : Int32).toInt8.toInt32)) k74 [(.int (nar .byte (t1.toInt8.toInt32))), (.int (nar .byte ((0 : Int32).toInt8.toInt32))), (.int (nar .byte (t2.toInt8.toInt32))), (.int (nar .byte (((2 : Int32) - (0 : Int32)).toInt8.toInt32))), (.int f4), (.int f5)] T109.heap n0 Z81'''''' HR V_b74 (Ne.symm ne_b74_b108) ⟨by decide, by decide⟩ rfl (own_tagB ht1) ⟨by decide, by decide⟩ rfl (by decide) (by decide) gn_b108) hZ (hw _ (List.mem_of_getElem? (i := 33) rfl)) (hw _ (List.mem_of_getElem? (i := 8) rfl)) (by decide) (by decide)) q112a q112c (g := (mkF m 267 #[.val (.int md), .val (.int sp), .val (.int tg), .val (.long fi), .second, .val (.int (2 : Int32)), .val (.int lf), .val (.int (0 : Int32)), .val (.int t1), .val (.int t2), .val (.ref b73), .val (.ref b74), .val (.ref b108), .val (.int (own_bI true)), .val (.int (own_bI true)), .unset] [(.ref b108)])) rfl (by rw [hml]; rfl) (Steps.refl _) (argsL := []) (rest := []) (lenOf own_pd197 rfl) rfl (by show 2 * 0 + _ ≤ _; exact Nat.le_of_eq rfl) (hb hby at_267) (fun _ _ => ⟨rfl, EQ4, (by decide : 3 + 1 ≤ _), (by decide : 9 + 5 ≤ _)⟩)
          dsimp only [Pt.U, Pt.locs, Pt.cells, Pt.slots] at X112 l112 y112 z112 st112 hQ112
          subst l112 y112 z112
          obtain ⟨el, rfl, N112q, KN, HR⟩ := hQ112
          have N112 := Fr.app N111 N112q
          refine Goes.tr st112 ?_
          have V_b73 := V_b73.keep KN (ninS ne_b73_b108 nin0)
          have V_b74 := V_b74.keep KN (ninS ne_b74_b108 nin0)
          have Z81''''''' := Nat.le_trans Z81'''''' KN.1
          rw [show (0 : Int32) + 1 + 1 + ((nar .byte ((0 : Int32).toInt8.toInt32)) &&& 255) = 2 by decide] at HR
          have HR' := HR
          obtain ⟨E_b108, Fb_b108, Fp_b108, Fe_b108⟩ := HR'
          show Goes p e below s _ _ _ (T112.setTop (mkF m 270 #[.val (.int md), .val (.int sp), .val (.int tg), .val (.long fi), .second, .val (.int (2 : Int32)), .val (.int lf), .val (.int (0 : Int32)), .val (.int t1), .val (.int t2), .val (.ref b73), .val (.ref b74), .val (.ref b108), .val (.int (own_bI true)), .val (.int (own_bI true)), .unset] [(.ref el)]))
          refine Goes.st (fun t_ k_ => XS.pop X112.here hx rfl (hb hby at_270) rfl rfl k_) ?_
          show Goes p e below s _ _ _ (T112.setTop (mkF m 271 #[.val (.int md), .val (.int sp), .val (.int tg), .val (.long fi), .second, .val (.int (2 : Int32)), .val (.int lf), .val (.int (0 : Int32)), .val (.int t1), .val (.int t2), .val (.ref b73), .val (.ref b74), .val (.ref b108), .val (.int (own_bI true)), .val (.int (own_bI true)), .unset] []))
          refine Goes.st (fun t_ k_ => XS.aload X112.here hx rfl (hb hby at_271) rfl rfl k_) ?_
          show Goes p e below s _ _ _ (T112.setTop (mkF m 273 #[.val (.int md), .val (.int sp), .val (.int tg), .val (.long fi), .second, .val (.int (2 : Int32)), .val (.int lf), .val (.int (0 : Int32)), .val (.int t1), .val (.int t2), .val (.ref b73), .val (.ref b74), .val (.ref b108), .val (.int (own_bI true)), .val (.int (own_bI true)), .unset] [(.ref b108)]))
          obtain ⟨cq113, kq113, q113a, q113b, q113c⟩ := isOf hZ rfl E_b108
          obtain ⟨_, _, ⟨T113, L113, k113, n113⟩, -, X113, ⟨Lc113, hQ113, l113, y113, z113⟩, st113⟩ := X112.virtualBack hx (y := (⟨"com/example/torniquete/torniquete/core/DerReader", "hasNext", "()Z"⟩ : MethodName)) (z := (⟨"com/example/torniquete/torniquete/core/DerReader", "hasNext", "()Z"⟩ : MethodName)) hown (mvT hZ (hw _ (List.mem_of_getElem? (i := 24) rfl))) (mvT hZ (hw _ (List.mem_of_getElem? (i := 25) rfl))) (notFace_of_selects (args := #[]) (mvT hZ (hw _ (List.mem_of_getElem? (i := 27) rfl)))) (mvT hZ (hw _ (List.mem_of_getElem? (i := 27) rfl))) (mvT hZ (hw _ (List.mem_of_getElem? (i := 26) rfl))) (by decide) (backOf (W := 0) (own_rmH l Z a0 hw [] b108 b74 2 6 true T112.heap n0 Z81''''''' HR (by decide)) hZ (hw _ (List.mem_of_getElem? (i := 28) rfl)) (hw _ (List.mem_of_getElem? (i := 8) rfl)) (by decide) (by decide)) q113a q113c (g := (mkF m 273 #[.val (.int md), .val (.int sp), .val (.int tg), .val (.long fi), .second, .val (.int (2 : Int32)), .val (.int lf), .val (.int (0 : Int32)), .val (.int t1), .val (.int t2), .val (.ref b73), .val (.ref b74), .val (.ref b108), .val (.int (own_bI true)), .val (.int (own_bI true)), .unset] [(.ref b108)])) rfl (by rw [hml]; rfl) (Steps.refl _) (argsL := []) (rest := []) (lenOf own_pd66 rfl) rfl (by show 2 * 0 + _ ≤ _; exact Nat.le_of_eq rfl) (hb hby at_273) (fun _ _ => ⟨rfl, rfl, (by decide : 4 + 0 ≤ _), (by decide : 14 + 0 ≤ _)⟩)
          dsimp only [Pt.U, Pt.locs, Pt.cells, Pt.slots] at X113 l113 y113 z113 st113 hQ113
          subst l113 y113 z113
          obtain ⟨rfl, N113q, EQ5⟩ := hQ113
          have N113 := Fr.app N112 N113q
          refine Goes.tr st113 ?_
          show Goes p e below s _ _ _ (T113.setTop (mkF m 276 #[.val (.int md), .val (.int sp), .val (.int tg), .val (.long fi), .second, .val (.int (2 : Int32)), .val (.int lf), .val (.int (0 : Int32)), .val (.int t1), .val (.int t2), .val (.ref b73), .val (.ref b74), .val (.ref b108), .val (.int (own_bI true)), .val (.int (own_bI true)), .unset] [(.int (own_bI true))]))
          refine Goes.st (fun t_ k_ => XS.istore X113.here hx rfl (hb hby at_276) rfl  (l' := #[.val (.int md), .val (.int sp), .val (.int tg), .val (.long fi), .second, .val (.int (2 : Int32)), .val (.int lf), .val (.int (0 : Int32)), .val (.int t1), .val (.int t2), .val (.ref b73), .val (.ref b74), .val (.ref b108), .val (.int (own_bI true)), .val (.int (own_bI true)), .val (.int (own_bI true))]) rfl k_) ?_
          show Goes p e below s _ _ _ (T113.setTop (mkF m 278 #[.val (.int md), .val (.int sp), .val (.int tg), .val (.long fi), .second, .val (.int (2 : Int32)), .val (.int lf), .val (.int (0 : Int32)), .val (.int t1), .val (.int t2), .val (.ref b73), .val (.ref b74), .val (.ref b108), .val (.int (own_bI true)), .val (.int (own_bI true)), .val (.int (own_bI true))] []))
          refine Goes.st (fun t_ k_ => XS.iload X113.here hx rfl (hb hby at_278) rfl  k_) ?_
          show Goes p e below s _ _ _ (T113.setTop (mkF m 280 #[.val (.int md), .val (.int sp), .val (.int tg), .val (.long fi), .second, .val (.int (2 : Int32)), .val (.int lf), .val (.int (0 : Int32)), .val (.int t1), .val (.int t2), .val (.ref b73), .val (.ref b74), .val (.ref b108), .val (.int (own_bI true)), .val (.int (own_bI true)), .val (.int (own_bI true))] [(.int (2 : Int32))]))
          refine Goes.st (fun t_ k_ => XS.iconst X113.here hx rfl (hb hby at_280) k_) ?_
          show Goes p e below s _ _ _ (T113.setTop (mkF m 281 #[.val (.int md), .val (.int sp), .val (.int tg), .val (.long fi), .second, .val (.int (2 : Int32)), .val (.int lf), .val (.int (0 : Int32)), .val (.int t1), .val (.int t2), .val (.ref b73), .val (.ref b74), .val (.ref b108), .val (.int (own_bI true)), .val (.int (own_bI true)), .val (.int (own_bI true))] [(.int (1 : Int32)), (.int (2 : Int32))]))
          refine Goes.st (fun t_ k_ => XS.icmpYes X113.here hx rfl (pc0 := 281) (pc' := 295) rfl (hb hby at_281) rfl (feq (by decide)).2 (by decide) (by decide) k_) ?_
          show Goes p e below s _ _ _ (T113.setTop (mkF m 295 #[.val (.int md), .val (.int sp), .val (.int tg), .val (.long fi), .second, .val (.int (2 : Int32)), .val (.int lf), .val (.int (0 : Int32)), .val (.int t1), .val (.int t2), .val (.ref b73), .val (.ref b74), .val (.ref b108), .val (.int (own_bI true)), .val (.int (own_bI true)), .val (.int (own_bI true))] []))
          refine Goes.st (fun t_ k_ => XS.iload X113.here hx rfl (hb hby at_295) rfl  k_) ?_
          show Goes p e below s _ _ _ (T113.setTop (mkF m 297 #[.val (.int md), .val (.int sp), .val (.int tg), .val (.long fi), .second, .val (.int (2 : Int32)), .val (.int lf), .val (.int (0 : Int32)), .val (.int t1), .val (.int t2), .val (.ref b73), .val (.ref b74), .val (.ref b108), .val (.int (own_bI true)), .val (.int (own_bI true)), .val (.int (own_bI true))] [(.int (own_bI true))]))
          refine Goes.st (fun t_ k_ => XS.ifYes X113.here hx rfl (pc0 := 297) (pc' := 302) rfl (hb hby at_297) rfl ((if0 _ _).trans (feq (by decide)).2) (by decide) (by decide) k_) ?_
          show Goes p e below s _ _ _ (T113.setTop (mkF m 302 #[.val (.int md), .val (.int sp), .val (.int tg), .val (.long fi), .second, .val (.int (2 : Int32)), .val (.int lf), .val (.int (0 : Int32)), .val (.int t1), .val (.int t2), .val (.ref b73), .val (.ref b74), .val (.ref b108), .val (.int (own_bI true)), .val (.int (own_bI true)), .val (.int (own_bI true))] []))
          refine Goes.st (fun t_ k_ => XS.aload X113.here hx rfl (hb hby at_302) rfl rfl k_) ?_
          show Goes p e below s _ _ _ (T113.setTop (mkF m 304 #[.val (.int md), .val (.int sp), .val (.int tg), .val (.long fi), .second, .val (.int (2 : Int32)), .val (.int lf), .val (.int (0 : Int32)), .val (.int t1), .val (.int t2), .val (.ref b73), .val (.ref b74), .val (.ref b108), .val (.int (own_bI true)), .val (.int (own_bI true)), .val (.int (own_bI true))] [(.ref b108)]))
          obtain ⟨cq114, kq114, q114a, q114b, q114c⟩ := isOf hZ EQ5 E_b108
          obtain ⟨_, _, ⟨T114, L114, k114, n114⟩, -, X114, ⟨Lc114, hQ114, l114, y114, z114⟩, st114⟩ := X113.virtualBack hx (y := (⟨"com/example/torniquete/torniquete/core/DerReader", "next", "()Lcom/example/torniquete/torniquete/core/DerReader$Element;"⟩ : MethodName)) (z := (⟨"com/example/torniquete/torniquete/core/DerReader", "next", "()Lcom/example/torniquete/torniquete/core/DerReader$Element;"⟩ : MethodName)) hown (mvT hZ (hw _ (List.mem_of_getElem? (i := 29) rfl))) (mvT hZ (hw _ (List.mem_of_getElem? (i := 30) rfl))) (notFace_of_selects (args := #[]) (mvT hZ (hw _ (List.mem_of_getElem? (i := 32) rfl)))) (mvT hZ (hw _ (List.mem_of_getElem? (i := 32) rfl))) (mvT hZ (hw _ (List.mem_of_getElem? (i := 31) rfl))) (by decide) (backOf (W := 0) (own_rmNs l Z a0 hw [] b108 b74 2 (nar .byte t2.toInt8.toInt32) (nar .byte (((2 : Int32) - (0 : Int32)).toInt8.toInt32)) k74 [(.int (nar .byte (t1.toInt8.toInt32))), (.int (nar .byte ((0 : Int32).toInt8.toInt32))), (.int (nar .byte (t2.toInt8.toInt32))), (.int (nar .byte (((2 : Int32) - (0 : Int32)).toInt8.toInt32))), (.int f4), (.int f5)] T112.heap n0 Z81''''''' HR V_b74 (Ne.symm ne_b74_b108) ⟨by decide, by decide⟩ rfl (own_tagB ht2) ⟨by decide, by decide⟩ rfl (by decide) (by decide) gn_b108) hZ (hw _ (List.mem_of_getElem? (i := 33) rfl)) (hw _ (List.mem_of_getElem? (i := 8) rfl)) (by decide) (by decide)) q114a q114c (g := (mkF m 304 #[.val (.int md), .val (.int sp), .val (.int tg), .val (.long fi), .second, .val (.int (2 : Int32)), .val (.int lf), .val (.int (0 : Int32)), .val (.int t1), .val (.int t2), .val (.ref b73), .val (.ref b74), .val (.ref b108), .val (.int (own_bI true)), .val (.int (own_bI true)), .val (.int (own_bI true))] [(.ref b108)])) rfl (by rw [hml]; rfl) (Steps.refl _) (argsL := []) (rest := []) (lenOf own_pd197 rfl) rfl (by show 2 * 0 + _ ≤ _; exact Nat.le_of_eq rfl) (hb hby at_304) (fun _ _ => ⟨rfl, EQ5, (by decide : 4 + 1 ≤ _), (by decide : 14 + 5 ≤ _)⟩)
          dsimp only [Pt.U, Pt.locs, Pt.cells, Pt.slots] at X114 l114 y114 z114 st114 hQ114
          subst l114 y114 z114
          obtain ⟨el, rfl, N114q, KN, HR⟩ := hQ114
          have N114 := Fr.app N113 N114q
          refine Goes.tr st114 ?_
          have V_b73 := V_b73.keep KN (ninS ne_b73_b108 nin0)
          have V_b74 := V_b74.keep KN (ninS ne_b74_b108 nin0)
          have Z81'''''''' := Nat.le_trans Z81''''''' KN.1
          rw [show (2 : Int32) + 1 + 1 + ((nar .byte (((2 : Int32) - (0 : Int32)).toInt8.toInt32)) &&& 255) = 6 by decide] at HR
          have HR' := HR
          obtain ⟨E_b108, Fb_b108, Fp_b108, Fe_b108⟩ := HR'
          show Goes p e below s _ _ _ (T114.setTop (mkF m 307 #[.val (.int md), .val (.int sp), .val (.int tg), .val (.long fi), .second, .val (.int (2 : Int32)), .val (.int lf), .val (.int (0 : Int32)), .val (.int t1), .val (.int t2), .val (.ref b73), .val (.ref b74), .val (.ref b108), .val (.int (own_bI true)), .val (.int (own_bI true)), .val (.int (own_bI true))] [(.ref el)]))
          refine Goes.st (fun t_ k_ => XS.pop X114.here hx rfl (hb hby at_307) rfl rfl k_) ?_
          show Goes p e below s _ _ _ (T114.setTop (mkF m 308 #[.val (.int md), .val (.int sp), .val (.int tg), .val (.long fi), .second, .val (.int (2 : Int32)), .val (.int lf), .val (.int (0 : Int32)), .val (.int t1), .val (.int t2), .val (.ref b73), .val (.ref b74), .val (.ref b108), .val (.int (own_bI true)), .val (.int (own_bI true)), .val (.int (own_bI true))] []))
          refine Goes.st (fun t_ k_ => XS.aload X114.here hx rfl (hb hby at_308) rfl rfl k_) ?_
          show Goes p e below s _ _ _ (T114.setTop (mkF m 310 #[.val (.int md), .val (.int sp), .val (.int tg), .val (.long fi), .second, .val (.int (2 : Int32)), .val (.int lf), .val (.int (0 : Int32)), .val (.int t1), .val (.int t2), .val (.ref b73), .val (.ref b74), .val (.ref b108), .val (.int (own_bI true)), .val (.int (own_bI true)), .val (.int (own_bI true))] [(.ref b108)]))
          obtain ⟨cq115, kq115, q115a, q115b, q115c⟩ := isOf hZ rfl E_b108
          obtain ⟨_, _, ⟨T115, L115, k115, n115⟩, -, X115, ⟨Lc115, hQ115, l115, y115, z115⟩, st115⟩ := X114.virtualBack hx (y := (⟨"com/example/torniquete/torniquete/core/DerReader", "hasNext", "()Z"⟩ : MethodName)) (z := (⟨"com/example/torniquete/torniquete/core/DerReader", "hasNext", "()Z"⟩ : MethodName)) hown (mvT hZ (hw _ (List.mem_of_getElem? (i := 24) rfl))) (mvT hZ (hw _ (List.mem_of_getElem? (i := 25) rfl))) (notFace_of_selects (args := #[]) (mvT hZ (hw _ (List.mem_of_getElem? (i := 27) rfl)))) (mvT hZ (hw _ (List.mem_of_getElem? (i := 27) rfl))) (mvT hZ (hw _ (List.mem_of_getElem? (i := 26) rfl))) (by decide) (backOf (W := 0) (own_rmH l Z a0 hw [] b108 b74 6 6 false T114.heap n0 Z81'''''''' HR (by decide)) hZ (hw _ (List.mem_of_getElem? (i := 28) rfl)) (hw _ (List.mem_of_getElem? (i := 8) rfl)) (by decide) (by decide)) q115a q115c (g := (mkF m 310 #[.val (.int md), .val (.int sp), .val (.int tg), .val (.long fi), .second, .val (.int (2 : Int32)), .val (.int lf), .val (.int (0 : Int32)), .val (.int t1), .val (.int t2), .val (.ref b73), .val (.ref b74), .val (.ref b108), .val (.int (own_bI true)), .val (.int (own_bI true)), .val (.int (own_bI true))] [(.ref b108)])) rfl (by rw [hml]; rfl) (Steps.refl _) (argsL := []) (rest := []) (lenOf own_pd66 rfl) rfl (by show 2 * 0 + _ ≤ _; exact Nat.le_of_eq rfl) (hb hby at_310) (fun _ _ => ⟨rfl, rfl, (by decide : 5 + 0 ≤ _), (by decide : 19 + 0 ≤ _)⟩)
          dsimp only [Pt.U, Pt.locs, Pt.cells, Pt.slots] at X115 l115 y115 z115 st115 hQ115
          subst l115 y115 z115
          obtain ⟨rfl, N115q, EQ6⟩ := hQ115
          have N115 := Fr.app N114 N115q
          refine Goes.tr st115 ?_
          show Goes p e below s _ _ _ (T115.setTop (mkF m 313 #[.val (.int md), .val (.int sp), .val (.int tg), .val (.long fi), .second, .val (.int (2 : Int32)), .val (.int lf), .val (.int (0 : Int32)), .val (.int t1), .val (.int t2), .val (.ref b73), .val (.ref b74), .val (.ref b108), .val (.int (own_bI true)), .val (.int (own_bI true)), .val (.int (own_bI true))] [(.int (own_bI false))]))
          refine Goes.st (fun t_ k_ => XS.ifNo X115.here hx rfl (hb hby at_313) rfl ((if0 _ _).trans (teq (by decide)).2) k_) ?_
          show Goes p e below s _ _ _ (T115.setTop (mkF m 316 #[.val (.int md), .val (.int sp), .val (.int tg), .val (.long fi), .second, .val (.int (2 : Int32)), .val (.int lf), .val (.int (0 : Int32)), .val (.int t1), .val (.int t2), .val (.ref b73), .val (.ref b74), .val (.ref b108), .val (.int (own_bI true)), .val (.int (own_bI true)), .val (.int (own_bI true))] []))
          refine Goes.st (fun t_ k_ => XS.iconst X115.here hx rfl (hb hby at_316) k_) ?_
          show Goes p e below s _ _ _ (T115.setTop (mkF m 317 #[.val (.int md), .val (.int sp), .val (.int tg), .val (.long fi), .second, .val (.int (2 : Int32)), .val (.int lf), .val (.int (0 : Int32)), .val (.int t1), .val (.int t2), .val (.ref b73), .val (.ref b74), .val (.ref b108), .val (.int (own_bI true)), .val (.int (own_bI true)), .val (.int (own_bI true))] [(.int (1 : Int32))]))
          refine Goes.st (fun t_ k_ => XS.goto X115.here hx rfl (pc0 := 317) (pc' := 321) rfl (hb hby at_317) (by decide) (by decide) k_) ?_
          show Goes p e below s _ _ _ (T115.setTop (mkF m 321 #[.val (.int md), .val (.int sp), .val (.int tg), .val (.long fi), .second, .val (.int (2 : Int32)), .val (.int lf), .val (.int (0 : Int32)), .val (.int t1), .val (.int t2), .val (.ref b73), .val (.ref b74), .val (.ref b108), .val (.int (own_bI true)), .val (.int (own_bI true)), .val (.int (own_bI true))] [(.int (1 : Int32))]))
          exact Goes.retN X115 hx (t := .boolean) hret hlk (by simp) (hb hby at_321) (by decide) (by decide) (⟨rfl, N115⟩)
        · show Goes p e below s _ _ _ (T81.setTop (mkF m 161 #[.val (.int md), .val (.int sp), .val (.int tg), .val (.long fi), .second, .val (.int (2 : Int32)), .val (.int lf), .val (.int (1 : Int32)), .val (.int t1), .val (.int t2), .val (.ref b73), .val (.ref b74), .unset, .unset, .unset, .unset] []))
          refine Goes.st (fun t_ k_ => XS.aload X81.here hx rfl (hb hby at_161) rfl rfl k_) ?_
          show Goes p e below s _ _ _ (T81.setTop (mkF m 163 #[.val (.int md), .val (.int sp), .val (.int tg), .val (.long fi), .second, .val (.int (2 : Int32)), .val (.int lf), .val (.int (1 : Int32)), .val (.int t1), .val (.int t2), .val (.ref b73), .val (.ref b74), .unset, .unset, .unset, .unset] [(.ref b74)]))
          refine Goes.st (fun t_ k_ => XS.iconst X81.here hx rfl (hb hby at_163) k_) ?_
          show Goes p e below s _ _ _ (T81.setTop (mkF m 164 #[.val (.int md), .val (.int sp), .val (.int tg), .val (.long fi), .second, .val (.int (2 : Int32)), .val (.int lf), .val (.int (1 : Int32)), .val (.int t1), .val (.int t2), .val (.ref b73), .val (.ref b74), .unset, .unset, .unset, .unset] [(.int (0 : Int32)), (.ref b74)]))
          refine Goes.st (fun t_ k_ => XS.iload X81.here hx rfl (hb hby at_164) rfl  k_) ?_
          show Goes p e below s _ _ _ (T81.setTop (mkF m 166 #[.val (.int md), .val (.int sp), .val (.int tg), .val (.long fi), .second, .val (.int (2 : Int32)), .val (.int lf), .val (.int (1 : Int32)), .val (.int t1), .val (.int t2), .val (.ref b73), .val (.ref b74), .unset, .unset, .unset, .unset] [(.int t1), (.int (0 : Int32)), (.ref b74)]))
          refine Goes.st (fun t_ k_ => XS.i2b X81.here hx rfl (hb hby at_166) rfl k_) ?_
          show Goes p e below s _ _ _ (T81.setTop (mkF m 167 #[.val (.int md), .val (.int sp), .val (.int tg), .val (.long fi), .second, .val (.int (2 : Int32)), .val (.int lf), .val (.int (1 : Int32)), .val (.int t1), .val (.int t2), .val (.ref b73), .val (.ref b74), .unset, .unset, .unset, .unset] [(.int (t1.toInt8.toInt32)), (.int (0 : Int32)), (.ref b74)]))
          obtain ⟨cl116, Ar116, q116, S116, M116, H116, G116⟩ := V_b74
          obtain ⟨T116, h116, X116, e116, W116, st116⟩ := stB X81 hx hZ e81 Ar116 (j := (0 : Int32)) (inb_of S116 ⟨by decide, by decide⟩) (g := (mkF m 167 #[.val (.int md), .val (.int sp), .val (.int tg), .val (.long fi), .second, .val (.int (2 : Int32)), .val (.int lf), .val (.int (1 : Int32)), .val (.int t1), .val (.int t2), .val (.ref b73), .val (.ref b74), .unset, .unset, .unset, .unset] [(.int (t1.toInt8.toInt32)), (.int (0 : Int32)), (.ref b74)])) rfl rfl (hb hby at_167)
          have V_b74 := Arv.set Ar116 q116 S116 M116 H116 G116 (fits_nar_byte _) W116 0 rfl (Nat.le_of_ble_eq_true rfl)
          refine Goes.st st116 ?_
          have V_b74 : Arv Z h116 b74 k74 .byte (6 : Int32) [(.int (nar .byte (t1.toInt8.toInt32))), (.int f1), (.int f2), (.int f3), (.int f4), (.int f5)] (.int (0 : Int32)) := V_b74
          have V_b73 := V_b73.other W116 ne_b73_b74
          have N116 := Fr.snoc X116 N81 gn_b74
          have Z81' := Nat.le_trans Z81 (Keep.of_wr W116).1
          show Goes p e below s _ _ _ (T116.setTop (mkF m 168 #[.val (.int md), .val (.int sp), .val (.int tg), .val (.long fi), .second, .val (.int (2 : Int32)), .val (.int lf), .val (.int (1 : Int32)), .val (.int t1), .val (.int t2), .val (.ref b73), .val (.ref b74), .unset, .unset, .unset, .unset] []))
          refine Goes.st (fun t_ k_ => XS.aload X116.here hx rfl (hb hby at_168) rfl rfl k_) ?_
          show Goes p e below s _ _ _ (T116.setTop (mkF m 170 #[.val (.int md), .val (.int sp), .val (.int tg), .val (.long fi), .second, .val (.int (2 : Int32)), .val (.int lf), .val (.int (1 : Int32)), .val (.int t1), .val (.int t2), .val (.ref b73), .val (.ref b74), .unset, .unset, .unset, .unset] [(.ref b74)]))
          refine Goes.st (fun t_ k_ => XS.iconst X116.here hx rfl (hb hby at_170) k_) ?_
          show Goes p e below s _ _ _ (T116.setTop (mkF m 171 #[.val (.int md), .val (.int sp), .val (.int tg), .val (.long fi), .second, .val (.int (2 : Int32)), .val (.int lf), .val (.int (1 : Int32)), .val (.int t1), .val (.int t2), .val (.ref b73), .val (.ref b74), .unset, .unset, .unset, .unset] [(.int (1 : Int32)), (.ref b74)]))
          refine Goes.st (fun t_ k_ => XS.iload X116.here hx rfl (hb hby at_171) rfl  k_) ?_
          show Goes p e below s _ _ _ (T116.setTop (mkF m 173 #[.val (.int md), .val (.int sp), .val (.int tg), .val (.long fi), .second, .val (.int (2 : Int32)), .val (.int lf), .val (.int (1 : Int32)), .val (.int t1), .val (.int t2), .val (.ref b73), .val (.ref b74), .unset, .unset, .unset, .unset] [(.int (1 : Int32)), (.int (1 : Int32)), (.ref b74)]))
          refine Goes.st (fun t_ k_ => XS.i2b X116.here hx rfl (hb hby at_173) rfl k_) ?_
          show Goes p e below s _ _ _ (T116.setTop (mkF m 174 #[.val (.int md), .val (.int sp), .val (.int tg), .val (.long fi), .second, .val (.int (2 : Int32)), .val (.int lf), .val (.int (1 : Int32)), .val (.int t1), .val (.int t2), .val (.ref b73), .val (.ref b74), .unset, .unset, .unset, .unset] [(.int ((1 : Int32).toInt8.toInt32)), (.int (1 : Int32)), (.ref b74)]))
          obtain ⟨cl117, Ar117, q117, S117, M117, H117, G117⟩ := V_b74
          obtain ⟨T117, h117, X117, e117, W117, st117⟩ := stB X116 hx hZ e116 Ar117 (j := (1 : Int32)) (inb_of S117 ⟨by decide, by decide⟩) (g := (mkF m 174 #[.val (.int md), .val (.int sp), .val (.int tg), .val (.long fi), .second, .val (.int (2 : Int32)), .val (.int lf), .val (.int (1 : Int32)), .val (.int t1), .val (.int t2), .val (.ref b73), .val (.ref b74), .unset, .unset, .unset, .unset] [(.int ((1 : Int32).toInt8.toInt32)), (.int (1 : Int32)), (.ref b74)])) rfl rfl (hb hby at_174)
          have V_b74 := Arv.set Ar117 q117 S117 M117 H117 G117 (fits_nar_byte _) W117 1 rfl (Nat.le_of_ble_eq_true rfl)
          refine Goes.st st117 ?_
          have V_b74 : Arv Z h117 b74 k74 .byte (6 : Int32) [(.int (nar .byte (t1.toInt8.toInt32))), (.int (nar .byte ((1 : Int32).toInt8.toInt32))), (.int f2), (.int f3), (.int f4), (.int f5)] (.int (0 : Int32)) := V_b74
          have V_b73 := V_b73.other W117 ne_b73_b74
          have N117 := Fr.snoc X117 N116 gn_b74
          have Z81'' := Nat.le_trans Z81' (Keep.of_wr W117).1
          show Goes p e below s _ _ _ (T117.setTop (mkF m 175 #[.val (.int md), .val (.int sp), .val (.int tg), .val (.long fi), .second, .val (.int (2 : Int32)), .val (.int lf), .val (.int (1 : Int32)), .val (.int t1), .val (.int t2), .val (.ref b73), .val (.ref b74), .unset, .unset, .unset, .unset] []))
          refine Goes.st (fun t_ k_ => XS.aload X117.here hx rfl (hb hby at_175) rfl rfl k_) ?_
          show Goes p e below s _ _ _ (T117.setTop (mkF m 177 #[.val (.int md), .val (.int sp), .val (.int tg), .val (.long fi), .second, .val (.int (2 : Int32)), .val (.int lf), .val (.int (1 : Int32)), .val (.int t1), .val (.int t2), .val (.ref b73), .val (.ref b74), .unset, .unset, .unset, .unset] [(.ref b74)]))
          refine Goes.st (fun t_ k_ => XS.iconst X117.here hx rfl (hb hby at_177) k_) ?_
          show Goes p e below s _ _ _ (T117.setTop (mkF m 178 #[.val (.int md), .val (.int sp), .val (.int tg), .val (.long fi), .second, .val (.int (2 : Int32)), .val (.int lf), .val (.int (1 : Int32)), .val (.int t1), .val (.int t2), .val (.ref b73), .val (.ref b74), .unset, .unset, .unset, .unset] [(.int (2 : Int32)), (.ref b74)]))
          refine Goes.st (fun t_ k_ => XS.iload X117.here hx rfl (hb hby at_178) rfl  k_) ?_
          show Goes p e below s _ _ _ (T117.setTop (mkF m 180 #[.val (.int md), .val (.int sp), .val (.int tg), .val (.long fi), .second, .val (.int (2 : Int32)), .val (.int lf), .val (.int (1 : Int32)), .val (.int t1), .val (.int t2), .val (.ref b73), .val (.ref b74), .unset, .unset, .unset, .unset] [(.int (1 : Int32)), (.int (2 : Int32)), (.ref b74)]))
          refine Goes.st (fun t_ k_ => XS.iadd X117.here hx rfl (hb hby at_180) rfl k_) ?_
          show Goes p e below s _ _ _ (T117.setTop (mkF m 181 #[.val (.int md), .val (.int sp), .val (.int tg), .val (.long fi), .second, .val (.int (2 : Int32)), .val (.int lf), .val (.int (1 : Int32)), .val (.int t1), .val (.int t2), .val (.ref b73), .val (.ref b74), .unset, .unset, .unset, .unset] [(.int ((2 : Int32) + (1 : Int32))), (.ref b74)]))
          have lit118 : ((2 : Int32) + (1 : Int32)) = (3 : Int32) := by decide
          rw [lit118]
          show Goes p e below s _ _ _ (T117.setTop (mkF m 181 #[.val (.int md), .val (.int sp), .val (.int tg), .val (.long fi), .second, .val (.int (2 : Int32)), .val (.int lf), .val (.int (1 : Int32)), .val (.int t1), .val (.int t2), .val (.ref b73), .val (.ref b74), .unset, .unset, .unset, .unset] [(.int (3 : Int32)), (.ref b74)]))
          show Goes p e below s _ _ _ (T117.setTop (mkF m 181 #[.val (.int md), .val (.int sp), .val (.int tg), .val (.long fi), .second, .val (.int (2 : Int32)), .val (.int lf), .val (.int (1 : Int32)), .val (.int t1), .val (.int t2), .val (.ref b73), .val (.ref b74), .unset, .unset, .unset, .unset] [(.int (3 : Int32)), (.ref b74)]))
          refine Goes.st (fun t_ k_ => XS.iload X117.here hx rfl (hb hby at_181) rfl  k_) ?_
          show Goes p e below s _ _ _ (T117.setTop (mkF m 183 #[.val (.int md), .val (.int sp), .val (.int tg), .val (.long fi), .second, .val (.int (2 : Int32)), .val (.int lf), .val (.int (1 : Int32)), .val (.int t1), .val (.int t2), .val (.ref b73), .val (.ref b74), .unset, .unset, .unset, .unset] [(.int t2), (.int (3 : Int32)), (.ref b74)]))
          refine Goes.st (fun t_ k_ => XS.i2b X117.here hx rfl (hb hby at_183) rfl k_) ?_
          show Goes p e below s _ _ _ (T117.setTop (mkF m 184 #[.val (.int md), .val (.int sp), .val (.int tg), .val (.long fi), .second, .val (.int (2 : Int32)), .val (.int lf), .val (.int (1 : Int32)), .val (.int t1), .val (.int t2), .val (.ref b73), .val (.ref b74), .unset, .unset, .unset, .unset] [(.int (t2.toInt8.toInt32)), (.int (3 : Int32)), (.ref b74)]))
          obtain ⟨cl119, Ar119, q119, S119, M119, H119, G119⟩ := V_b74
          obtain ⟨T119, h119, X119, e119, W119, st119⟩ := stB X117 hx hZ e117 Ar119 (j := (3 : Int32)) (inb_of S119 ⟨by decide, by decide⟩) (g := (mkF m 184 #[.val (.int md), .val (.int sp), .val (.int tg), .val (.long fi), .second, .val (.int (2 : Int32)), .val (.int lf), .val (.int (1 : Int32)), .val (.int t1), .val (.int t2), .val (.ref b73), .val (.ref b74), .unset, .unset, .unset, .unset] [(.int (t2.toInt8.toInt32)), (.int (3 : Int32)), (.ref b74)])) rfl rfl (hb hby at_184)
          have V_b74 := Arv.set Ar119 q119 S119 M119 H119 G119 (fits_nar_byte _) W119 3 rfl (Nat.le_of_ble_eq_true rfl)
          refine Goes.st st119 ?_
          have V_b74 : Arv Z h119 b74 k74 .byte (6 : Int32) [(.int (nar .byte (t1.toInt8.toInt32))), (.int (nar .byte ((1 : Int32).toInt8.toInt32))), (.int f2), (.int (nar .byte (t2.toInt8.toInt32))), (.int f4), (.int f5)] (.int (0 : Int32)) := V_b74
          have V_b73 := V_b73.other W119 ne_b73_b74
          have N119 := Fr.snoc X119 N117 gn_b74
          have Z81''' := Nat.le_trans Z81'' (Keep.of_wr W119).1
          show Goes p e below s _ _ _ (T119.setTop (mkF m 185 #[.val (.int md), .val (.int sp), .val (.int tg), .val (.long fi), .second, .val (.int (2 : Int32)), .val (.int lf), .val (.int (1 : Int32)), .val (.int t1), .val (.int t2), .val (.ref b73), .val (.ref b74), .unset, .unset, .unset, .unset] []))
          refine Goes.st (fun t_ k_ => XS.aload X119.here hx rfl (hb hby at_185) rfl rfl k_) ?_
          show Goes p e below s _ _ _ (T119.setTop (mkF m 187 #[.val (.int md), .val (.int sp), .val (.int tg), .val (.long fi), .second, .val (.int (2 : Int32)), .val (.int lf), .val (.int (1 : Int32)), .val (.int t1), .val (.int t2), .val (.ref b73), .val (.ref b74), .unset, .unset, .unset, .unset] [(.ref b74)]))
          refine Goes.st (fun t_ k_ => XS.iconst X119.here hx rfl (hb hby at_187) k_) ?_
          show Goes p e below s _ _ _ (T119.setTop (mkF m 188 #[.val (.int md), .val (.int sp), .val (.int tg), .val (.long fi), .second, .val (.int (2 : Int32)), .val (.int lf), .val (.int (1 : Int32)), .val (.int t1), .val (.int t2), .val (.ref b73), .val (.ref b74), .unset, .unset, .unset, .unset] [(.int (3 : Int32)), (.ref b74)]))
          refine Goes.st (fun t_ k_ => XS.iload X119.here hx rfl (hb hby at_188) rfl  k_) ?_
          show Goes p e below s _ _ _ (T119.setTop (mkF m 190 #[.val (.int md), .val (.int sp), .val (.int tg), .val (.long fi), .second, .val (.int (2 : Int32)), .val (.int lf), .val (.int (1 : Int32)), .val (.int t1), .val (.int t2), .val (.ref b73), .val (.ref b74), .unset, .unset, .unset, .unset] [(.int (1 : Int32)), (.int (3 : Int32)), (.ref b74)]))
          refine Goes.st (fun t_ k_ => XS.iadd X119.here hx rfl (hb hby at_190) rfl k_) ?_
          show Goes p e below s _ _ _ (T119.setTop (mkF m 191 #[.val (.int md), .val (.int sp), .val (.int tg), .val (.long fi), .second, .val (.int (2 : Int32)), .val (.int lf), .val (.int (1 : Int32)), .val (.int t1), .val (.int t2), .val (.ref b73), .val (.ref b74), .unset, .unset, .unset, .unset] [(.int ((3 : Int32) + (1 : Int32))), (.ref b74)]))
          have lit120 : ((3 : Int32) + (1 : Int32)) = (4 : Int32) := by decide
          rw [lit120]
          show Goes p e below s _ _ _ (T119.setTop (mkF m 191 #[.val (.int md), .val (.int sp), .val (.int tg), .val (.long fi), .second, .val (.int (2 : Int32)), .val (.int lf), .val (.int (1 : Int32)), .val (.int t1), .val (.int t2), .val (.ref b73), .val (.ref b74), .unset, .unset, .unset, .unset] [(.int (4 : Int32)), (.ref b74)]))
          show Goes p e below s _ _ _ (T119.setTop (mkF m 191 #[.val (.int md), .val (.int sp), .val (.int tg), .val (.long fi), .second, .val (.int (2 : Int32)), .val (.int lf), .val (.int (1 : Int32)), .val (.int t1), .val (.int t2), .val (.ref b73), .val (.ref b74), .unset, .unset, .unset, .unset] [(.int (4 : Int32)), (.ref b74)]))
          refine Goes.st (fun t_ k_ => XS.iconst X119.here hx rfl (hb hby at_191) k_) ?_
          show Goes p e below s _ _ _ (T119.setTop (mkF m 192 #[.val (.int md), .val (.int sp), .val (.int tg), .val (.long fi), .second, .val (.int (2 : Int32)), .val (.int lf), .val (.int (1 : Int32)), .val (.int t1), .val (.int t2), .val (.ref b73), .val (.ref b74), .unset, .unset, .unset, .unset] [(.int (2 : Int32)), (.int (4 : Int32)), (.ref b74)]))
          refine Goes.st (fun t_ k_ => XS.iload X119.here hx rfl (hb hby at_192) rfl  k_) ?_
          show Goes p e below s _ _ _ (T119.setTop (mkF m 194 #[.val (.int md), .val (.int sp), .val (.int tg), .val (.long fi), .second, .val (.int (2 : Int32)), .val (.int lf), .val (.int (1 : Int32)), .val (.int t1), .val (.int t2), .val (.ref b73), .val (.ref b74), .unset, .unset, .unset, .unset] [(.int (1 : Int32)), (.int (2 : Int32)), (.int (4 : Int32)), (.ref b74)]))
          refine Goes.st (fun t_ k_ => XS.isub X119.here hx rfl (hb hby at_194) rfl k_) ?_
          show Goes p e below s _ _ _ (T119.setTop (mkF m 195 #[.val (.int md), .val (.int sp), .val (.int tg), .val (.long fi), .second, .val (.int (2 : Int32)), .val (.int lf), .val (.int (1 : Int32)), .val (.int t1), .val (.int t2), .val (.ref b73), .val (.ref b74), .unset, .unset, .unset, .unset] [(.int ((2 : Int32) - (1 : Int32))), (.int (4 : Int32)), (.ref b74)]))
          refine Goes.st (fun t_ k_ => XS.i2b X119.here hx rfl (hb hby at_195) rfl k_) ?_
          show Goes p e below s _ _ _ (T119.setTop (mkF m 196 #[.val (.int md), .val (.int sp), .val (.int tg), .val (.long fi), .second, .val (.int (2 : Int32)), .val (.int lf), .val (.int (1 : Int32)), .val (.int t1), .val (.int t2), .val (.ref b73), .val (.ref b74), .unset, .unset, .unset, .unset] [(.int (((2 : Int32) - (1 : Int32)).toInt8.toInt32)), (.int (4 : Int32)), (.ref b74)]))
          obtain ⟨cl121, Ar121, q121, S121, M121, H121, G121⟩ := V_b74
          obtain ⟨T121, h121, X121, e121, W121, st121⟩ := stB X119 hx hZ e119 Ar121 (j := (4 : Int32)) (inb_of S121 ⟨by decide, by decide⟩) (g := (mkF m 196 #[.val (.int md), .val (.int sp), .val (.int tg), .val (.long fi), .second, .val (.int (2 : Int32)), .val (.int lf), .val (.int (1 : Int32)), .val (.int t1), .val (.int t2), .val (.ref b73), .val (.ref b74), .unset, .unset, .unset, .unset] [(.int (((2 : Int32) - (1 : Int32)).toInt8.toInt32)), (.int (4 : Int32)), (.ref b74)])) rfl rfl (hb hby at_196)
          have V_b74 := Arv.set Ar121 q121 S121 M121 H121 G121 (fits_nar_byte _) W121 4 rfl (Nat.le_of_ble_eq_true rfl)
          refine Goes.st st121 ?_
          have V_b74 : Arv Z h121 b74 k74 .byte (6 : Int32) [(.int (nar .byte (t1.toInt8.toInt32))), (.int (nar .byte ((1 : Int32).toInt8.toInt32))), (.int f2), (.int (nar .byte (t2.toInt8.toInt32))), (.int (nar .byte (((2 : Int32) - (1 : Int32)).toInt8.toInt32))), (.int f5)] (.int (0 : Int32)) := V_b74
          have V_b73 := V_b73.other W121 ne_b73_b74
          have N121 := Fr.snoc X121 N119 gn_b74
          have Z81'''' := Nat.le_trans Z81''' (Keep.of_wr W121).1
          show Goes p e below s _ _ _ (T121.setTop (mkF m 197 #[.val (.int md), .val (.int sp), .val (.int tg), .val (.long fi), .second, .val (.int (2 : Int32)), .val (.int lf), .val (.int (1 : Int32)), .val (.int t1), .val (.int t2), .val (.ref b73), .val (.ref b74), .unset, .unset, .unset, .unset] []))
          show Goes p e below s _ _ _ (T121.setTop (mkF m 197 #[.val (.int md), .val (.int sp), .val (.int tg), .val (.long fi), .second, .val (.int (2 : Int32)), .val (.int lf), .val (.int (1 : Int32)), .val (.int t1), .val (.int t2), .val (.ref b73), .val (.ref b74), .unset, .unset, .unset, .unset] []))
          obtain ⟨T122, h122, X122, e122, E122, A122, D122, -, st122⟩ := newO X121 hx hZ hown (hw _ (List.mem_of_getElem? (i := 6) rfl)) (hw _ (List.mem_of_getElem? (i := 7) rfl)) (hw _ (List.mem_of_getElem? (i := 8) rfl)) e121 (g := (mkF m 197 #[.val (.int md), .val (.int sp), .val (.int tg), .val (.long fi), .second, .val (.int (2 : Int32)), .val (.int lf), .val (.int (1 : Int32)), .val (.int t1), .val (.int t2), .val (.ref b73), .val (.ref b74), .unset, .unset, .unset, .unset] [])) rfl (hb hby at_197) (by decide) (by decide)
          obtain ⟨b122, g122⟩ : ∃ z, z = h121.size := ⟨_, rfl⟩
          rw [← g122] at A122 D122 st122
          have ne_b73_b122 : b73 ≠ b122 := Nat.ne_of_lt (Nat.lt_of_lt_of_le V_b73.lt (Nat.le_of_eq g122.symm))
          have ne_b74_b122 : b74 ≠ b122 := Nat.ne_of_lt (Nat.lt_of_lt_of_le V_b74.lt (Nat.le_of_eq g122.symm))
          have gn_b122 : n0 ≤ b122 := Nat.le_trans Z81'''' (Nat.le_of_eq g122.symm)
          refine Goes.st st122 ?_
          have V_b73 := V_b73.ext E122
          have V_b74 := V_b74.ext E122
          have Z81''''' := Nat.le_trans Z81'''' E122.1
          have Ex_b122 := A122
          have F_bytes_b122 : Fld Z h122 b122 "com/example/torniquete/torniquete/core/DerReader" "bytes" "[B" .null := D122 (Or.inr (hw _ (List.mem_of_getElem? (i := 19) rfl))) (ty := (.array .byte)) (by decide)
          have F_position_b122 : Fld Z h122 b122 "com/example/torniquete/torniquete/core/DerReader" "position" "I" (.int (0 : Int32)) := D122 (Or.inl (hw _ (List.mem_of_getElem? (i := 21) rfl))) (ty := .int) (by decide)
          have F_end_b122 : Fld Z h122 b122 "com/example/torniquete/torniquete/core/DerReader" "end" "I" (.int (0 : Int32)) := D122 (Or.inr (hw _ (List.mem_of_getElem? (i := 23) rfl))) (ty := .int) (by decide)
          show Goes p e below s _ _ _ (T122.setTop (mkF m 200 #[.val (.int md), .val (.int sp), .val (.int tg), .val (.long fi), .second, .val (.int (2 : Int32)), .val (.int lf), .val (.int (1 : Int32)), .val (.int t1), .val (.int t2), .val (.ref b73), .val (.ref b74), .unset, .unset, .unset, .unset] [(.ref b122)]))
          refine Goes.st (fun t_ k_ => XS.dup X122.here hx rfl (hb hby at_200) rfl rfl k_) ?_
          show Goes p e below s _ _ _ (T122.setTop (mkF m 201 #[.val (.int md), .val (.int sp), .val (.int tg), .val (.long fi), .second, .val (.int (2 : Int32)), .val (.int lf), .val (.int (1 : Int32)), .val (.int t1), .val (.int t2), .val (.ref b73), .val (.ref b74), .unset, .unset, .unset, .unset] [(.ref b122), (.ref b122)]))
          refine Goes.st (fun t_ k_ => XS.iload X122.here hx rfl (hb hby at_201) rfl  k_) ?_
          show Goes p e below s _ _ _ (T122.setTop (mkF m 203 #[.val (.int md), .val (.int sp), .val (.int tg), .val (.long fi), .second, .val (.int (2 : Int32)), .val (.int lf), .val (.int (1 : Int32)), .val (.int t1), .val (.int t2), .val (.ref b73), .val (.ref b74), .unset, .unset, .unset, .unset] [(.int (2 : Int32)), (.ref b122), (.ref b122)]))
          refine Goes.st (fun t_ k_ => XS.ifYes X122.here hx rfl (pc0 := 203) (pc' := 211) rfl (hb hby at_203) rfl ((if0 _ _).trans (feq (by decide)).2) (by decide) (by decide) k_) ?_
          show Goes p e below s _ _ _ (T122.setTop (mkF m 211 #[.val (.int md), .val (.int sp), .val (.int tg), .val (.long fi), .second, .val (.int (2 : Int32)), .val (.int lf), .val (.int (1 : Int32)), .val (.int t1), .val (.int t2), .val (.ref b73), .val (.ref b74), .unset, .unset, .unset, .unset] [(.ref b122), (.ref b122)]))
          refine Goes.st (fun t_ k_ => XS.aload X122.here hx rfl (hb hby at_211) rfl rfl k_) ?_
          show Goes p e below s _ _ _ (T122.setTop (mkF m 213 #[.val (.int md), .val (.int sp), .val (.int tg), .val (.long fi), .second, .val (.int (2 : Int32)), .val (.int lf), .val (.int (1 : Int32)), .val (.int t1), .val (.int t2), .val (.ref b73), .val (.ref b74), .unset, .unset, .unset, .unset] [(.ref b74), (.ref b122), (.ref b122)]))
          obtain ⟨_, _, ⟨T123, L123, k123, n123⟩, -, X123, ⟨Lc123, hQ123, l123, y123, z123⟩, st123⟩ := X122.specialBack hx (y := (⟨"com/example/torniquete/torniquete/core/DerReader", "<init>", "([B)V"⟩ : MethodName)) rfl hown (mvT hZ (hw _ (List.mem_of_getElem? (i := 9) rfl))) (mvT hZ (hw _ (List.mem_of_getElem? (i := 10) rfl))) (mvT hZ (hw _ (List.mem_of_getElem? (i := 11) rfl))) (by decide) (backOf (W := 1) (own_rmI1 l Z a0 hw [] b122 b74 k74 (6 : Int32) _ h122 n0 Z81''''' Ex_b122 F_bytes_b122 F_position_b122 F_end_b122 V_b74 gn_b122) hZ (hw _ (List.mem_of_getElem? (i := 11) rfl)) (hw _ (List.mem_of_getElem? (i := 8) rfl)) (by decide) (by decide)) (g := (mkF m 213 #[.val (.int md), .val (.int sp), .val (.int tg), .val (.long fi), .second, .val (.int (2 : Int32)), .val (.int lf), .val (.int (1 : Int32)), .val (.int t1), .val (.int t2), .val (.ref b73), .val (.ref b74), .unset, .unset, .unset, .unset] [(.ref b74), (.ref b122), (.ref b122)])) rfl (by rw [hml]; rfl) (Steps.refl _) (a := b122) (argsL := [(.ref b74)]) (rest := [(.ref b122)]) (lenOf own_pd196 rfl) rfl (by show 2 * 0 + _ ≤ _; exact Nat.le_of_eq rfl) (hb hby at_213) (fun _ _ => ⟨rfl, e122, (by decide : 3 + 0 ≤ _), (by decide : 9 + 0 ≤ _)⟩)
          dsimp only [Pt.U, Pt.locs, Pt.cells, Pt.slots] at X123 l123 y123 z123 st123 hQ123
          subst l123 y123 z123
          obtain ⟨rfl, N123q, KI, HR⟩ := hQ123
          have N123 := Fr.app N121 N123q
          refine Goes.tr st123 ?_
          have V_b73 := V_b73.keep KI (ninS ne_b73_b122 nin0)
          have V_b74 := V_b74.keep KI (ninS ne_b74_b122 nin0)
          have Z81'''''' := Nat.le_trans Z81''''' KI.1
          have HR' := HR
          obtain ⟨E_b122, Fb_b122, Fp_b122, Fe_b122⟩ := HR'
          show Goes p e below s _ _ _ (T123.setTop (mkF m 216 #[.val (.int md), .val (.int sp), .val (.int tg), .val (.long fi), .second, .val (.int (2 : Int32)), .val (.int lf), .val (.int (1 : Int32)), .val (.int t1), .val (.int t2), .val (.ref b73), .val (.ref b74), .unset, .unset, .unset, .unset] [(.ref b122)]))
          refine Goes.st (fun t_ k_ => XS.astore X123.here hx rfl (hb hby at_216) rfl rfl (l' := #[.val (.int md), .val (.int sp), .val (.int tg), .val (.long fi), .second, .val (.int (2 : Int32)), .val (.int lf), .val (.int (1 : Int32)), .val (.int t1), .val (.int t2), .val (.ref b73), .val (.ref b74), .val (.ref b122), .unset, .unset, .unset]) rfl k_) ?_
          show Goes p e below s _ _ _ (T123.setTop (mkF m 218 #[.val (.int md), .val (.int sp), .val (.int tg), .val (.long fi), .second, .val (.int (2 : Int32)), .val (.int lf), .val (.int (1 : Int32)), .val (.int t1), .val (.int t2), .val (.ref b73), .val (.ref b74), .val (.ref b122), .unset, .unset, .unset] []))
          refine Goes.st (fun t_ k_ => XS.aload X123.here hx rfl (hb hby at_218) rfl rfl k_) ?_
          show Goes p e below s _ _ _ (T123.setTop (mkF m 220 #[.val (.int md), .val (.int sp), .val (.int tg), .val (.long fi), .second, .val (.int (2 : Int32)), .val (.int lf), .val (.int (1 : Int32)), .val (.int t1), .val (.int t2), .val (.ref b73), .val (.ref b74), .val (.ref b122), .unset, .unset, .unset] [(.ref b122)]))
          obtain ⟨cq124, kq124, q124a, q124b, q124c⟩ := isOf hZ rfl E_b122
          obtain ⟨_, _, ⟨T124, L124, k124, n124⟩, -, X124, ⟨Lc124, hQ124, l124, y124, z124⟩, st124⟩ := X123.virtualBack hx (y := (⟨"com/example/torniquete/torniquete/core/DerReader", "hasNext", "()Z"⟩ : MethodName)) (z := (⟨"com/example/torniquete/torniquete/core/DerReader", "hasNext", "()Z"⟩ : MethodName)) hown (mvT hZ (hw _ (List.mem_of_getElem? (i := 24) rfl))) (mvT hZ (hw _ (List.mem_of_getElem? (i := 25) rfl))) (notFace_of_selects (args := #[]) (mvT hZ (hw _ (List.mem_of_getElem? (i := 27) rfl)))) (mvT hZ (hw _ (List.mem_of_getElem? (i := 27) rfl))) (mvT hZ (hw _ (List.mem_of_getElem? (i := 26) rfl))) (by decide) (backOf (W := 0) (own_rmH l Z a0 hw [] b122 b74 0 6 true T123.heap n0 Z81'''''' HR (by decide)) hZ (hw _ (List.mem_of_getElem? (i := 28) rfl)) (hw _ (List.mem_of_getElem? (i := 8) rfl)) (by decide) (by decide)) q124a q124c (g := (mkF m 220 #[.val (.int md), .val (.int sp), .val (.int tg), .val (.long fi), .second, .val (.int (2 : Int32)), .val (.int lf), .val (.int (1 : Int32)), .val (.int t1), .val (.int t2), .val (.ref b73), .val (.ref b74), .val (.ref b122), .unset, .unset, .unset] [(.ref b122)])) rfl (by rw [hml]; rfl) (Steps.refl _) (argsL := []) (rest := []) (lenOf own_pd66 rfl) rfl (by show 2 * 0 + _ ≤ _; exact Nat.le_of_eq rfl) (hb hby at_220) (fun _ _ => ⟨rfl, rfl, (by decide : 3 + 0 ≤ _), (by decide : 9 + 0 ≤ _)⟩)
          dsimp only [Pt.U, Pt.locs, Pt.cells, Pt.slots] at X124 l124 y124 z124 st124 hQ124
          subst l124 y124 z124
          obtain ⟨rfl, N124q, EQ3⟩ := hQ124
          have N124 := Fr.app N123 N124q
          refine Goes.tr st124 ?_
          show Goes p e below s _ _ _ (T124.setTop (mkF m 223 #[.val (.int md), .val (.int sp), .val (.int tg), .val (.long fi), .second, .val (.int (2 : Int32)), .val (.int lf), .val (.int (1 : Int32)), .val (.int t1), .val (.int t2), .val (.ref b73), .val (.ref b74), .val (.ref b122), .unset, .unset, .unset] [(.int (own_bI true))]))
          refine Goes.st (fun t_ k_ => XS.istore X124.here hx rfl (hb hby at_223) rfl  (l' := #[.val (.int md), .val (.int sp), .val (.int tg), .val (.long fi), .second, .val (.int (2 : Int32)), .val (.int lf), .val (.int (1 : Int32)), .val (.int t1), .val (.int t2), .val (.ref b73), .val (.ref b74), .val (.ref b122), .val (.int (own_bI true)), .unset, .unset]) rfl k_) ?_
          show Goes p e below s _ _ _ (T124.setTop (mkF m 225 #[.val (.int md), .val (.int sp), .val (.int tg), .val (.long fi), .second, .val (.int (2 : Int32)), .val (.int lf), .val (.int (1 : Int32)), .val (.int t1), .val (.int t2), .val (.ref b73), .val (.ref b74), .val (.ref b122), .val (.int (own_bI true)), .unset, .unset] []))
          refine Goes.st (fun t_ k_ => XS.aload X124.here hx rfl (hb hby at_225) rfl rfl k_) ?_
          show Goes p e below s _ _ _ (T124.setTop (mkF m 227 #[.val (.int md), .val (.int sp), .val (.int tg), .val (.long fi), .second, .val (.int (2 : Int32)), .val (.int lf), .val (.int (1 : Int32)), .val (.int t1), .val (.int t2), .val (.ref b73), .val (.ref b74), .val (.ref b122), .val (.int (own_bI true)), .unset, .unset] [(.ref b122)]))
          obtain ⟨cq125, kq125, q125a, q125b, q125c⟩ := isOf hZ EQ3 E_b122
          obtain ⟨_, _, ⟨T125, L125, k125, n125⟩, -, X125, ⟨Lc125, hQ125, l125, y125, z125⟩, st125⟩ := X124.virtualBack hx (y := (⟨"com/example/torniquete/torniquete/core/DerReader", "hasNext", "()Z"⟩ : MethodName)) (z := (⟨"com/example/torniquete/torniquete/core/DerReader", "hasNext", "()Z"⟩ : MethodName)) hown (mvT hZ (hw _ (List.mem_of_getElem? (i := 24) rfl))) (mvT hZ (hw _ (List.mem_of_getElem? (i := 25) rfl))) (notFace_of_selects (args := #[]) (mvT hZ (hw _ (List.mem_of_getElem? (i := 27) rfl)))) (mvT hZ (hw _ (List.mem_of_getElem? (i := 27) rfl))) (mvT hZ (hw _ (List.mem_of_getElem? (i := 26) rfl))) (by decide) (backOf (W := 0) (own_rmH l Z a0 hw [] b122 b74 0 6 true T123.heap n0 Z81'''''' HR (by decide)) hZ (hw _ (List.mem_of_getElem? (i := 28) rfl)) (hw _ (List.mem_of_getElem? (i := 8) rfl)) (by decide) (by decide)) q125a q125c (g := (mkF m 227 #[.val (.int md), .val (.int sp), .val (.int tg), .val (.long fi), .second, .val (.int (2 : Int32)), .val (.int lf), .val (.int (1 : Int32)), .val (.int t1), .val (.int t2), .val (.ref b73), .val (.ref b74), .val (.ref b122), .val (.int (own_bI true)), .unset, .unset] [(.ref b122)])) rfl (by rw [hml]; rfl) (Steps.refl _) (argsL := []) (rest := []) (lenOf own_pd66 rfl) rfl (by show 2 * 0 + _ ≤ _; exact Nat.le_of_eq rfl) (hb hby at_227) (fun _ _ => ⟨rfl, EQ3, (by decide : 3 + 0 ≤ _), (by decide : 9 + 0 ≤ _)⟩)
          dsimp only [Pt.U, Pt.locs, Pt.cells, Pt.slots] at X125 l125 y125 z125 st125 hQ125
          subst l125 y125 z125
          obtain ⟨rfl, N125q, EQ4⟩ := hQ125
          have N125 := Fr.app N124 N125q
          refine Goes.tr st125 ?_
          show Goes p e below s _ _ _ (T125.setTop (mkF m 230 #[.val (.int md), .val (.int sp), .val (.int tg), .val (.long fi), .second, .val (.int (2 : Int32)), .val (.int lf), .val (.int (1 : Int32)), .val (.int t1), .val (.int t2), .val (.ref b73), .val (.ref b74), .val (.ref b122), .val (.int (own_bI true)), .unset, .unset] [(.int (own_bI true))]))
          refine Goes.st (fun t_ k_ => XS.istore X125.here hx rfl (hb hby at_230) rfl  (l' := #[.val (.int md), .val (.int sp), .val (.int tg), .val (.long fi), .second, .val (.int (2 : Int32)), .val (.int lf), .val (.int (1 : Int32)), .val (.int t1), .val (.int t2), .val (.ref b73), .val (.ref b74), .val (.ref b122), .val (.int (own_bI true)), .val (.int (own_bI true)), .unset]) rfl k_) ?_
          show Goes p e below s _ _ _ (T125.setTop (mkF m 232 #[.val (.int md), .val (.int sp), .val (.int tg), .val (.long fi), .second, .val (.int (2 : Int32)), .val (.int lf), .val (.int (1 : Int32)), .val (.int t1), .val (.int t2), .val (.ref b73), .val (.ref b74), .val (.ref b122), .val (.int (own_bI true)), .val (.int (own_bI true)), .unset] []))
          refine Goes.st (fun t_ k_ => XS.iload X125.here hx rfl (hb hby at_232) rfl  k_) ?_
          show Goes p e below s _ _ _ (T125.setTop (mkF m 234 #[.val (.int md), .val (.int sp), .val (.int tg), .val (.long fi), .second, .val (.int (2 : Int32)), .val (.int lf), .val (.int (1 : Int32)), .val (.int t1), .val (.int t2), .val (.ref b73), .val (.ref b74), .val (.ref b122), .val (.int (own_bI true)), .val (.int (own_bI true)), .unset] [(.int (2 : Int32))]))
          refine Goes.st (fun t_ k_ => XS.ifYes X125.here hx rfl (pc0 := 234) (pc' := 253) rfl (hb hby at_234) rfl ((if0 _ _).trans (feq (by decide)).2) (by decide) (by decide) k_) ?_
          show Goes p e below s _ _ _ (T125.setTop (mkF m 253 #[.val (.int md), .val (.int sp), .val (.int tg), .val (.long fi), .second, .val (.int (2 : Int32)), .val (.int lf), .val (.int (1 : Int32)), .val (.int t1), .val (.int t2), .val (.ref b73), .val (.ref b74), .val (.ref b122), .val (.int (own_bI true)), .val (.int (own_bI true)), .unset] []))
          refine Goes.st (fun t_ k_ => XS.iload X125.here hx rfl (hb hby at_253) rfl  k_) ?_
          show Goes p e below s _ _ _ (T125.setTop (mkF m 255 #[.val (.int md), .val (.int sp), .val (.int tg), .val (.long fi), .second, .val (.int (2 : Int32)), .val (.int lf), .val (.int (1 : Int32)), .val (.int t1), .val (.int t2), .val (.ref b73), .val (.ref b74), .val (.ref b122), .val (.int (own_bI true)), .val (.int (own_bI true)), .unset] [(.int (own_bI true))]))
          refine Goes.st (fun t_ k_ => XS.ifNo X125.here hx rfl (hb hby at_255) rfl ((if0 _ _).trans (feq (by decide)).1) k_) ?_
          show Goes p e below s _ _ _ (T125.setTop (mkF m 258 #[.val (.int md), .val (.int sp), .val (.int tg), .val (.long fi), .second, .val (.int (2 : Int32)), .val (.int lf), .val (.int (1 : Int32)), .val (.int t1), .val (.int t2), .val (.ref b73), .val (.ref b74), .val (.ref b122), .val (.int (own_bI true)), .val (.int (own_bI true)), .unset] []))
          refine Goes.st (fun t_ k_ => XS.iload X125.here hx rfl (hb hby at_258) rfl  k_) ?_
          show Goes p e below s _ _ _ (T125.setTop (mkF m 260 #[.val (.int md), .val (.int sp), .val (.int tg), .val (.long fi), .second, .val (.int (2 : Int32)), .val (.int lf), .val (.int (1 : Int32)), .val (.int t1), .val (.int t2), .val (.ref b73), .val (.ref b74), .val (.ref b122), .val (.int (own_bI true)), .val (.int (own_bI true)), .unset] [(.int (own_bI true))]))
          refine Goes.st (fun t_ k_ => XS.ifYes X125.here hx rfl (pc0 := 260) (pc' := 265) rfl (hb hby at_260) rfl ((if0 _ _).trans (feq (by decide)).2) (by decide) (by decide) k_) ?_
          show Goes p e below s _ _ _ (T125.setTop (mkF m 265 #[.val (.int md), .val (.int sp), .val (.int tg), .val (.long fi), .second, .val (.int (2 : Int32)), .val (.int lf), .val (.int (1 : Int32)), .val (.int t1), .val (.int t2), .val (.ref b73), .val (.ref b74), .val (.ref b122), .val (.int (own_bI true)), .val (.int (own_bI true)), .unset] []))
          refine Goes.st (fun t_ k_ => XS.aload X125.here hx rfl (hb hby at_265) rfl rfl k_) ?_
          show Goes p e below s _ _ _ (T125.setTop (mkF m 267 #[.val (.int md), .val (.int sp), .val (.int tg), .val (.long fi), .second, .val (.int (2 : Int32)), .val (.int lf), .val (.int (1 : Int32)), .val (.int t1), .val (.int t2), .val (.ref b73), .val (.ref b74), .val (.ref b122), .val (.int (own_bI true)), .val (.int (own_bI true)), .unset] [(.ref b122)]))
          obtain ⟨cq126, kq126, q126a, q126b, q126c⟩ := isOf hZ EQ4 E_b122
          obtain ⟨_, _, ⟨T126, L126, k126, n126⟩, -, X126, ⟨Lc126, hQ126, l126, y126, z126⟩, st126⟩ := X125.virtualBack hx (y := (⟨"com/example/torniquete/torniquete/core/DerReader", "next", "()Lcom/example/torniquete/torniquete/core/DerReader$Element;"⟩ : MethodName)) (z := (⟨"com/example/torniquete/torniquete/core/DerReader", "next", "()Lcom/example/torniquete/torniquete/core/DerReader$Element;"⟩ : MethodName)) hown (mvT hZ (hw _ (List.mem_of_getElem? (i := 29) rfl))) (mvT hZ (hw _ (List.mem_of_getElem? (i := 30) rfl))) (notFace_of_selects (args := #[]) (mvT hZ (hw _ (List.mem_of_getElem? (i := 32) rfl)))) (mvT hZ (hw _ (List.mem_of_getElem? (i := 32) rfl))) (mvT hZ (hw _ (List.mem_of_getElem? (i := 31) rfl))) (by decide) (backOf (W := 0) (own_rmNs l Z a0 hw [] b122 b74 0 (nar .byte t1.toInt8.toInt32) (nar .byte ((1 : Int32).toInt8.toInt32)) k74 [(.int (nar .byte (t1.toInt8.toInt32))), (.int (nar .byte ((1 : Int32).toInt8.toInt32))), (.int f2), (.int (nar .byte (t2.toInt8.toInt32))), (.int (nar .byte (((2 : Int32) - (1 : Int32)).toInt8.toInt32))), (.int f5)] T123.heap n0 Z81'''''' HR V_b74 (Ne.symm ne_b74_b122) ⟨by decide, by decide⟩ rfl (own_tagB ht1) ⟨by decide, by decide⟩ rfl (by decide) (by decide) gn_b122) hZ (hw _ (List.mem_of_getElem? (i := 33) rfl)) (hw _ (List.mem_of_getElem? (i := 8) rfl)) (by decide) (by decide)) q126a q126c (g := (mkF m 267 #[.val (.int md), .val (.int sp), .val (.int tg), .val (.long fi), .second, .val (.int (2 : Int32)), .val (.int lf), .val (.int (1 : Int32)), .val (.int t1), .val (.int t2), .val (.ref b73), .val (.ref b74), .val (.ref b122), .val (.int (own_bI true)), .val (.int (own_bI true)), .unset] [(.ref b122)])) rfl (by rw [hml]; rfl) (Steps.refl _) (argsL := []) (rest := []) (lenOf own_pd197 rfl) rfl (by show 2 * 0 + _ ≤ _; exact Nat.le_of_eq rfl) (hb hby at_267) (fun _ _ => ⟨rfl, EQ4, (by decide : 3 + 1 ≤ _), (by decide : 9 + 5 ≤ _)⟩)
          dsimp only [Pt.U, Pt.locs, Pt.cells, Pt.slots] at X126 l126 y126 z126 st126 hQ126
          subst l126 y126 z126
          obtain ⟨el, rfl, N126q, KN, HR⟩ := hQ126
          have N126 := Fr.app N125 N126q
          refine Goes.tr st126 ?_
          have V_b73 := V_b73.keep KN (ninS ne_b73_b122 nin0)
          have V_b74 := V_b74.keep KN (ninS ne_b74_b122 nin0)
          have Z81''''''' := Nat.le_trans Z81'''''' KN.1
          rw [show (0 : Int32) + 1 + 1 + ((nar .byte ((1 : Int32).toInt8.toInt32)) &&& 255) = 3 by decide] at HR
          have HR' := HR
          obtain ⟨E_b122, Fb_b122, Fp_b122, Fe_b122⟩ := HR'
          show Goes p e below s _ _ _ (T126.setTop (mkF m 270 #[.val (.int md), .val (.int sp), .val (.int tg), .val (.long fi), .second, .val (.int (2 : Int32)), .val (.int lf), .val (.int (1 : Int32)), .val (.int t1), .val (.int t2), .val (.ref b73), .val (.ref b74), .val (.ref b122), .val (.int (own_bI true)), .val (.int (own_bI true)), .unset] [(.ref el)]))
          refine Goes.st (fun t_ k_ => XS.pop X126.here hx rfl (hb hby at_270) rfl rfl k_) ?_
          show Goes p e below s _ _ _ (T126.setTop (mkF m 271 #[.val (.int md), .val (.int sp), .val (.int tg), .val (.long fi), .second, .val (.int (2 : Int32)), .val (.int lf), .val (.int (1 : Int32)), .val (.int t1), .val (.int t2), .val (.ref b73), .val (.ref b74), .val (.ref b122), .val (.int (own_bI true)), .val (.int (own_bI true)), .unset] []))
          refine Goes.st (fun t_ k_ => XS.aload X126.here hx rfl (hb hby at_271) rfl rfl k_) ?_
          show Goes p e below s _ _ _ (T126.setTop (mkF m 273 #[.val (.int md), .val (.int sp), .val (.int tg), .val (.long fi), .second, .val (.int (2 : Int32)), .val (.int lf), .val (.int (1 : Int32)), .val (.int t1), .val (.int t2), .val (.ref b73), .val (.ref b74), .val (.ref b122), .val (.int (own_bI true)), .val (.int (own_bI true)), .unset] [(.ref b122)]))
          obtain ⟨cq127, kq127, q127a, q127b, q127c⟩ := isOf hZ rfl E_b122
          obtain ⟨_, _, ⟨T127, L127, k127, n127⟩, -, X127, ⟨Lc127, hQ127, l127, y127, z127⟩, st127⟩ := X126.virtualBack hx (y := (⟨"com/example/torniquete/torniquete/core/DerReader", "hasNext", "()Z"⟩ : MethodName)) (z := (⟨"com/example/torniquete/torniquete/core/DerReader", "hasNext", "()Z"⟩ : MethodName)) hown (mvT hZ (hw _ (List.mem_of_getElem? (i := 24) rfl))) (mvT hZ (hw _ (List.mem_of_getElem? (i := 25) rfl))) (notFace_of_selects (args := #[]) (mvT hZ (hw _ (List.mem_of_getElem? (i := 27) rfl)))) (mvT hZ (hw _ (List.mem_of_getElem? (i := 27) rfl))) (mvT hZ (hw _ (List.mem_of_getElem? (i := 26) rfl))) (by decide) (backOf (W := 0) (own_rmH l Z a0 hw [] b122 b74 3 6 true T126.heap n0 Z81''''''' HR (by decide)) hZ (hw _ (List.mem_of_getElem? (i := 28) rfl)) (hw _ (List.mem_of_getElem? (i := 8) rfl)) (by decide) (by decide)) q127a q127c (g := (mkF m 273 #[.val (.int md), .val (.int sp), .val (.int tg), .val (.long fi), .second, .val (.int (2 : Int32)), .val (.int lf), .val (.int (1 : Int32)), .val (.int t1), .val (.int t2), .val (.ref b73), .val (.ref b74), .val (.ref b122), .val (.int (own_bI true)), .val (.int (own_bI true)), .unset] [(.ref b122)])) rfl (by rw [hml]; rfl) (Steps.refl _) (argsL := []) (rest := []) (lenOf own_pd66 rfl) rfl (by show 2 * 0 + _ ≤ _; exact Nat.le_of_eq rfl) (hb hby at_273) (fun _ _ => ⟨rfl, rfl, (by decide : 4 + 0 ≤ _), (by decide : 14 + 0 ≤ _)⟩)
          dsimp only [Pt.U, Pt.locs, Pt.cells, Pt.slots] at X127 l127 y127 z127 st127 hQ127
          subst l127 y127 z127
          obtain ⟨rfl, N127q, EQ5⟩ := hQ127
          have N127 := Fr.app N126 N127q
          refine Goes.tr st127 ?_
          show Goes p e below s _ _ _ (T127.setTop (mkF m 276 #[.val (.int md), .val (.int sp), .val (.int tg), .val (.long fi), .second, .val (.int (2 : Int32)), .val (.int lf), .val (.int (1 : Int32)), .val (.int t1), .val (.int t2), .val (.ref b73), .val (.ref b74), .val (.ref b122), .val (.int (own_bI true)), .val (.int (own_bI true)), .unset] [(.int (own_bI true))]))
          refine Goes.st (fun t_ k_ => XS.istore X127.here hx rfl (hb hby at_276) rfl  (l' := #[.val (.int md), .val (.int sp), .val (.int tg), .val (.long fi), .second, .val (.int (2 : Int32)), .val (.int lf), .val (.int (1 : Int32)), .val (.int t1), .val (.int t2), .val (.ref b73), .val (.ref b74), .val (.ref b122), .val (.int (own_bI true)), .val (.int (own_bI true)), .val (.int (own_bI true))]) rfl k_) ?_
          show Goes p e below s _ _ _ (T127.setTop (mkF m 278 #[.val (.int md), .val (.int sp), .val (.int tg), .val (.long fi), .second, .val (.int (2 : Int32)), .val (.int lf), .val (.int (1 : Int32)), .val (.int t1), .val (.int t2), .val (.ref b73), .val (.ref b74), .val (.ref b122), .val (.int (own_bI true)), .val (.int (own_bI true)), .val (.int (own_bI true))] []))
          refine Goes.st (fun t_ k_ => XS.iload X127.here hx rfl (hb hby at_278) rfl  k_) ?_
          show Goes p e below s _ _ _ (T127.setTop (mkF m 280 #[.val (.int md), .val (.int sp), .val (.int tg), .val (.long fi), .second, .val (.int (2 : Int32)), .val (.int lf), .val (.int (1 : Int32)), .val (.int t1), .val (.int t2), .val (.ref b73), .val (.ref b74), .val (.ref b122), .val (.int (own_bI true)), .val (.int (own_bI true)), .val (.int (own_bI true))] [(.int (2 : Int32))]))
          refine Goes.st (fun t_ k_ => XS.iconst X127.here hx rfl (hb hby at_280) k_) ?_
          show Goes p e below s _ _ _ (T127.setTop (mkF m 281 #[.val (.int md), .val (.int sp), .val (.int tg), .val (.long fi), .second, .val (.int (2 : Int32)), .val (.int lf), .val (.int (1 : Int32)), .val (.int t1), .val (.int t2), .val (.ref b73), .val (.ref b74), .val (.ref b122), .val (.int (own_bI true)), .val (.int (own_bI true)), .val (.int (own_bI true))] [(.int (1 : Int32)), (.int (2 : Int32))]))
          refine Goes.st (fun t_ k_ => XS.icmpYes X127.here hx rfl (pc0 := 281) (pc' := 295) rfl (hb hby at_281) rfl (feq (by decide)).2 (by decide) (by decide) k_) ?_
          show Goes p e below s _ _ _ (T127.setTop (mkF m 295 #[.val (.int md), .val (.int sp), .val (.int tg), .val (.long fi), .second, .val (.int (2 : Int32)), .val (.int lf), .val (.int (1 : Int32)), .val (.int t1), .val (.int t2), .val (.ref b73), .val (.ref b74), .val (.ref b122), .val (.int (own_bI true)), .val (.int (own_bI true)), .val (.int (own_bI true))] []))
          refine Goes.st (fun t_ k_ => XS.iload X127.here hx rfl (hb hby at_295) rfl  k_) ?_
          show Goes p e below s _ _ _ (T127.setTop (mkF m 297 #[.val (.int md), .val (.int sp), .val (.int tg), .val (.long fi), .second, .val (.int (2 : Int32)), .val (.int lf), .val (.int (1 : Int32)), .val (.int t1), .val (.int t2), .val (.ref b73), .val (.ref b74), .val (.ref b122), .val (.int (own_bI true)), .val (.int (own_bI true)), .val (.int (own_bI true))] [(.int (own_bI true))]))
          refine Goes.st (fun t_ k_ => XS.ifYes X127.here hx rfl (pc0 := 297) (pc' := 302) rfl (hb hby at_297) rfl ((if0 _ _).trans (feq (by decide)).2) (by decide) (by decide) k_) ?_
          show Goes p e below s _ _ _ (T127.setTop (mkF m 302 #[.val (.int md), .val (.int sp), .val (.int tg), .val (.long fi), .second, .val (.int (2 : Int32)), .val (.int lf), .val (.int (1 : Int32)), .val (.int t1), .val (.int t2), .val (.ref b73), .val (.ref b74), .val (.ref b122), .val (.int (own_bI true)), .val (.int (own_bI true)), .val (.int (own_bI true))] []))
          refine Goes.st (fun t_ k_ => XS.aload X127.here hx rfl (hb hby at_302) rfl rfl k_) ?_
          show Goes p e below s _ _ _ (T127.setTop (mkF m 304 #[.val (.int md), .val (.int sp), .val (.int tg), .val (.long fi), .second, .val (.int (2 : Int32)), .val (.int lf), .val (.int (1 : Int32)), .val (.int t1), .val (.int t2), .val (.ref b73), .val (.ref b74), .val (.ref b122), .val (.int (own_bI true)), .val (.int (own_bI true)), .val (.int (own_bI true))] [(.ref b122)]))
          obtain ⟨cq128, kq128, q128a, q128b, q128c⟩ := isOf hZ EQ5 E_b122
          obtain ⟨_, _, ⟨T128, L128, k128, n128⟩, -, X128, ⟨Lc128, hQ128, l128, y128, z128⟩, st128⟩ := X127.virtualBack hx (y := (⟨"com/example/torniquete/torniquete/core/DerReader", "next", "()Lcom/example/torniquete/torniquete/core/DerReader$Element;"⟩ : MethodName)) (z := (⟨"com/example/torniquete/torniquete/core/DerReader", "next", "()Lcom/example/torniquete/torniquete/core/DerReader$Element;"⟩ : MethodName)) hown (mvT hZ (hw _ (List.mem_of_getElem? (i := 29) rfl))) (mvT hZ (hw _ (List.mem_of_getElem? (i := 30) rfl))) (notFace_of_selects (args := #[]) (mvT hZ (hw _ (List.mem_of_getElem? (i := 32) rfl)))) (mvT hZ (hw _ (List.mem_of_getElem? (i := 32) rfl))) (mvT hZ (hw _ (List.mem_of_getElem? (i := 31) rfl))) (by decide) (backOf (W := 0) (own_rmNs l Z a0 hw [] b122 b74 3 (nar .byte t2.toInt8.toInt32) (nar .byte (((2 : Int32) - (1 : Int32)).toInt8.toInt32)) k74 [(.int (nar .byte (t1.toInt8.toInt32))), (.int (nar .byte ((1 : Int32).toInt8.toInt32))), (.int f2), (.int (nar .byte (t2.toInt8.toInt32))), (.int (nar .byte (((2 : Int32) - (1 : Int32)).toInt8.toInt32))), (.int f5)] T126.heap n0 Z81''''''' HR V_b74 (Ne.symm ne_b74_b122) ⟨by decide, by decide⟩ rfl (own_tagB ht2) ⟨by decide, by decide⟩ rfl (by decide) (by decide) gn_b122) hZ (hw _ (List.mem_of_getElem? (i := 33) rfl)) (hw _ (List.mem_of_getElem? (i := 8) rfl)) (by decide) (by decide)) q128a q128c (g := (mkF m 304 #[.val (.int md), .val (.int sp), .val (.int tg), .val (.long fi), .second, .val (.int (2 : Int32)), .val (.int lf), .val (.int (1 : Int32)), .val (.int t1), .val (.int t2), .val (.ref b73), .val (.ref b74), .val (.ref b122), .val (.int (own_bI true)), .val (.int (own_bI true)), .val (.int (own_bI true))] [(.ref b122)])) rfl (by rw [hml]; rfl) (Steps.refl _) (argsL := []) (rest := []) (lenOf own_pd197 rfl) rfl (by show 2 * 0 + _ ≤ _; exact Nat.le_of_eq rfl) (hb hby at_304) (fun _ _ => ⟨rfl, EQ5, (by decide : 4 + 1 ≤ _), (by decide : 14 + 5 ≤ _)⟩)
          dsimp only [Pt.U, Pt.locs, Pt.cells, Pt.slots] at X128 l128 y128 z128 st128 hQ128
          subst l128 y128 z128
          obtain ⟨el, rfl, N128q, KN, HR⟩ := hQ128
          have N128 := Fr.app N127 N128q
          refine Goes.tr st128 ?_
          have V_b73 := V_b73.keep KN (ninS ne_b73_b122 nin0)
          have V_b74 := V_b74.keep KN (ninS ne_b74_b122 nin0)
          have Z81'''''''' := Nat.le_trans Z81''''''' KN.1
          rw [show (3 : Int32) + 1 + 1 + ((nar .byte (((2 : Int32) - (1 : Int32)).toInt8.toInt32)) &&& 255) = 6 by decide] at HR
          have HR' := HR
          obtain ⟨E_b122, Fb_b122, Fp_b122, Fe_b122⟩ := HR'
          show Goes p e below s _ _ _ (T128.setTop (mkF m 307 #[.val (.int md), .val (.int sp), .val (.int tg), .val (.long fi), .second, .val (.int (2 : Int32)), .val (.int lf), .val (.int (1 : Int32)), .val (.int t1), .val (.int t2), .val (.ref b73), .val (.ref b74), .val (.ref b122), .val (.int (own_bI true)), .val (.int (own_bI true)), .val (.int (own_bI true))] [(.ref el)]))
          refine Goes.st (fun t_ k_ => XS.pop X128.here hx rfl (hb hby at_307) rfl rfl k_) ?_
          show Goes p e below s _ _ _ (T128.setTop (mkF m 308 #[.val (.int md), .val (.int sp), .val (.int tg), .val (.long fi), .second, .val (.int (2 : Int32)), .val (.int lf), .val (.int (1 : Int32)), .val (.int t1), .val (.int t2), .val (.ref b73), .val (.ref b74), .val (.ref b122), .val (.int (own_bI true)), .val (.int (own_bI true)), .val (.int (own_bI true))] []))
          refine Goes.st (fun t_ k_ => XS.aload X128.here hx rfl (hb hby at_308) rfl rfl k_) ?_
          show Goes p e below s _ _ _ (T128.setTop (mkF m 310 #[.val (.int md), .val (.int sp), .val (.int tg), .val (.long fi), .second, .val (.int (2 : Int32)), .val (.int lf), .val (.int (1 : Int32)), .val (.int t1), .val (.int t2), .val (.ref b73), .val (.ref b74), .val (.ref b122), .val (.int (own_bI true)), .val (.int (own_bI true)), .val (.int (own_bI true))] [(.ref b122)]))
          obtain ⟨cq129, kq129, q129a, q129b, q129c⟩ := isOf hZ rfl E_b122
          obtain ⟨_, _, ⟨T129, L129, k129, n129⟩, -, X129, ⟨Lc129, hQ129, l129, y129, z129⟩, st129⟩ := X128.virtualBack hx (y := (⟨"com/example/torniquete/torniquete/core/DerReader", "hasNext", "()Z"⟩ : MethodName)) (z := (⟨"com/example/torniquete/torniquete/core/DerReader", "hasNext", "()Z"⟩ : MethodName)) hown (mvT hZ (hw _ (List.mem_of_getElem? (i := 24) rfl))) (mvT hZ (hw _ (List.mem_of_getElem? (i := 25) rfl))) (notFace_of_selects (args := #[]) (mvT hZ (hw _ (List.mem_of_getElem? (i := 27) rfl)))) (mvT hZ (hw _ (List.mem_of_getElem? (i := 27) rfl))) (mvT hZ (hw _ (List.mem_of_getElem? (i := 26) rfl))) (by decide) (backOf (W := 0) (own_rmH l Z a0 hw [] b122 b74 6 6 false T128.heap n0 Z81'''''''' HR (by decide)) hZ (hw _ (List.mem_of_getElem? (i := 28) rfl)) (hw _ (List.mem_of_getElem? (i := 8) rfl)) (by decide) (by decide)) q129a q129c (g := (mkF m 310 #[.val (.int md), .val (.int sp), .val (.int tg), .val (.long fi), .second, .val (.int (2 : Int32)), .val (.int lf), .val (.int (1 : Int32)), .val (.int t1), .val (.int t2), .val (.ref b73), .val (.ref b74), .val (.ref b122), .val (.int (own_bI true)), .val (.int (own_bI true)), .val (.int (own_bI true))] [(.ref b122)])) rfl (by rw [hml]; rfl) (Steps.refl _) (argsL := []) (rest := []) (lenOf own_pd66 rfl) rfl (by show 2 * 0 + _ ≤ _; exact Nat.le_of_eq rfl) (hb hby at_310) (fun _ _ => ⟨rfl, rfl, (by decide : 5 + 0 ≤ _), (by decide : 19 + 0 ≤ _)⟩)
          dsimp only [Pt.U, Pt.locs, Pt.cells, Pt.slots] at X129 l129 y129 z129 st129 hQ129
          subst l129 y129 z129
          obtain ⟨rfl, N129q, EQ6⟩ := hQ129
          have N129 := Fr.app N128 N129q
          refine Goes.tr st129 ?_
          show Goes p e below s _ _ _ (T129.setTop (mkF m 313 #[.val (.int md), .val (.int sp), .val (.int tg), .val (.long fi), .second, .val (.int (2 : Int32)), .val (.int lf), .val (.int (1 : Int32)), .val (.int t1), .val (.int t2), .val (.ref b73), .val (.ref b74), .val (.ref b122), .val (.int (own_bI true)), .val (.int (own_bI true)), .val (.int (own_bI true))] [(.int (own_bI false))]))
          refine Goes.st (fun t_ k_ => XS.ifNo X129.here hx rfl (hb hby at_313) rfl ((if0 _ _).trans (teq (by decide)).2) k_) ?_
          show Goes p e below s _ _ _ (T129.setTop (mkF m 316 #[.val (.int md), .val (.int sp), .val (.int tg), .val (.long fi), .second, .val (.int (2 : Int32)), .val (.int lf), .val (.int (1 : Int32)), .val (.int t1), .val (.int t2), .val (.ref b73), .val (.ref b74), .val (.ref b122), .val (.int (own_bI true)), .val (.int (own_bI true)), .val (.int (own_bI true))] []))
          refine Goes.st (fun t_ k_ => XS.iconst X129.here hx rfl (hb hby at_316) k_) ?_
          show Goes p e below s _ _ _ (T129.setTop (mkF m 317 #[.val (.int md), .val (.int sp), .val (.int tg), .val (.long fi), .second, .val (.int (2 : Int32)), .val (.int lf), .val (.int (1 : Int32)), .val (.int t1), .val (.int t2), .val (.ref b73), .val (.ref b74), .val (.ref b122), .val (.int (own_bI true)), .val (.int (own_bI true)), .val (.int (own_bI true))] [(.int (1 : Int32))]))
          refine Goes.st (fun t_ k_ => XS.goto X129.here hx rfl (pc0 := 317) (pc' := 321) rfl (hb hby at_317) (by decide) (by decide) k_) ?_
          show Goes p e below s _ _ _ (T129.setTop (mkF m 321 #[.val (.int md), .val (.int sp), .val (.int tg), .val (.long fi), .second, .val (.int (2 : Int32)), .val (.int lf), .val (.int (1 : Int32)), .val (.int t1), .val (.int t2), .val (.ref b73), .val (.ref b74), .val (.ref b122), .val (.int (own_bI true)), .val (.int (own_bI true)), .val (.int (own_bI true))] [(.int (1 : Int32))]))
          exact Goes.retN X129 hx (t := .boolean) hret hlk (by simp) (hb hby at_321) (by decide) (by decide) (⟨rfl, N129⟩)
        · show Goes p e below s _ _ _ (T81.setTop (mkF m 161 #[.val (.int md), .val (.int sp), .val (.int tg), .val (.long fi), .second, .val (.int (2 : Int32)), .val (.int lf), .val (.int (2 : Int32)), .val (.int t1), .val (.int t2), .val (.ref b73), .val (.ref b74), .unset, .unset, .unset, .unset] []))
          refine Goes.st (fun t_ k_ => XS.aload X81.here hx rfl (hb hby at_161) rfl rfl k_) ?_
          show Goes p e below s _ _ _ (T81.setTop (mkF m 163 #[.val (.int md), .val (.int sp), .val (.int tg), .val (.long fi), .second, .val (.int (2 : Int32)), .val (.int lf), .val (.int (2 : Int32)), .val (.int t1), .val (.int t2), .val (.ref b73), .val (.ref b74), .unset, .unset, .unset, .unset] [(.ref b74)]))
          refine Goes.st (fun t_ k_ => XS.iconst X81.here hx rfl (hb hby at_163) k_) ?_
          show Goes p e below s _ _ _ (T81.setTop (mkF m 164 #[.val (.int md), .val (.int sp), .val (.int tg), .val (.long fi), .second, .val (.int (2 : Int32)), .val (.int lf), .val (.int (2 : Int32)), .val (.int t1), .val (.int t2), .val (.ref b73), .val (.ref b74), .unset, .unset, .unset, .unset] [(.int (0 : Int32)), (.ref b74)]))
          refine Goes.st (fun t_ k_ => XS.iload X81.here hx rfl (hb hby at_164) rfl  k_) ?_
          show Goes p e below s _ _ _ (T81.setTop (mkF m 166 #[.val (.int md), .val (.int sp), .val (.int tg), .val (.long fi), .second, .val (.int (2 : Int32)), .val (.int lf), .val (.int (2 : Int32)), .val (.int t1), .val (.int t2), .val (.ref b73), .val (.ref b74), .unset, .unset, .unset, .unset] [(.int t1), (.int (0 : Int32)), (.ref b74)]))
          refine Goes.st (fun t_ k_ => XS.i2b X81.here hx rfl (hb hby at_166) rfl k_) ?_
          show Goes p e below s _ _ _ (T81.setTop (mkF m 167 #[.val (.int md), .val (.int sp), .val (.int tg), .val (.long fi), .second, .val (.int (2 : Int32)), .val (.int lf), .val (.int (2 : Int32)), .val (.int t1), .val (.int t2), .val (.ref b73), .val (.ref b74), .unset, .unset, .unset, .unset] [(.int (t1.toInt8.toInt32)), (.int (0 : Int32)), (.ref b74)]))
          obtain ⟨cl130, Ar130, q130, S130, M130, H130, G130⟩ := V_b74
          obtain ⟨T130, h130, X130, e130, W130, st130⟩ := stB X81 hx hZ e81 Ar130 (j := (0 : Int32)) (inb_of S130 ⟨by decide, by decide⟩) (g := (mkF m 167 #[.val (.int md), .val (.int sp), .val (.int tg), .val (.long fi), .second, .val (.int (2 : Int32)), .val (.int lf), .val (.int (2 : Int32)), .val (.int t1), .val (.int t2), .val (.ref b73), .val (.ref b74), .unset, .unset, .unset, .unset] [(.int (t1.toInt8.toInt32)), (.int (0 : Int32)), (.ref b74)])) rfl rfl (hb hby at_167)
          have V_b74 := Arv.set Ar130 q130 S130 M130 H130 G130 (fits_nar_byte _) W130 0 rfl (Nat.le_of_ble_eq_true rfl)
          refine Goes.st st130 ?_
          have V_b74 : Arv Z h130 b74 k74 .byte (6 : Int32) [(.int (nar .byte (t1.toInt8.toInt32))), (.int f1), (.int f2), (.int f3), (.int f4), (.int f5)] (.int (0 : Int32)) := V_b74
          have V_b73 := V_b73.other W130 ne_b73_b74
          have N130 := Fr.snoc X130 N81 gn_b74
          have Z81' := Nat.le_trans Z81 (Keep.of_wr W130).1
          show Goes p e below s _ _ _ (T130.setTop (mkF m 168 #[.val (.int md), .val (.int sp), .val (.int tg), .val (.long fi), .second, .val (.int (2 : Int32)), .val (.int lf), .val (.int (2 : Int32)), .val (.int t1), .val (.int t2), .val (.ref b73), .val (.ref b74), .unset, .unset, .unset, .unset] []))
          refine Goes.st (fun t_ k_ => XS.aload X130.here hx rfl (hb hby at_168) rfl rfl k_) ?_
          show Goes p e below s _ _ _ (T130.setTop (mkF m 170 #[.val (.int md), .val (.int sp), .val (.int tg), .val (.long fi), .second, .val (.int (2 : Int32)), .val (.int lf), .val (.int (2 : Int32)), .val (.int t1), .val (.int t2), .val (.ref b73), .val (.ref b74), .unset, .unset, .unset, .unset] [(.ref b74)]))
          refine Goes.st (fun t_ k_ => XS.iconst X130.here hx rfl (hb hby at_170) k_) ?_
          show Goes p e below s _ _ _ (T130.setTop (mkF m 171 #[.val (.int md), .val (.int sp), .val (.int tg), .val (.long fi), .second, .val (.int (2 : Int32)), .val (.int lf), .val (.int (2 : Int32)), .val (.int t1), .val (.int t2), .val (.ref b73), .val (.ref b74), .unset, .unset, .unset, .unset] [(.int (1 : Int32)), (.ref b74)]))
          refine Goes.st (fun t_ k_ => XS.iload X130.here hx rfl (hb hby at_171) rfl  k_) ?_
          show Goes p e below s _ _ _ (T130.setTop (mkF m 173 #[.val (.int md), .val (.int sp), .val (.int tg), .val (.long fi), .second, .val (.int (2 : Int32)), .val (.int lf), .val (.int (2 : Int32)), .val (.int t1), .val (.int t2), .val (.ref b73), .val (.ref b74), .unset, .unset, .unset, .unset] [(.int (2 : Int32)), (.int (1 : Int32)), (.ref b74)]))
          refine Goes.st (fun t_ k_ => XS.i2b X130.here hx rfl (hb hby at_173) rfl k_) ?_
          show Goes p e below s _ _ _ (T130.setTop (mkF m 174 #[.val (.int md), .val (.int sp), .val (.int tg), .val (.long fi), .second, .val (.int (2 : Int32)), .val (.int lf), .val (.int (2 : Int32)), .val (.int t1), .val (.int t2), .val (.ref b73), .val (.ref b74), .unset, .unset, .unset, .unset] [(.int ((2 : Int32).toInt8.toInt32)), (.int (1 : Int32)), (.ref b74)]))
          obtain ⟨cl131, Ar131, q131, S131, M131, H131, G131⟩ := V_b74
          obtain ⟨T131, h131, X131, e131, W131, st131⟩ := stB X130 hx hZ e130 Ar131 (j := (1 : Int32)) (inb_of S131 ⟨by decide, by decide⟩) (g := (mkF m 174 #[.val (.int md), .val (.int sp), .val (.int tg), .val (.long fi), .second, .val (.int (2 : Int32)), .val (.int lf), .val (.int (2 : Int32)), .val (.int t1), .val (.int t2), .val (.ref b73), .val (.ref b74), .unset, .unset, .unset, .unset] [(.int ((2 : Int32).toInt8.toInt32)), (.int (1 : Int32)), (.ref b74)])) rfl rfl (hb hby at_174)
          have V_b74 := Arv.set Ar131 q131 S131 M131 H131 G131 (fits_nar_byte _) W131 1 rfl (Nat.le_of_ble_eq_true rfl)
          refine Goes.st st131 ?_
          have V_b74 : Arv Z h131 b74 k74 .byte (6 : Int32) [(.int (nar .byte (t1.toInt8.toInt32))), (.int (nar .byte ((2 : Int32).toInt8.toInt32))), (.int f2), (.int f3), (.int f4), (.int f5)] (.int (0 : Int32)) := V_b74
          have V_b73 := V_b73.other W131 ne_b73_b74
          have N131 := Fr.snoc X131 N130 gn_b74
          have Z81'' := Nat.le_trans Z81' (Keep.of_wr W131).1
          show Goes p e below s _ _ _ (T131.setTop (mkF m 175 #[.val (.int md), .val (.int sp), .val (.int tg), .val (.long fi), .second, .val (.int (2 : Int32)), .val (.int lf), .val (.int (2 : Int32)), .val (.int t1), .val (.int t2), .val (.ref b73), .val (.ref b74), .unset, .unset, .unset, .unset] []))
          refine Goes.st (fun t_ k_ => XS.aload X131.here hx rfl (hb hby at_175) rfl rfl k_) ?_
          show Goes p e below s _ _ _ (T131.setTop (mkF m 177 #[.val (.int md), .val (.int sp), .val (.int tg), .val (.long fi), .second, .val (.int (2 : Int32)), .val (.int lf), .val (.int (2 : Int32)), .val (.int t1), .val (.int t2), .val (.ref b73), .val (.ref b74), .unset, .unset, .unset, .unset] [(.ref b74)]))
          refine Goes.st (fun t_ k_ => XS.iconst X131.here hx rfl (hb hby at_177) k_) ?_
          show Goes p e below s _ _ _ (T131.setTop (mkF m 178 #[.val (.int md), .val (.int sp), .val (.int tg), .val (.long fi), .second, .val (.int (2 : Int32)), .val (.int lf), .val (.int (2 : Int32)), .val (.int t1), .val (.int t2), .val (.ref b73), .val (.ref b74), .unset, .unset, .unset, .unset] [(.int (2 : Int32)), (.ref b74)]))
          refine Goes.st (fun t_ k_ => XS.iload X131.here hx rfl (hb hby at_178) rfl  k_) ?_
          show Goes p e below s _ _ _ (T131.setTop (mkF m 180 #[.val (.int md), .val (.int sp), .val (.int tg), .val (.long fi), .second, .val (.int (2 : Int32)), .val (.int lf), .val (.int (2 : Int32)), .val (.int t1), .val (.int t2), .val (.ref b73), .val (.ref b74), .unset, .unset, .unset, .unset] [(.int (2 : Int32)), (.int (2 : Int32)), (.ref b74)]))
          refine Goes.st (fun t_ k_ => XS.iadd X131.here hx rfl (hb hby at_180) rfl k_) ?_
          show Goes p e below s _ _ _ (T131.setTop (mkF m 181 #[.val (.int md), .val (.int sp), .val (.int tg), .val (.long fi), .second, .val (.int (2 : Int32)), .val (.int lf), .val (.int (2 : Int32)), .val (.int t1), .val (.int t2), .val (.ref b73), .val (.ref b74), .unset, .unset, .unset, .unset] [(.int ((2 : Int32) + (2 : Int32))), (.ref b74)]))
          have lit132 : ((2 : Int32) + (2 : Int32)) = (4 : Int32) := by decide
          rw [lit132]
          show Goes p e below s _ _ _ (T131.setTop (mkF m 181 #[.val (.int md), .val (.int sp), .val (.int tg), .val (.long fi), .second, .val (.int (2 : Int32)), .val (.int lf), .val (.int (2 : Int32)), .val (.int t1), .val (.int t2), .val (.ref b73), .val (.ref b74), .unset, .unset, .unset, .unset] [(.int (4 : Int32)), (.ref b74)]))
          show Goes p e below s _ _ _ (T131.setTop (mkF m 181 #[.val (.int md), .val (.int sp), .val (.int tg), .val (.long fi), .second, .val (.int (2 : Int32)), .val (.int lf), .val (.int (2 : Int32)), .val (.int t1), .val (.int t2), .val (.ref b73), .val (.ref b74), .unset, .unset, .unset, .unset] [(.int (4 : Int32)), (.ref b74)]))
          refine Goes.st (fun t_ k_ => XS.iload X131.here hx rfl (hb hby at_181) rfl  k_) ?_
          show Goes p e below s _ _ _ (T131.setTop (mkF m 183 #[.val (.int md), .val (.int sp), .val (.int tg), .val (.long fi), .second, .val (.int (2 : Int32)), .val (.int lf), .val (.int (2 : Int32)), .val (.int t1), .val (.int t2), .val (.ref b73), .val (.ref b74), .unset, .unset, .unset, .unset] [(.int t2), (.int (4 : Int32)), (.ref b74)]))
          refine Goes.st (fun t_ k_ => XS.i2b X131.here hx rfl (hb hby at_183) rfl k_) ?_
          show Goes p e below s _ _ _ (T131.setTop (mkF m 184 #[.val (.int md), .val (.int sp), .val (.int tg), .val (.long fi), .second, .val (.int (2 : Int32)), .val (.int lf), .val (.int (2 : Int32)), .val (.int t1), .val (.int t2), .val (.ref b73), .val (.ref b74), .unset, .unset, .unset, .unset] [(.int (t2.toInt8.toInt32)), (.int (4 : Int32)), (.ref b74)]))
          obtain ⟨cl133, Ar133, q133, S133, M133, H133, G133⟩ := V_b74
          obtain ⟨T133, h133, X133, e133, W133, st133⟩ := stB X131 hx hZ e131 Ar133 (j := (4 : Int32)) (inb_of S133 ⟨by decide, by decide⟩) (g := (mkF m 184 #[.val (.int md), .val (.int sp), .val (.int tg), .val (.long fi), .second, .val (.int (2 : Int32)), .val (.int lf), .val (.int (2 : Int32)), .val (.int t1), .val (.int t2), .val (.ref b73), .val (.ref b74), .unset, .unset, .unset, .unset] [(.int (t2.toInt8.toInt32)), (.int (4 : Int32)), (.ref b74)])) rfl rfl (hb hby at_184)
          have V_b74 := Arv.set Ar133 q133 S133 M133 H133 G133 (fits_nar_byte _) W133 4 rfl (Nat.le_of_ble_eq_true rfl)
          refine Goes.st st133 ?_
          have V_b74 : Arv Z h133 b74 k74 .byte (6 : Int32) [(.int (nar .byte (t1.toInt8.toInt32))), (.int (nar .byte ((2 : Int32).toInt8.toInt32))), (.int f2), (.int f3), (.int (nar .byte (t2.toInt8.toInt32))), (.int f5)] (.int (0 : Int32)) := V_b74
          have V_b73 := V_b73.other W133 ne_b73_b74
          have N133 := Fr.snoc X133 N131 gn_b74
          have Z81''' := Nat.le_trans Z81'' (Keep.of_wr W133).1
          show Goes p e below s _ _ _ (T133.setTop (mkF m 185 #[.val (.int md), .val (.int sp), .val (.int tg), .val (.long fi), .second, .val (.int (2 : Int32)), .val (.int lf), .val (.int (2 : Int32)), .val (.int t1), .val (.int t2), .val (.ref b73), .val (.ref b74), .unset, .unset, .unset, .unset] []))
          refine Goes.st (fun t_ k_ => XS.aload X133.here hx rfl (hb hby at_185) rfl rfl k_) ?_
          show Goes p e below s _ _ _ (T133.setTop (mkF m 187 #[.val (.int md), .val (.int sp), .val (.int tg), .val (.long fi), .second, .val (.int (2 : Int32)), .val (.int lf), .val (.int (2 : Int32)), .val (.int t1), .val (.int t2), .val (.ref b73), .val (.ref b74), .unset, .unset, .unset, .unset] [(.ref b74)]))
          refine Goes.st (fun t_ k_ => XS.iconst X133.here hx rfl (hb hby at_187) k_) ?_
          show Goes p e below s _ _ _ (T133.setTop (mkF m 188 #[.val (.int md), .val (.int sp), .val (.int tg), .val (.long fi), .second, .val (.int (2 : Int32)), .val (.int lf), .val (.int (2 : Int32)), .val (.int t1), .val (.int t2), .val (.ref b73), .val (.ref b74), .unset, .unset, .unset, .unset] [(.int (3 : Int32)), (.ref b74)]))
          refine Goes.st (fun t_ k_ => XS.iload X133.here hx rfl (hb hby at_188) rfl  k_) ?_
          show Goes p e below s _ _ _ (T133.setTop (mkF m 190 #[.val (.int md), .val (.int sp), .val (.int tg), .val (.long fi), .second, .val (.int (2 : Int32)), .val (.int lf), .val (.int (2 : Int32)), .val (.int t1), .val (.int t2), .val (.ref b73), .val (.ref b74), .unset, .unset, .unset, .unset] [(.int (2 : Int32)), (.int (3 : Int32)), (.ref b74)]))
          refine Goes.st (fun t_ k_ => XS.iadd X133.here hx rfl (hb hby at_190) rfl k_) ?_
          show Goes p e below s _ _ _ (T133.setTop (mkF m 191 #[.val (.int md), .val (.int sp), .val (.int tg), .val (.long fi), .second, .val (.int (2 : Int32)), .val (.int lf), .val (.int (2 : Int32)), .val (.int t1), .val (.int t2), .val (.ref b73), .val (.ref b74), .unset, .unset, .unset, .unset] [(.int ((3 : Int32) + (2 : Int32))), (.ref b74)]))
          have lit134 : ((3 : Int32) + (2 : Int32)) = (5 : Int32) := by decide
          rw [lit134]
          show Goes p e below s _ _ _ (T133.setTop (mkF m 191 #[.val (.int md), .val (.int sp), .val (.int tg), .val (.long fi), .second, .val (.int (2 : Int32)), .val (.int lf), .val (.int (2 : Int32)), .val (.int t1), .val (.int t2), .val (.ref b73), .val (.ref b74), .unset, .unset, .unset, .unset] [(.int (5 : Int32)), (.ref b74)]))
          show Goes p e below s _ _ _ (T133.setTop (mkF m 191 #[.val (.int md), .val (.int sp), .val (.int tg), .val (.long fi), .second, .val (.int (2 : Int32)), .val (.int lf), .val (.int (2 : Int32)), .val (.int t1), .val (.int t2), .val (.ref b73), .val (.ref b74), .unset, .unset, .unset, .unset] [(.int (5 : Int32)), (.ref b74)]))
          refine Goes.st (fun t_ k_ => XS.iconst X133.here hx rfl (hb hby at_191) k_) ?_
          show Goes p e below s _ _ _ (T133.setTop (mkF m 192 #[.val (.int md), .val (.int sp), .val (.int tg), .val (.long fi), .second, .val (.int (2 : Int32)), .val (.int lf), .val (.int (2 : Int32)), .val (.int t1), .val (.int t2), .val (.ref b73), .val (.ref b74), .unset, .unset, .unset, .unset] [(.int (2 : Int32)), (.int (5 : Int32)), (.ref b74)]))
          refine Goes.st (fun t_ k_ => XS.iload X133.here hx rfl (hb hby at_192) rfl  k_) ?_
          show Goes p e below s _ _ _ (T133.setTop (mkF m 194 #[.val (.int md), .val (.int sp), .val (.int tg), .val (.long fi), .second, .val (.int (2 : Int32)), .val (.int lf), .val (.int (2 : Int32)), .val (.int t1), .val (.int t2), .val (.ref b73), .val (.ref b74), .unset, .unset, .unset, .unset] [(.int (2 : Int32)), (.int (2 : Int32)), (.int (5 : Int32)), (.ref b74)]))
          refine Goes.st (fun t_ k_ => XS.isub X133.here hx rfl (hb hby at_194) rfl k_) ?_
          show Goes p e below s _ _ _ (T133.setTop (mkF m 195 #[.val (.int md), .val (.int sp), .val (.int tg), .val (.long fi), .second, .val (.int (2 : Int32)), .val (.int lf), .val (.int (2 : Int32)), .val (.int t1), .val (.int t2), .val (.ref b73), .val (.ref b74), .unset, .unset, .unset, .unset] [(.int ((2 : Int32) - (2 : Int32))), (.int (5 : Int32)), (.ref b74)]))
          refine Goes.st (fun t_ k_ => XS.i2b X133.here hx rfl (hb hby at_195) rfl k_) ?_
          show Goes p e below s _ _ _ (T133.setTop (mkF m 196 #[.val (.int md), .val (.int sp), .val (.int tg), .val (.long fi), .second, .val (.int (2 : Int32)), .val (.int lf), .val (.int (2 : Int32)), .val (.int t1), .val (.int t2), .val (.ref b73), .val (.ref b74), .unset, .unset, .unset, .unset] [(.int (((2 : Int32) - (2 : Int32)).toInt8.toInt32)), (.int (5 : Int32)), (.ref b74)]))
          obtain ⟨cl135, Ar135, q135, S135, M135, H135, G135⟩ := V_b74
          obtain ⟨T135, h135, X135, e135, W135, st135⟩ := stB X133 hx hZ e133 Ar135 (j := (5 : Int32)) (inb_of S135 ⟨by decide, by decide⟩) (g := (mkF m 196 #[.val (.int md), .val (.int sp), .val (.int tg), .val (.long fi), .second, .val (.int (2 : Int32)), .val (.int lf), .val (.int (2 : Int32)), .val (.int t1), .val (.int t2), .val (.ref b73), .val (.ref b74), .unset, .unset, .unset, .unset] [(.int (((2 : Int32) - (2 : Int32)).toInt8.toInt32)), (.int (5 : Int32)), (.ref b74)])) rfl rfl (hb hby at_196)
          have V_b74 := Arv.set Ar135 q135 S135 M135 H135 G135 (fits_nar_byte _) W135 5 rfl (Nat.le_of_ble_eq_true rfl)
          refine Goes.st st135 ?_
          have V_b74 : Arv Z h135 b74 k74 .byte (6 : Int32) [(.int (nar .byte (t1.toInt8.toInt32))), (.int (nar .byte ((2 : Int32).toInt8.toInt32))), (.int f2), (.int f3), (.int (nar .byte (t2.toInt8.toInt32))), (.int (nar .byte (((2 : Int32) - (2 : Int32)).toInt8.toInt32)))] (.int (0 : Int32)) := V_b74
          have V_b73 := V_b73.other W135 ne_b73_b74
          have N135 := Fr.snoc X135 N133 gn_b74
          have Z81'''' := Nat.le_trans Z81''' (Keep.of_wr W135).1
          show Goes p e below s _ _ _ (T135.setTop (mkF m 197 #[.val (.int md), .val (.int sp), .val (.int tg), .val (.long fi), .second, .val (.int (2 : Int32)), .val (.int lf), .val (.int (2 : Int32)), .val (.int t1), .val (.int t2), .val (.ref b73), .val (.ref b74), .unset, .unset, .unset, .unset] []))
          show Goes p e below s _ _ _ (T135.setTop (mkF m 197 #[.val (.int md), .val (.int sp), .val (.int tg), .val (.long fi), .second, .val (.int (2 : Int32)), .val (.int lf), .val (.int (2 : Int32)), .val (.int t1), .val (.int t2), .val (.ref b73), .val (.ref b74), .unset, .unset, .unset, .unset] []))
          obtain ⟨T136, h136, X136, e136, E136, A136, D136, -, st136⟩ := newO X135 hx hZ hown (hw _ (List.mem_of_getElem? (i := 6) rfl)) (hw _ (List.mem_of_getElem? (i := 7) rfl)) (hw _ (List.mem_of_getElem? (i := 8) rfl)) e135 (g := (mkF m 197 #[.val (.int md), .val (.int sp), .val (.int tg), .val (.long fi), .second, .val (.int (2 : Int32)), .val (.int lf), .val (.int (2 : Int32)), .val (.int t1), .val (.int t2), .val (.ref b73), .val (.ref b74), .unset, .unset, .unset, .unset] [])) rfl (hb hby at_197) (by decide) (by decide)
          obtain ⟨b136, g136⟩ : ∃ z, z = h135.size := ⟨_, rfl⟩
          rw [← g136] at A136 D136 st136
          have ne_b73_b136 : b73 ≠ b136 := Nat.ne_of_lt (Nat.lt_of_lt_of_le V_b73.lt (Nat.le_of_eq g136.symm))
          have ne_b74_b136 : b74 ≠ b136 := Nat.ne_of_lt (Nat.lt_of_lt_of_le V_b74.lt (Nat.le_of_eq g136.symm))
          have gn_b136 : n0 ≤ b136 := Nat.le_trans Z81'''' (Nat.le_of_eq g136.symm)
          refine Goes.st st136 ?_
          have V_b73 := V_b73.ext E136
          have V_b74 := V_b74.ext E136
          have Z81''''' := Nat.le_trans Z81'''' E136.1
          have Ex_b136 := A136
          have F_bytes_b136 : Fld Z h136 b136 "com/example/torniquete/torniquete/core/DerReader" "bytes" "[B" .null := D136 (Or.inr (hw _ (List.mem_of_getElem? (i := 19) rfl))) (ty := (.array .byte)) (by decide)
          have F_position_b136 : Fld Z h136 b136 "com/example/torniquete/torniquete/core/DerReader" "position" "I" (.int (0 : Int32)) := D136 (Or.inl (hw _ (List.mem_of_getElem? (i := 21) rfl))) (ty := .int) (by decide)
          have F_end_b136 : Fld Z h136 b136 "com/example/torniquete/torniquete/core/DerReader" "end" "I" (.int (0 : Int32)) := D136 (Or.inr (hw _ (List.mem_of_getElem? (i := 23) rfl))) (ty := .int) (by decide)
          show Goes p e below s _ _ _ (T136.setTop (mkF m 200 #[.val (.int md), .val (.int sp), .val (.int tg), .val (.long fi), .second, .val (.int (2 : Int32)), .val (.int lf), .val (.int (2 : Int32)), .val (.int t1), .val (.int t2), .val (.ref b73), .val (.ref b74), .unset, .unset, .unset, .unset] [(.ref b136)]))
          refine Goes.st (fun t_ k_ => XS.dup X136.here hx rfl (hb hby at_200) rfl rfl k_) ?_
          show Goes p e below s _ _ _ (T136.setTop (mkF m 201 #[.val (.int md), .val (.int sp), .val (.int tg), .val (.long fi), .second, .val (.int (2 : Int32)), .val (.int lf), .val (.int (2 : Int32)), .val (.int t1), .val (.int t2), .val (.ref b73), .val (.ref b74), .unset, .unset, .unset, .unset] [(.ref b136), (.ref b136)]))
          refine Goes.st (fun t_ k_ => XS.iload X136.here hx rfl (hb hby at_201) rfl  k_) ?_
          show Goes p e below s _ _ _ (T136.setTop (mkF m 203 #[.val (.int md), .val (.int sp), .val (.int tg), .val (.long fi), .second, .val (.int (2 : Int32)), .val (.int lf), .val (.int (2 : Int32)), .val (.int t1), .val (.int t2), .val (.ref b73), .val (.ref b74), .unset, .unset, .unset, .unset] [(.int (2 : Int32)), (.ref b136), (.ref b136)]))
          refine Goes.st (fun t_ k_ => XS.ifYes X136.here hx rfl (pc0 := 203) (pc' := 211) rfl (hb hby at_203) rfl ((if0 _ _).trans (feq (by decide)).2) (by decide) (by decide) k_) ?_
          show Goes p e below s _ _ _ (T136.setTop (mkF m 211 #[.val (.int md), .val (.int sp), .val (.int tg), .val (.long fi), .second, .val (.int (2 : Int32)), .val (.int lf), .val (.int (2 : Int32)), .val (.int t1), .val (.int t2), .val (.ref b73), .val (.ref b74), .unset, .unset, .unset, .unset] [(.ref b136), (.ref b136)]))
          refine Goes.st (fun t_ k_ => XS.aload X136.here hx rfl (hb hby at_211) rfl rfl k_) ?_
          show Goes p e below s _ _ _ (T136.setTop (mkF m 213 #[.val (.int md), .val (.int sp), .val (.int tg), .val (.long fi), .second, .val (.int (2 : Int32)), .val (.int lf), .val (.int (2 : Int32)), .val (.int t1), .val (.int t2), .val (.ref b73), .val (.ref b74), .unset, .unset, .unset, .unset] [(.ref b74), (.ref b136), (.ref b136)]))
          obtain ⟨_, _, ⟨T137, L137, k137, n137⟩, -, X137, ⟨Lc137, hQ137, l137, y137, z137⟩, st137⟩ := X136.specialBack hx (y := (⟨"com/example/torniquete/torniquete/core/DerReader", "<init>", "([B)V"⟩ : MethodName)) rfl hown (mvT hZ (hw _ (List.mem_of_getElem? (i := 9) rfl))) (mvT hZ (hw _ (List.mem_of_getElem? (i := 10) rfl))) (mvT hZ (hw _ (List.mem_of_getElem? (i := 11) rfl))) (by decide) (backOf (W := 1) (own_rmI1 l Z a0 hw [] b136 b74 k74 (6 : Int32) _ h136 n0 Z81''''' Ex_b136 F_bytes_b136 F_position_b136 F_end_b136 V_b74 gn_b136) hZ (hw _ (List.mem_of_getElem? (i := 11) rfl)) (hw _ (List.mem_of_getElem? (i := 8) rfl)) (by decide) (by decide)) (g := (mkF m 213 #[.val (.int md), .val (.int sp), .val (.int tg), .val (.long fi), .second, .val (.int (2 : Int32)), .val (.int lf), .val (.int (2 : Int32)), .val (.int t1), .val (.int t2), .val (.ref b73), .val (.ref b74), .unset, .unset, .unset, .unset] [(.ref b74), (.ref b136), (.ref b136)])) rfl (by rw [hml]; rfl) (Steps.refl _) (a := b136) (argsL := [(.ref b74)]) (rest := [(.ref b136)]) (lenOf own_pd196 rfl) rfl (by show 2 * 0 + _ ≤ _; exact Nat.le_of_eq rfl) (hb hby at_213) (fun _ _ => ⟨rfl, e136, (by decide : 3 + 0 ≤ _), (by decide : 9 + 0 ≤ _)⟩)
          dsimp only [Pt.U, Pt.locs, Pt.cells, Pt.slots] at X137 l137 y137 z137 st137 hQ137
          subst l137 y137 z137
          obtain ⟨rfl, N137q, KI, HR⟩ := hQ137
          have N137 := Fr.app N135 N137q
          refine Goes.tr st137 ?_
          have V_b73 := V_b73.keep KI (ninS ne_b73_b136 nin0)
          have V_b74 := V_b74.keep KI (ninS ne_b74_b136 nin0)
          have Z81'''''' := Nat.le_trans Z81''''' KI.1
          have HR' := HR
          obtain ⟨E_b136, Fb_b136, Fp_b136, Fe_b136⟩ := HR'
          show Goes p e below s _ _ _ (T137.setTop (mkF m 216 #[.val (.int md), .val (.int sp), .val (.int tg), .val (.long fi), .second, .val (.int (2 : Int32)), .val (.int lf), .val (.int (2 : Int32)), .val (.int t1), .val (.int t2), .val (.ref b73), .val (.ref b74), .unset, .unset, .unset, .unset] [(.ref b136)]))
          refine Goes.st (fun t_ k_ => XS.astore X137.here hx rfl (hb hby at_216) rfl rfl (l' := #[.val (.int md), .val (.int sp), .val (.int tg), .val (.long fi), .second, .val (.int (2 : Int32)), .val (.int lf), .val (.int (2 : Int32)), .val (.int t1), .val (.int t2), .val (.ref b73), .val (.ref b74), .val (.ref b136), .unset, .unset, .unset]) rfl k_) ?_
          show Goes p e below s _ _ _ (T137.setTop (mkF m 218 #[.val (.int md), .val (.int sp), .val (.int tg), .val (.long fi), .second, .val (.int (2 : Int32)), .val (.int lf), .val (.int (2 : Int32)), .val (.int t1), .val (.int t2), .val (.ref b73), .val (.ref b74), .val (.ref b136), .unset, .unset, .unset] []))
          refine Goes.st (fun t_ k_ => XS.aload X137.here hx rfl (hb hby at_218) rfl rfl k_) ?_
          show Goes p e below s _ _ _ (T137.setTop (mkF m 220 #[.val (.int md), .val (.int sp), .val (.int tg), .val (.long fi), .second, .val (.int (2 : Int32)), .val (.int lf), .val (.int (2 : Int32)), .val (.int t1), .val (.int t2), .val (.ref b73), .val (.ref b74), .val (.ref b136), .unset, .unset, .unset] [(.ref b136)]))
          obtain ⟨cq138, kq138, q138a, q138b, q138c⟩ := isOf hZ rfl E_b136
          obtain ⟨_, _, ⟨T138, L138, k138, n138⟩, -, X138, ⟨Lc138, hQ138, l138, y138, z138⟩, st138⟩ := X137.virtualBack hx (y := (⟨"com/example/torniquete/torniquete/core/DerReader", "hasNext", "()Z"⟩ : MethodName)) (z := (⟨"com/example/torniquete/torniquete/core/DerReader", "hasNext", "()Z"⟩ : MethodName)) hown (mvT hZ (hw _ (List.mem_of_getElem? (i := 24) rfl))) (mvT hZ (hw _ (List.mem_of_getElem? (i := 25) rfl))) (notFace_of_selects (args := #[]) (mvT hZ (hw _ (List.mem_of_getElem? (i := 27) rfl)))) (mvT hZ (hw _ (List.mem_of_getElem? (i := 27) rfl))) (mvT hZ (hw _ (List.mem_of_getElem? (i := 26) rfl))) (by decide) (backOf (W := 0) (own_rmH l Z a0 hw [] b136 b74 0 6 true T137.heap n0 Z81'''''' HR (by decide)) hZ (hw _ (List.mem_of_getElem? (i := 28) rfl)) (hw _ (List.mem_of_getElem? (i := 8) rfl)) (by decide) (by decide)) q138a q138c (g := (mkF m 220 #[.val (.int md), .val (.int sp), .val (.int tg), .val (.long fi), .second, .val (.int (2 : Int32)), .val (.int lf), .val (.int (2 : Int32)), .val (.int t1), .val (.int t2), .val (.ref b73), .val (.ref b74), .val (.ref b136), .unset, .unset, .unset] [(.ref b136)])) rfl (by rw [hml]; rfl) (Steps.refl _) (argsL := []) (rest := []) (lenOf own_pd66 rfl) rfl (by show 2 * 0 + _ ≤ _; exact Nat.le_of_eq rfl) (hb hby at_220) (fun _ _ => ⟨rfl, rfl, (by decide : 3 + 0 ≤ _), (by decide : 9 + 0 ≤ _)⟩)
          dsimp only [Pt.U, Pt.locs, Pt.cells, Pt.slots] at X138 l138 y138 z138 st138 hQ138
          subst l138 y138 z138
          obtain ⟨rfl, N138q, EQ3⟩ := hQ138
          have N138 := Fr.app N137 N138q
          refine Goes.tr st138 ?_
          show Goes p e below s _ _ _ (T138.setTop (mkF m 223 #[.val (.int md), .val (.int sp), .val (.int tg), .val (.long fi), .second, .val (.int (2 : Int32)), .val (.int lf), .val (.int (2 : Int32)), .val (.int t1), .val (.int t2), .val (.ref b73), .val (.ref b74), .val (.ref b136), .unset, .unset, .unset] [(.int (own_bI true))]))
          refine Goes.st (fun t_ k_ => XS.istore X138.here hx rfl (hb hby at_223) rfl  (l' := #[.val (.int md), .val (.int sp), .val (.int tg), .val (.long fi), .second, .val (.int (2 : Int32)), .val (.int lf), .val (.int (2 : Int32)), .val (.int t1), .val (.int t2), .val (.ref b73), .val (.ref b74), .val (.ref b136), .val (.int (own_bI true)), .unset, .unset]) rfl k_) ?_
          show Goes p e below s _ _ _ (T138.setTop (mkF m 225 #[.val (.int md), .val (.int sp), .val (.int tg), .val (.long fi), .second, .val (.int (2 : Int32)), .val (.int lf), .val (.int (2 : Int32)), .val (.int t1), .val (.int t2), .val (.ref b73), .val (.ref b74), .val (.ref b136), .val (.int (own_bI true)), .unset, .unset] []))
          refine Goes.st (fun t_ k_ => XS.aload X138.here hx rfl (hb hby at_225) rfl rfl k_) ?_
          show Goes p e below s _ _ _ (T138.setTop (mkF m 227 #[.val (.int md), .val (.int sp), .val (.int tg), .val (.long fi), .second, .val (.int (2 : Int32)), .val (.int lf), .val (.int (2 : Int32)), .val (.int t1), .val (.int t2), .val (.ref b73), .val (.ref b74), .val (.ref b136), .val (.int (own_bI true)), .unset, .unset] [(.ref b136)]))
          obtain ⟨cq139, kq139, q139a, q139b, q139c⟩ := isOf hZ EQ3 E_b136
          obtain ⟨_, _, ⟨T139, L139, k139, n139⟩, -, X139, ⟨Lc139, hQ139, l139, y139, z139⟩, st139⟩ := X138.virtualBack hx (y := (⟨"com/example/torniquete/torniquete/core/DerReader", "hasNext", "()Z"⟩ : MethodName)) (z := (⟨"com/example/torniquete/torniquete/core/DerReader", "hasNext", "()Z"⟩ : MethodName)) hown (mvT hZ (hw _ (List.mem_of_getElem? (i := 24) rfl))) (mvT hZ (hw _ (List.mem_of_getElem? (i := 25) rfl))) (notFace_of_selects (args := #[]) (mvT hZ (hw _ (List.mem_of_getElem? (i := 27) rfl)))) (mvT hZ (hw _ (List.mem_of_getElem? (i := 27) rfl))) (mvT hZ (hw _ (List.mem_of_getElem? (i := 26) rfl))) (by decide) (backOf (W := 0) (own_rmH l Z a0 hw [] b136 b74 0 6 true T137.heap n0 Z81'''''' HR (by decide)) hZ (hw _ (List.mem_of_getElem? (i := 28) rfl)) (hw _ (List.mem_of_getElem? (i := 8) rfl)) (by decide) (by decide)) q139a q139c (g := (mkF m 227 #[.val (.int md), .val (.int sp), .val (.int tg), .val (.long fi), .second, .val (.int (2 : Int32)), .val (.int lf), .val (.int (2 : Int32)), .val (.int t1), .val (.int t2), .val (.ref b73), .val (.ref b74), .val (.ref b136), .val (.int (own_bI true)), .unset, .unset] [(.ref b136)])) rfl (by rw [hml]; rfl) (Steps.refl _) (argsL := []) (rest := []) (lenOf own_pd66 rfl) rfl (by show 2 * 0 + _ ≤ _; exact Nat.le_of_eq rfl) (hb hby at_227) (fun _ _ => ⟨rfl, EQ3, (by decide : 3 + 0 ≤ _), (by decide : 9 + 0 ≤ _)⟩)
          dsimp only [Pt.U, Pt.locs, Pt.cells, Pt.slots] at X139 l139 y139 z139 st139 hQ139
          subst l139 y139 z139
          obtain ⟨rfl, N139q, EQ4⟩ := hQ139
          have N139 := Fr.app N138 N139q
          refine Goes.tr st139 ?_
          show Goes p e below s _ _ _ (T139.setTop (mkF m 230 #[.val (.int md), .val (.int sp), .val (.int tg), .val (.long fi), .second, .val (.int (2 : Int32)), .val (.int lf), .val (.int (2 : Int32)), .val (.int t1), .val (.int t2), .val (.ref b73), .val (.ref b74), .val (.ref b136), .val (.int (own_bI true)), .unset, .unset] [(.int (own_bI true))]))
          refine Goes.st (fun t_ k_ => XS.istore X139.here hx rfl (hb hby at_230) rfl  (l' := #[.val (.int md), .val (.int sp), .val (.int tg), .val (.long fi), .second, .val (.int (2 : Int32)), .val (.int lf), .val (.int (2 : Int32)), .val (.int t1), .val (.int t2), .val (.ref b73), .val (.ref b74), .val (.ref b136), .val (.int (own_bI true)), .val (.int (own_bI true)), .unset]) rfl k_) ?_
          show Goes p e below s _ _ _ (T139.setTop (mkF m 232 #[.val (.int md), .val (.int sp), .val (.int tg), .val (.long fi), .second, .val (.int (2 : Int32)), .val (.int lf), .val (.int (2 : Int32)), .val (.int t1), .val (.int t2), .val (.ref b73), .val (.ref b74), .val (.ref b136), .val (.int (own_bI true)), .val (.int (own_bI true)), .unset] []))
          refine Goes.st (fun t_ k_ => XS.iload X139.here hx rfl (hb hby at_232) rfl  k_) ?_
          show Goes p e below s _ _ _ (T139.setTop (mkF m 234 #[.val (.int md), .val (.int sp), .val (.int tg), .val (.long fi), .second, .val (.int (2 : Int32)), .val (.int lf), .val (.int (2 : Int32)), .val (.int t1), .val (.int t2), .val (.ref b73), .val (.ref b74), .val (.ref b136), .val (.int (own_bI true)), .val (.int (own_bI true)), .unset] [(.int (2 : Int32))]))
          refine Goes.st (fun t_ k_ => XS.ifYes X139.here hx rfl (pc0 := 234) (pc' := 253) rfl (hb hby at_234) rfl ((if0 _ _).trans (feq (by decide)).2) (by decide) (by decide) k_) ?_
          show Goes p e below s _ _ _ (T139.setTop (mkF m 253 #[.val (.int md), .val (.int sp), .val (.int tg), .val (.long fi), .second, .val (.int (2 : Int32)), .val (.int lf), .val (.int (2 : Int32)), .val (.int t1), .val (.int t2), .val (.ref b73), .val (.ref b74), .val (.ref b136), .val (.int (own_bI true)), .val (.int (own_bI true)), .unset] []))
          refine Goes.st (fun t_ k_ => XS.iload X139.here hx rfl (hb hby at_253) rfl  k_) ?_
          show Goes p e below s _ _ _ (T139.setTop (mkF m 255 #[.val (.int md), .val (.int sp), .val (.int tg), .val (.long fi), .second, .val (.int (2 : Int32)), .val (.int lf), .val (.int (2 : Int32)), .val (.int t1), .val (.int t2), .val (.ref b73), .val (.ref b74), .val (.ref b136), .val (.int (own_bI true)), .val (.int (own_bI true)), .unset] [(.int (own_bI true))]))
          refine Goes.st (fun t_ k_ => XS.ifNo X139.here hx rfl (hb hby at_255) rfl ((if0 _ _).trans (feq (by decide)).1) k_) ?_
          show Goes p e below s _ _ _ (T139.setTop (mkF m 258 #[.val (.int md), .val (.int sp), .val (.int tg), .val (.long fi), .second, .val (.int (2 : Int32)), .val (.int lf), .val (.int (2 : Int32)), .val (.int t1), .val (.int t2), .val (.ref b73), .val (.ref b74), .val (.ref b136), .val (.int (own_bI true)), .val (.int (own_bI true)), .unset] []))
          refine Goes.st (fun t_ k_ => XS.iload X139.here hx rfl (hb hby at_258) rfl  k_) ?_
          show Goes p e below s _ _ _ (T139.setTop (mkF m 260 #[.val (.int md), .val (.int sp), .val (.int tg), .val (.long fi), .second, .val (.int (2 : Int32)), .val (.int lf), .val (.int (2 : Int32)), .val (.int t1), .val (.int t2), .val (.ref b73), .val (.ref b74), .val (.ref b136), .val (.int (own_bI true)), .val (.int (own_bI true)), .unset] [(.int (own_bI true))]))
          refine Goes.st (fun t_ k_ => XS.ifYes X139.here hx rfl (pc0 := 260) (pc' := 265) rfl (hb hby at_260) rfl ((if0 _ _).trans (feq (by decide)).2) (by decide) (by decide) k_) ?_
          show Goes p e below s _ _ _ (T139.setTop (mkF m 265 #[.val (.int md), .val (.int sp), .val (.int tg), .val (.long fi), .second, .val (.int (2 : Int32)), .val (.int lf), .val (.int (2 : Int32)), .val (.int t1), .val (.int t2), .val (.ref b73), .val (.ref b74), .val (.ref b136), .val (.int (own_bI true)), .val (.int (own_bI true)), .unset] []))
          refine Goes.st (fun t_ k_ => XS.aload X139.here hx rfl (hb hby at_265) rfl rfl k_) ?_
          show Goes p e below s _ _ _ (T139.setTop (mkF m 267 #[.val (.int md), .val (.int sp), .val (.int tg), .val (.long fi), .second, .val (.int (2 : Int32)), .val (.int lf), .val (.int (2 : Int32)), .val (.int t1), .val (.int t2), .val (.ref b73), .val (.ref b74), .val (.ref b136), .val (.int (own_bI true)), .val (.int (own_bI true)), .unset] [(.ref b136)]))
          obtain ⟨cq140, kq140, q140a, q140b, q140c⟩ := isOf hZ EQ4 E_b136
          obtain ⟨_, _, ⟨T140, L140, k140, n140⟩, -, X140, ⟨Lc140, hQ140, l140, y140, z140⟩, st140⟩ := X139.virtualBack hx (y := (⟨"com/example/torniquete/torniquete/core/DerReader", "next", "()Lcom/example/torniquete/torniquete/core/DerReader$Element;"⟩ : MethodName)) (z := (⟨"com/example/torniquete/torniquete/core/DerReader", "next", "()Lcom/example/torniquete/torniquete/core/DerReader$Element;"⟩ : MethodName)) hown (mvT hZ (hw _ (List.mem_of_getElem? (i := 29) rfl))) (mvT hZ (hw _ (List.mem_of_getElem? (i := 30) rfl))) (notFace_of_selects (args := #[]) (mvT hZ (hw _ (List.mem_of_getElem? (i := 32) rfl)))) (mvT hZ (hw _ (List.mem_of_getElem? (i := 32) rfl))) (mvT hZ (hw _ (List.mem_of_getElem? (i := 31) rfl))) (by decide) (backOf (W := 0) (own_rmNs l Z a0 hw [] b136 b74 0 (nar .byte t1.toInt8.toInt32) (nar .byte ((2 : Int32).toInt8.toInt32)) k74 [(.int (nar .byte (t1.toInt8.toInt32))), (.int (nar .byte ((2 : Int32).toInt8.toInt32))), (.int f2), (.int f3), (.int (nar .byte (t2.toInt8.toInt32))), (.int (nar .byte (((2 : Int32) - (2 : Int32)).toInt8.toInt32)))] T137.heap n0 Z81'''''' HR V_b74 (Ne.symm ne_b74_b136) ⟨by decide, by decide⟩ rfl (own_tagB ht1) ⟨by decide, by decide⟩ rfl (by decide) (by decide) gn_b136) hZ (hw _ (List.mem_of_getElem? (i := 33) rfl)) (hw _ (List.mem_of_getElem? (i := 8) rfl)) (by decide) (by decide)) q140a q140c (g := (mkF m 267 #[.val (.int md), .val (.int sp), .val (.int tg), .val (.long fi), .second, .val (.int (2 : Int32)), .val (.int lf), .val (.int (2 : Int32)), .val (.int t1), .val (.int t2), .val (.ref b73), .val (.ref b74), .val (.ref b136), .val (.int (own_bI true)), .val (.int (own_bI true)), .unset] [(.ref b136)])) rfl (by rw [hml]; rfl) (Steps.refl _) (argsL := []) (rest := []) (lenOf own_pd197 rfl) rfl (by show 2 * 0 + _ ≤ _; exact Nat.le_of_eq rfl) (hb hby at_267) (fun _ _ => ⟨rfl, EQ4, (by decide : 3 + 1 ≤ _), (by decide : 9 + 5 ≤ _)⟩)
          dsimp only [Pt.U, Pt.locs, Pt.cells, Pt.slots] at X140 l140 y140 z140 st140 hQ140
          subst l140 y140 z140
          obtain ⟨el, rfl, N140q, KN, HR⟩ := hQ140
          have N140 := Fr.app N139 N140q
          refine Goes.tr st140 ?_
          have V_b73 := V_b73.keep KN (ninS ne_b73_b136 nin0)
          have V_b74 := V_b74.keep KN (ninS ne_b74_b136 nin0)
          have Z81''''''' := Nat.le_trans Z81'''''' KN.1
          rw [show (0 : Int32) + 1 + 1 + ((nar .byte ((2 : Int32).toInt8.toInt32)) &&& 255) = 4 by decide] at HR
          have HR' := HR
          obtain ⟨E_b136, Fb_b136, Fp_b136, Fe_b136⟩ := HR'
          show Goes p e below s _ _ _ (T140.setTop (mkF m 270 #[.val (.int md), .val (.int sp), .val (.int tg), .val (.long fi), .second, .val (.int (2 : Int32)), .val (.int lf), .val (.int (2 : Int32)), .val (.int t1), .val (.int t2), .val (.ref b73), .val (.ref b74), .val (.ref b136), .val (.int (own_bI true)), .val (.int (own_bI true)), .unset] [(.ref el)]))
          refine Goes.st (fun t_ k_ => XS.pop X140.here hx rfl (hb hby at_270) rfl rfl k_) ?_
          show Goes p e below s _ _ _ (T140.setTop (mkF m 271 #[.val (.int md), .val (.int sp), .val (.int tg), .val (.long fi), .second, .val (.int (2 : Int32)), .val (.int lf), .val (.int (2 : Int32)), .val (.int t1), .val (.int t2), .val (.ref b73), .val (.ref b74), .val (.ref b136), .val (.int (own_bI true)), .val (.int (own_bI true)), .unset] []))
          refine Goes.st (fun t_ k_ => XS.aload X140.here hx rfl (hb hby at_271) rfl rfl k_) ?_
          show Goes p e below s _ _ _ (T140.setTop (mkF m 273 #[.val (.int md), .val (.int sp), .val (.int tg), .val (.long fi), .second, .val (.int (2 : Int32)), .val (.int lf), .val (.int (2 : Int32)), .val (.int t1), .val (.int t2), .val (.ref b73), .val (.ref b74), .val (.ref b136), .val (.int (own_bI true)), .val (.int (own_bI true)), .unset] [(.ref b136)]))
          obtain ⟨cq141, kq141, q141a, q141b, q141c⟩ := isOf hZ rfl E_b136
          obtain ⟨_, _, ⟨T141, L141, k141, n141⟩, -, X141, ⟨Lc141, hQ141, l141, y141, z141⟩, st141⟩ := X140.virtualBack hx (y := (⟨"com/example/torniquete/torniquete/core/DerReader", "hasNext", "()Z"⟩ : MethodName)) (z := (⟨"com/example/torniquete/torniquete/core/DerReader", "hasNext", "()Z"⟩ : MethodName)) hown (mvT hZ (hw _ (List.mem_of_getElem? (i := 24) rfl))) (mvT hZ (hw _ (List.mem_of_getElem? (i := 25) rfl))) (notFace_of_selects (args := #[]) (mvT hZ (hw _ (List.mem_of_getElem? (i := 27) rfl)))) (mvT hZ (hw _ (List.mem_of_getElem? (i := 27) rfl))) (mvT hZ (hw _ (List.mem_of_getElem? (i := 26) rfl))) (by decide) (backOf (W := 0) (own_rmH l Z a0 hw [] b136 b74 4 6 true T140.heap n0 Z81''''''' HR (by decide)) hZ (hw _ (List.mem_of_getElem? (i := 28) rfl)) (hw _ (List.mem_of_getElem? (i := 8) rfl)) (by decide) (by decide)) q141a q141c (g := (mkF m 273 #[.val (.int md), .val (.int sp), .val (.int tg), .val (.long fi), .second, .val (.int (2 : Int32)), .val (.int lf), .val (.int (2 : Int32)), .val (.int t1), .val (.int t2), .val (.ref b73), .val (.ref b74), .val (.ref b136), .val (.int (own_bI true)), .val (.int (own_bI true)), .unset] [(.ref b136)])) rfl (by rw [hml]; rfl) (Steps.refl _) (argsL := []) (rest := []) (lenOf own_pd66 rfl) rfl (by show 2 * 0 + _ ≤ _; exact Nat.le_of_eq rfl) (hb hby at_273) (fun _ _ => ⟨rfl, rfl, (by decide : 4 + 0 ≤ _), (by decide : 14 + 0 ≤ _)⟩)
          dsimp only [Pt.U, Pt.locs, Pt.cells, Pt.slots] at X141 l141 y141 z141 st141 hQ141
          subst l141 y141 z141
          obtain ⟨rfl, N141q, EQ5⟩ := hQ141
          have N141 := Fr.app N140 N141q
          refine Goes.tr st141 ?_
          show Goes p e below s _ _ _ (T141.setTop (mkF m 276 #[.val (.int md), .val (.int sp), .val (.int tg), .val (.long fi), .second, .val (.int (2 : Int32)), .val (.int lf), .val (.int (2 : Int32)), .val (.int t1), .val (.int t2), .val (.ref b73), .val (.ref b74), .val (.ref b136), .val (.int (own_bI true)), .val (.int (own_bI true)), .unset] [(.int (own_bI true))]))
          refine Goes.st (fun t_ k_ => XS.istore X141.here hx rfl (hb hby at_276) rfl  (l' := #[.val (.int md), .val (.int sp), .val (.int tg), .val (.long fi), .second, .val (.int (2 : Int32)), .val (.int lf), .val (.int (2 : Int32)), .val (.int t1), .val (.int t2), .val (.ref b73), .val (.ref b74), .val (.ref b136), .val (.int (own_bI true)), .val (.int (own_bI true)), .val (.int (own_bI true))]) rfl k_) ?_
          show Goes p e below s _ _ _ (T141.setTop (mkF m 278 #[.val (.int md), .val (.int sp), .val (.int tg), .val (.long fi), .second, .val (.int (2 : Int32)), .val (.int lf), .val (.int (2 : Int32)), .val (.int t1), .val (.int t2), .val (.ref b73), .val (.ref b74), .val (.ref b136), .val (.int (own_bI true)), .val (.int (own_bI true)), .val (.int (own_bI true))] []))
          refine Goes.st (fun t_ k_ => XS.iload X141.here hx rfl (hb hby at_278) rfl  k_) ?_
          show Goes p e below s _ _ _ (T141.setTop (mkF m 280 #[.val (.int md), .val (.int sp), .val (.int tg), .val (.long fi), .second, .val (.int (2 : Int32)), .val (.int lf), .val (.int (2 : Int32)), .val (.int t1), .val (.int t2), .val (.ref b73), .val (.ref b74), .val (.ref b136), .val (.int (own_bI true)), .val (.int (own_bI true)), .val (.int (own_bI true))] [(.int (2 : Int32))]))
          refine Goes.st (fun t_ k_ => XS.iconst X141.here hx rfl (hb hby at_280) k_) ?_
          show Goes p e below s _ _ _ (T141.setTop (mkF m 281 #[.val (.int md), .val (.int sp), .val (.int tg), .val (.long fi), .second, .val (.int (2 : Int32)), .val (.int lf), .val (.int (2 : Int32)), .val (.int t1), .val (.int t2), .val (.ref b73), .val (.ref b74), .val (.ref b136), .val (.int (own_bI true)), .val (.int (own_bI true)), .val (.int (own_bI true))] [(.int (1 : Int32)), (.int (2 : Int32))]))
          refine Goes.st (fun t_ k_ => XS.icmpYes X141.here hx rfl (pc0 := 281) (pc' := 295) rfl (hb hby at_281) rfl (feq (by decide)).2 (by decide) (by decide) k_) ?_
          show Goes p e below s _ _ _ (T141.setTop (mkF m 295 #[.val (.int md), .val (.int sp), .val (.int tg), .val (.long fi), .second, .val (.int (2 : Int32)), .val (.int lf), .val (.int (2 : Int32)), .val (.int t1), .val (.int t2), .val (.ref b73), .val (.ref b74), .val (.ref b136), .val (.int (own_bI true)), .val (.int (own_bI true)), .val (.int (own_bI true))] []))
          refine Goes.st (fun t_ k_ => XS.iload X141.here hx rfl (hb hby at_295) rfl  k_) ?_
          show Goes p e below s _ _ _ (T141.setTop (mkF m 297 #[.val (.int md), .val (.int sp), .val (.int tg), .val (.long fi), .second, .val (.int (2 : Int32)), .val (.int lf), .val (.int (2 : Int32)), .val (.int t1), .val (.int t2), .val (.ref b73), .val (.ref b74), .val (.ref b136), .val (.int (own_bI true)), .val (.int (own_bI true)), .val (.int (own_bI true))] [(.int (own_bI true))]))
          refine Goes.st (fun t_ k_ => XS.ifYes X141.here hx rfl (pc0 := 297) (pc' := 302) rfl (hb hby at_297) rfl ((if0 _ _).trans (feq (by decide)).2) (by decide) (by decide) k_) ?_
          show Goes p e below s _ _ _ (T141.setTop (mkF m 302 #[.val (.int md), .val (.int sp), .val (.int tg), .val (.long fi), .second, .val (.int (2 : Int32)), .val (.int lf), .val (.int (2 : Int32)), .val (.int t1), .val (.int t2), .val (.ref b73), .val (.ref b74), .val (.ref b136), .val (.int (own_bI true)), .val (.int (own_bI true)), .val (.int (own_bI true))] []))
          refine Goes.st (fun t_ k_ => XS.aload X141.here hx rfl (hb hby at_302) rfl rfl k_) ?_
          show Goes p e below s _ _ _ (T141.setTop (mkF m 304 #[.val (.int md), .val (.int sp), .val (.int tg), .val (.long fi), .second, .val (.int (2 : Int32)), .val (.int lf), .val (.int (2 : Int32)), .val (.int t1), .val (.int t2), .val (.ref b73), .val (.ref b74), .val (.ref b136), .val (.int (own_bI true)), .val (.int (own_bI true)), .val (.int (own_bI true))] [(.ref b136)]))
          obtain ⟨cq142, kq142, q142a, q142b, q142c⟩ := isOf hZ EQ5 E_b136
          obtain ⟨_, _, ⟨T142, L142, k142, n142⟩, -, X142, ⟨Lc142, hQ142, l142, y142, z142⟩, st142⟩ := X141.virtualBack hx (y := (⟨"com/example/torniquete/torniquete/core/DerReader", "next", "()Lcom/example/torniquete/torniquete/core/DerReader$Element;"⟩ : MethodName)) (z := (⟨"com/example/torniquete/torniquete/core/DerReader", "next", "()Lcom/example/torniquete/torniquete/core/DerReader$Element;"⟩ : MethodName)) hown (mvT hZ (hw _ (List.mem_of_getElem? (i := 29) rfl))) (mvT hZ (hw _ (List.mem_of_getElem? (i := 30) rfl))) (notFace_of_selects (args := #[]) (mvT hZ (hw _ (List.mem_of_getElem? (i := 32) rfl)))) (mvT hZ (hw _ (List.mem_of_getElem? (i := 32) rfl))) (mvT hZ (hw _ (List.mem_of_getElem? (i := 31) rfl))) (by decide) (backOf (W := 0) (own_rmNs l Z a0 hw [] b136 b74 4 (nar .byte t2.toInt8.toInt32) (nar .byte (((2 : Int32) - (2 : Int32)).toInt8.toInt32)) k74 [(.int (nar .byte (t1.toInt8.toInt32))), (.int (nar .byte ((2 : Int32).toInt8.toInt32))), (.int f2), (.int f3), (.int (nar .byte (t2.toInt8.toInt32))), (.int (nar .byte (((2 : Int32) - (2 : Int32)).toInt8.toInt32)))] T140.heap n0 Z81''''''' HR V_b74 (Ne.symm ne_b74_b136) ⟨by decide, by decide⟩ rfl (own_tagB ht2) ⟨by decide, by decide⟩ rfl (by decide) (by decide) gn_b136) hZ (hw _ (List.mem_of_getElem? (i := 33) rfl)) (hw _ (List.mem_of_getElem? (i := 8) rfl)) (by decide) (by decide)) q142a q142c (g := (mkF m 304 #[.val (.int md), .val (.int sp), .val (.int tg), .val (.long fi), .second, .val (.int (2 : Int32)), .val (.int lf), .val (.int (2 : Int32)), .val (.int t1), .val (.int t2), .val (.ref b73), .val (.ref b74), .val (.ref b136), .val (.int (own_bI true)), .val (.int (own_bI true)), .val (.int (own_bI true))] [(.ref b136)])) rfl (by rw [hml]; rfl) (Steps.refl _) (argsL := []) (rest := []) (lenOf own_pd197 rfl) rfl (by show 2 * 0 + _ ≤ _; exact Nat.le_of_eq rfl) (hb hby at_304) (fun _ _ => ⟨rfl, EQ5, (by decide : 4 + 1 ≤ _), (by decide : 14 + 5 ≤ _)⟩)
          dsimp only [Pt.U, Pt.locs, Pt.cells, Pt.slots] at X142 l142 y142 z142 st142 hQ142
          subst l142 y142 z142
          obtain ⟨el, rfl, N142q, KN, HR⟩ := hQ142
          have N142 := Fr.app N141 N142q
          refine Goes.tr st142 ?_
          have V_b73 := V_b73.keep KN (ninS ne_b73_b136 nin0)
          have V_b74 := V_b74.keep KN (ninS ne_b74_b136 nin0)
          have Z81'''''''' := Nat.le_trans Z81''''''' KN.1
          rw [show (4 : Int32) + 1 + 1 + ((nar .byte (((2 : Int32) - (2 : Int32)).toInt8.toInt32)) &&& 255) = 6 by decide] at HR
          have HR' := HR
          obtain ⟨E_b136, Fb_b136, Fp_b136, Fe_b136⟩ := HR'
          show Goes p e below s _ _ _ (T142.setTop (mkF m 307 #[.val (.int md), .val (.int sp), .val (.int tg), .val (.long fi), .second, .val (.int (2 : Int32)), .val (.int lf), .val (.int (2 : Int32)), .val (.int t1), .val (.int t2), .val (.ref b73), .val (.ref b74), .val (.ref b136), .val (.int (own_bI true)), .val (.int (own_bI true)), .val (.int (own_bI true))] [(.ref el)]))
          refine Goes.st (fun t_ k_ => XS.pop X142.here hx rfl (hb hby at_307) rfl rfl k_) ?_
          show Goes p e below s _ _ _ (T142.setTop (mkF m 308 #[.val (.int md), .val (.int sp), .val (.int tg), .val (.long fi), .second, .val (.int (2 : Int32)), .val (.int lf), .val (.int (2 : Int32)), .val (.int t1), .val (.int t2), .val (.ref b73), .val (.ref b74), .val (.ref b136), .val (.int (own_bI true)), .val (.int (own_bI true)), .val (.int (own_bI true))] []))
          refine Goes.st (fun t_ k_ => XS.aload X142.here hx rfl (hb hby at_308) rfl rfl k_) ?_
          show Goes p e below s _ _ _ (T142.setTop (mkF m 310 #[.val (.int md), .val (.int sp), .val (.int tg), .val (.long fi), .second, .val (.int (2 : Int32)), .val (.int lf), .val (.int (2 : Int32)), .val (.int t1), .val (.int t2), .val (.ref b73), .val (.ref b74), .val (.ref b136), .val (.int (own_bI true)), .val (.int (own_bI true)), .val (.int (own_bI true))] [(.ref b136)]))
          obtain ⟨cq143, kq143, q143a, q143b, q143c⟩ := isOf hZ rfl E_b136
          obtain ⟨_, _, ⟨T143, L143, k143, n143⟩, -, X143, ⟨Lc143, hQ143, l143, y143, z143⟩, st143⟩ := X142.virtualBack hx (y := (⟨"com/example/torniquete/torniquete/core/DerReader", "hasNext", "()Z"⟩ : MethodName)) (z := (⟨"com/example/torniquete/torniquete/core/DerReader", "hasNext", "()Z"⟩ : MethodName)) hown (mvT hZ (hw _ (List.mem_of_getElem? (i := 24) rfl))) (mvT hZ (hw _ (List.mem_of_getElem? (i := 25) rfl))) (notFace_of_selects (args := #[]) (mvT hZ (hw _ (List.mem_of_getElem? (i := 27) rfl)))) (mvT hZ (hw _ (List.mem_of_getElem? (i := 27) rfl))) (mvT hZ (hw _ (List.mem_of_getElem? (i := 26) rfl))) (by decide) (backOf (W := 0) (own_rmH l Z a0 hw [] b136 b74 6 6 false T142.heap n0 Z81'''''''' HR (by decide)) hZ (hw _ (List.mem_of_getElem? (i := 28) rfl)) (hw _ (List.mem_of_getElem? (i := 8) rfl)) (by decide) (by decide)) q143a q143c (g := (mkF m 310 #[.val (.int md), .val (.int sp), .val (.int tg), .val (.long fi), .second, .val (.int (2 : Int32)), .val (.int lf), .val (.int (2 : Int32)), .val (.int t1), .val (.int t2), .val (.ref b73), .val (.ref b74), .val (.ref b136), .val (.int (own_bI true)), .val (.int (own_bI true)), .val (.int (own_bI true))] [(.ref b136)])) rfl (by rw [hml]; rfl) (Steps.refl _) (argsL := []) (rest := []) (lenOf own_pd66 rfl) rfl (by show 2 * 0 + _ ≤ _; exact Nat.le_of_eq rfl) (hb hby at_310) (fun _ _ => ⟨rfl, rfl, (by decide : 5 + 0 ≤ _), (by decide : 19 + 0 ≤ _)⟩)
          dsimp only [Pt.U, Pt.locs, Pt.cells, Pt.slots] at X143 l143 y143 z143 st143 hQ143
          subst l143 y143 z143
          obtain ⟨rfl, N143q, EQ6⟩ := hQ143
          have N143 := Fr.app N142 N143q
          refine Goes.tr st143 ?_
          show Goes p e below s _ _ _ (T143.setTop (mkF m 313 #[.val (.int md), .val (.int sp), .val (.int tg), .val (.long fi), .second, .val (.int (2 : Int32)), .val (.int lf), .val (.int (2 : Int32)), .val (.int t1), .val (.int t2), .val (.ref b73), .val (.ref b74), .val (.ref b136), .val (.int (own_bI true)), .val (.int (own_bI true)), .val (.int (own_bI true))] [(.int (own_bI false))]))
          refine Goes.st (fun t_ k_ => XS.ifNo X143.here hx rfl (hb hby at_313) rfl ((if0 _ _).trans (teq (by decide)).2) k_) ?_
          show Goes p e below s _ _ _ (T143.setTop (mkF m 316 #[.val (.int md), .val (.int sp), .val (.int tg), .val (.long fi), .second, .val (.int (2 : Int32)), .val (.int lf), .val (.int (2 : Int32)), .val (.int t1), .val (.int t2), .val (.ref b73), .val (.ref b74), .val (.ref b136), .val (.int (own_bI true)), .val (.int (own_bI true)), .val (.int (own_bI true))] []))
          refine Goes.st (fun t_ k_ => XS.iconst X143.here hx rfl (hb hby at_316) k_) ?_
          show Goes p e below s _ _ _ (T143.setTop (mkF m 317 #[.val (.int md), .val (.int sp), .val (.int tg), .val (.long fi), .second, .val (.int (2 : Int32)), .val (.int lf), .val (.int (2 : Int32)), .val (.int t1), .val (.int t2), .val (.ref b73), .val (.ref b74), .val (.ref b136), .val (.int (own_bI true)), .val (.int (own_bI true)), .val (.int (own_bI true))] [(.int (1 : Int32))]))
          refine Goes.st (fun t_ k_ => XS.goto X143.here hx rfl (pc0 := 317) (pc' := 321) rfl (hb hby at_317) (by decide) (by decide) k_) ?_
          show Goes p e below s _ _ _ (T143.setTop (mkF m 321 #[.val (.int md), .val (.int sp), .val (.int tg), .val (.long fi), .second, .val (.int (2 : Int32)), .val (.int lf), .val (.int (2 : Int32)), .val (.int t1), .val (.int t2), .val (.ref b73), .val (.ref b74), .val (.ref b136), .val (.int (own_bI true)), .val (.int (own_bI true)), .val (.int (own_bI true))] [(.int (1 : Int32))]))
          exact Goes.retN X143 hx (t := .boolean) hret hlk (by simp) (hb hby at_321) (by decide) (by decide) (⟨rfl, N143⟩)
    exact hj2 _ _ _ _ _ _ _ _ _ X80 e80 N80 Z0'''''''' V_b73 V_b74    
  by_cases hlf0 : (((md.toUInt32 >>> ((16 : Int32) &&& 31).toUInt32).toInt32) &&& (1 : Int32)) = (0 : Int32)
  · refine Goes.st (fun t_ k_ => XS.ifYes X0.here hx rfl (pc0 := 14) (pc' := 21) rfl (hb hby at_14) rfl ((if0 _ _).trans (teq hlf0).1) (by decide) (by decide) k_) ?_
    show Goes p e below s _ _ _ (s₁.setTop (mkF m 21 #[.val (.int md), .val (.int sp), .val (.int tg), .val (.long fi), .second, .val (.int mm), .unset, .unset, .unset, .unset, .unset, .unset, .unset, .unset, .unset, .unset] []))
    refine Goes.st (fun t_ k_ => XS.iconst X0.here hx rfl (hb hby at_21) k_) ?_
    show Goes p e below s _ _ _ (s₁.setTop (mkF m 22 #[.val (.int md), .val (.int sp), .val (.int tg), .val (.long fi), .second, .val (.int mm), .unset, .unset, .unset, .unset, .unset, .unset, .unset, .unset, .unset, .unset] [(.int (0 : Int32))]))
    exact hj1 _
  · refine Goes.st (fun t_ k_ => XS.ifNo X0.here hx rfl (hb hby at_14) rfl ((if0 _ _).trans (feq hlf0).1) k_) ?_
    show Goes p e below s _ _ _ (s₁.setTop (mkF m 17 #[.val (.int md), .val (.int sp), .val (.int tg), .val (.long fi), .second, .val (.int mm), .unset, .unset, .unset, .unset, .unset, .unset, .unset, .unset, .unset, .unset] []))
    refine Goes.st (fun t_ k_ => XS.iconst X0.here hx rfl (hb hby at_17) k_) ?_
    show Goes p e below s _ _ _ (s₁.setTop (mkF m 18 #[.val (.int md), .val (.int sp), .val (.int tg), .val (.long fi), .second, .val (.int mm), .unset, .unset, .unset, .unset, .unset, .unset, .unset, .unset, .unset, .unset] [(.int (1 : Int32))]))
    refine Goes.st (fun t_ k_ => XS.goto X0.here hx rfl (pc0 := 18) (pc' := 22) rfl (hb hby at_18) (by decide) (by decide) k_) ?_
    show Goes p e below s _ _ _ (s₁.setTop (mkF m 22 #[.val (.int md), .val (.int sp), .val (.int tg), .val (.long fi), .second, .val (.int mm), .unset, .unset, .unset, .unset, .unset, .unset, .unset, .unset, .unset, .unset] [(.int (1 : Int32))]))
    exact hj1 _
set_option maxRecDepth 65536 in
set_option maxHeartbeats 40000000 in
theorem comes_1 {Post : Tables → Env → Array Value → State → Outcome → State → Prop} (hpost : ∀ tb e args s v u, (limb_1_1.after args s (.returned v) u = true ∧ limb_1_2.after args s (.returned v) u = true ∧ True) → FrameEnd s (.returned v) u (Jvm.fieldLocs frame_1_writes args s ++ Jvm.arrayLocs frame_1_arrays args s ++ Jvm.staticLocs frame_1_statics s) 24 128 → Post tb e args s (.returned v) u) :
    ArmFor flags0 classFile x code maxLocals ret World_1 tables_1 room_1 Calls_1 rest_1 Pre_1 Post := by
  intro l hfl _ _ p e ha hc hk s m args below hf hA hF happ hP
  obtain ⟨hcalls, hrest, hpre⟩ := hP
  obtain ⟨-, -, -, hnamed, -, -, -, hat⟩ := (Spec.applies_iff hf).mp happ
  obtain ⟨hg, hn⟩ := and_e (Cond.before_iff.mp (show (Jvm.Cond.and given_1 narrow_1).before args s = true from hpre))
  obtain ⟨g0, gr0⟩ := and_e hg
  obtain ⟨ga0, gr1⟩ := and_e gr0
  obtain ⟨ga1, gr2⟩ := and_e gr1
  obtain ⟨ga2, gr3⟩ := and_e gr2
  have ga3 := gr3
  obtain ⟨w0, w1, w2, w3, rfl⟩ : ∃ w0 w1 w2 w3 : Value, args = #[w0, w1, w2, w3] := by
    have hs : args.size = 4 := by simpa [Cond.value, given_1] using g0
    obtain ⟨L⟩ := args
    match L, hs with
    | [w0, w1, w2, w3], _ => exact ⟨w0, w1, w2, w3, rfl⟩
  have hw := fun d (hd : d ∈ tables_1) => atoms_spec (ws := Jvm.Cond.code x code maxLocals ret :: tables_1) hat d (List.mem_cons_of_mem _ hd)
  have hfit : Fit s := fun {y c} hc i hi => by
    obtain ⟨ha, rfl⟩ := Array.getElem?_eq_some_iff.mp hc
    have q := List.all_eq_true.mp ((Array.all_eq_true_iff_forall_mem.mp hF) _ (Array.getElem_mem ha)) i (List.mem_range.mpr hi)
    simpa [Array.getElem?_eq_getElem hi] using q
  obtain ⟨i0, ei0⟩ := is_v ga0
  obtain rfl : w0 = (.int i0) := Option.some.inj ei0
  obtain ⟨i1, ei1⟩ := is_v ga1
  obtain rfl : w1 = (.int i1) := Option.some.inj ei1
  obtain ⟨i2, ei2⟩ := is_v ga2
  obtain rfl : w2 = (.int i2) := Option.some.inj ei2
  obtain ⟨i3, ei3⟩ := isL_v ga3
  obtain rfl : w3 = (.long i3) := Option.some.inj ei3
  obtain ⟨n, o, h1, h2, h3, _, L, rfl, ⟨rfl, N⟩, hq⟩ := own_rm0 l s _ hw tables_1 i0 i1 i2 i3  s.heap s.heap.size (Nat.le_refl _)  p e ha hc hk s m _ below hf ((Spec.applies_iff_loose hf).mp happ).1 ⟨rfl, State.Warmed39.refl s, rfl⟩ trivial
  refine ⟨n, _, h1, h2, h3, hpost _ _ _ _ _ _ ⟨Cond.after_iff.mpr rfl, Cond.after_iff.mpr (eq_i res_at (Term.int_eval (1)) rfl), trivial⟩ ⟨hq.1, hq.2.1, (hq.2.2.sift fun y hy => Or.inr (N y hy)).mono (by decide) (by decide)⟩⟩
theorem main_1_1 : Claimed_1_1 := comes_1 fun _ _ _ _ _ _ h hF => ⟨h.1, hF⟩
theorem main_1_2 : Claimed_1_2 := comes_1 fun _ _ _ _ _ _ h hF => ⟨h.2.1, hF⟩
end Jvm.Pilot.@@N@@
namespace Jvm.Pilot.@@N@@
open Jvm Jvm.ClassFile Sem Op Lib Jvm.Free Jvm.Stand Jvm.Pilot.@@N@@.Jvm.D
/-! MADE BY PROGRAM (witnessworld.py) out of the Statement's table words and the real class files: 10 classes; the members and pool entries that the words name. The judged class is class 1, her method 2. -/
namespace start1
open Jvm.ClassFile
def u (s : String) : CpInfo := .utf8 (stringToUtf16 s)
/-- a pool by its gaps: so many unusable entries, then the entry; so many at the end -/
def gap : Nat → List CpInfo → List CpInfo
  | 0, r => r
  | n + 1, r => .unusable :: gap n r
def poolList (es : List (Nat × CpInfo)) (last : Nat) : List CpInfo := es.foldr (fun e r => gap e.1 (e.2 :: r)) (gap last [])
def pool (es : List (Nat × CpInfo)) (last : Nat) : Array CpInfo := ⟨poolList es last⟩
def fileOf (pool : Array CpInfo) (this : Nat) (attrs : Array Attribute := #[]) (ms : Array MethodInfo := #[]) (fl : Nat := 33) (sup : Nat := 0) (ifs : Array Nat := #[]) (fds : Array FieldInfo := #[]) : ClassFile where
  minorVersion := 0
  majorVersion := 65
  constantPool := pool
  accessFlags := fl
  thisClass := this
  superClass := sup
  interfaces := ifs
  fields := fds
  methods := ms
  attributes := attrs
def plain (name : String) (sup : Option ClassId) : Class where
  name := name
  kind := .ordinary
  loader := none
  accessFlags := 33
  super := sup
  interfaces := #[]
  cf := none
  fields := #[]
  methods := #[]
  instanceTypes := #[]
  staticTypes := #[]
  resolved := #[]
  callSites := []
  init := .initialized
  statics := none
  mirror := none

def pool0 : Array CpInfo := pool [(5, u "<init>"), (0, u "()V"), (1, .class_ 10), (1, u "java/lang/Object")] 113

def k0c0 : Code := { maxStack := 0, maxLocals := 1, code := object_method_1_code, exceptionTable := #[], attributes := #[] }
def k0m0 : Method := { name := "<init>", desc := "()V", sig := { parameters := [], returnType := none }, accessFlags := 1, code := some k0c0 }
/-- java/lang/Object -/
def k0 : Class := { plain "java/lang/Object" none with
  accessFlags := 33
  interfaces := #[]
  cf := some (fileOf pool0 8 #[] #[{ accessFlags := 1, nameIndex := 5, descriptorIndex := 6, attributes := #[] }] 33 0 #[] #[])
  fields := #[]
  methods := #[k0m0]
  instanceTypes := #[]
  staticTypes := #[]
  resolved := Array.replicate 124 none
  statics := none }

def pool1 : Array CpInfo := pool [(2, .class_ 4), (1, u "java/lang/Object"), (0, u "<init>"), (0, u "()V"), (0, .integer 2147483647), (0, .methodref 9 10), (0, .class_ 11), (0, .nameAndType 12 13), (0, u "com/example/torniquete/torniquete/core/DerReaderHasNextPinLaw"), (0, u "tag"), (0, u "(I)I"), (0, .class_ 15), (0, u "com/example/torniquete/torniquete/core/DerReader"), (0, .methodref 14 17), (0, .nameAndType 5 18), (0, u "([B)V"), (0, .methodref 14 20), (0, .nameAndType 21 22), (0, u "hasNext"), (0, u "()Z"), (0, .methodref 14 24), (0, .nameAndType 25 26), (0, u "next"), (0, u "()Lcom/example/torniquete/torniquete/core/DerReader$Element;"), (3, u "law"), (0, u "(IIIJ)Z")] 8

def k1m0 : Method := { name := "<init>", desc := "()V", sig := { parameters := [], returnType := none }, accessFlags := 1, code := none }
def k1c1 : Code := { maxStack := 2, maxLocals := 2, code := method_2_code, exceptionTable := #[], attributes := #[] }
def k1m1 : Method := { name := "tag", desc := "(I)I", sig := { parameters := [.int], returnType := some .int }, accessFlags := 10, code := some k1c1 }
def k1c2 : Code := { maxStack := 5, maxLocals := 16, code := code, exceptionTable := #[], attributes := #[] }
def k1m2 : Method := { name := "law", desc := "(IIIJ)Z", sig := { parameters := [.int, .int, .int, .long], returnType := some .boolean }, accessFlags := 9, code := some k1c2 }
/-- com/example/torniquete/torniquete/core/DerReaderHasNextPinLaw -/
def k1 : Class := { plain "com/example/torniquete/torniquete/core/DerReaderHasNextPinLaw" (some 0) with
  accessFlags := 49
  interfaces := #[]
  cf := some (fileOf pool1 9 #[] #[{ accessFlags := 1, nameIndex := 5, descriptorIndex := 6, attributes := #[] }, { accessFlags := 10, nameIndex := 12, descriptorIndex := 13, attributes := #[] }, { accessFlags := 9, nameIndex := 30, descriptorIndex := 31, attributes := #[] }] 49 2 #[] #[])
  fields := #[]
  methods := #[k1m0, k1m1, k1m2]
  instanceTypes := #[]
  staticTypes := #[]
  resolved := Array.replicate 40 none
  statics := none }

def pool2 : Array CpInfo := pool [(1, .methodref 2 3), (0, .class_ 4), (0, .nameAndType 5 6), (0, u "com/example/torniquete/torniquete/core/DerReader"), (0, u "<init>"), (0, u "([BII)V"), (0, .methodref 8 9), (0, .class_ 10), (0, .nameAndType 5 11), (0, u "java/lang/Object"), (0, u "()V"), (0, .fieldref 2 13), (0, .nameAndType 14 15), (0, u "bytes"), (0, u "[B"), (0, .fieldref 2 17), (0, .nameAndType 18 19), (0, u "position"), (0, u "I"), (0, .fieldref 2 21), (0, .nameAndType 22 19), (0, u "end"), (6, u "([B)V"), (2, u "next"), (1, .methodref 2 35), (0, .nameAndType 36 37), (0, u "hasNext"), (0, u "()Z"), (24, .class_ 64), (1, u "com/example/torniquete/torniquete/core/DerReader$Element"), (51, u "()Lcom/example/torniquete/torniquete/core/DerReader$Element;"), (3, u "()I"), (16, .methodref 2 138), (0, .nameAndType 139 120), (0, u "length"), (2, .methodref 62 143), (0, .nameAndType 5 144), (0, u "([BIIII)V"), (8, .long 2147483647), (17, u "DER_TIME"), (0, u "Ljava/util/regex/Pattern;"), (20, u "TIME_TO_SECONDS"), (0, u "Ljava/time/format/DateTimeFormatter;"), (0, u "BOOLEAN"), (2, u "INTEGER"), (1, u "BIT_STRING"), (1, u "OCTET_STRING"), (1, u "OBJECT_IDENTIFIER"), (1, u "ENUMERATED"), (1, u "GENERALIZED_TIME"), (1, u "SEQUENCE"), (1, u "SET"), (1, u "CONSTRUCTED"), (1, u "CONTINUED")] 37

def k2c0 : Code := { maxStack := 4, maxLocals := 2, code := prog_17_method_1_code, exceptionTable := #[], attributes := #[] }
def k2m0 : Method := { name := "<init>", desc := "([B)V", sig := { parameters := [(.array .byte)], returnType := none }, accessFlags := 0, code := some k2c0 }
def k2c1 : Code := { maxStack := 2, maxLocals := 4, code := prog_17_method_2_code, exceptionTable := #[], attributes := #[] }
def k2m1 : Method := { name := "<init>", desc := "([BII)V", sig := { parameters := [(.array .byte), .int, .int], returnType := none }, accessFlags := 2, code := some k2c1 }
def k2c2 : Code := { maxStack := 2, maxLocals := 1, code := prog_17_method_8_code, exceptionTable := #[], attributes := #[] }
def k2m2 : Method := { name := "hasNext", desc := "()Z", sig := { parameters := [], returnType := some .boolean }, accessFlags := 0, code := some k2c2 }
def k2c3 : Code := { maxStack := 8, maxLocals := 5, code := prog_17_method_11_code, exceptionTable := #[], attributes := #[] }
def k2m3 : Method := { name := "next", desc := "()Lcom/example/torniquete/torniquete/core/DerReader$Element;", sig := { parameters := [], returnType := some (.object "com/example/torniquete/torniquete/core/DerReader$Element") }, accessFlags := 0, code := some k2c3 }
def k2c4 : Code := { maxStack := 7, maxLocals := 6, code := prog_17_method_12_code, exceptionTable := #[], attributes := #[] }
def k2m4 : Method := { name := "length", desc := "()I", sig := { parameters := [], returnType := some .int }, accessFlags := 2, code := some k2c4 }
/-- com/example/torniquete/torniquete/core/DerReader -/
def k2 : Class := { plain "com/example/torniquete/torniquete/core/DerReader" (some 0) with
  accessFlags := 48
  interfaces := #[]
  cf := some (fileOf pool2 2 #[.nestMembers #[62]] #[{ accessFlags := 0, nameIndex := 5, descriptorIndex := 29, attributes := #[] }, { accessFlags := 2, nameIndex := 5, descriptorIndex := 6, attributes := #[] }, { accessFlags := 0, nameIndex := 36, descriptorIndex := 37, attributes := #[] }, { accessFlags := 0, nameIndex := 32, descriptorIndex := 116, attributes := #[] }, { accessFlags := 2, nameIndex := 139, descriptorIndex := 120, attributes := #[] }] 48 8 #[] #[{ accessFlags := 24, nameIndex := 195, descriptorIndex := 19, attributes := #[] }, { accessFlags := 24, nameIndex := 198, descriptorIndex := 19, attributes := #[] }, { accessFlags := 24, nameIndex := 200, descriptorIndex := 19, attributes := #[] }, { accessFlags := 24, nameIndex := 202, descriptorIndex := 19, attributes := #[] }, { accessFlags := 24, nameIndex := 204, descriptorIndex := 19, attributes := #[] }, { accessFlags := 24, nameIndex := 206, descriptorIndex := 19, attributes := #[] }, { accessFlags := 24, nameIndex := 208, descriptorIndex := 19, attributes := #[] }, { accessFlags := 24, nameIndex := 210, descriptorIndex := 19, attributes := #[] }, { accessFlags := 24, nameIndex := 212, descriptorIndex := 19, attributes := #[] }, { accessFlags := 26, nameIndex := 214, descriptorIndex := 19, attributes := #[] }, { accessFlags := 26, nameIndex := 216, descriptorIndex := 19, attributes := #[] }, { accessFlags := 26, nameIndex := 171, descriptorIndex := 172, attributes := #[] }, { accessFlags := 26, nameIndex := 193, descriptorIndex := 194, attributes := #[] }, { accessFlags := 18, nameIndex := 14, descriptorIndex := 15, attributes := #[] }, { accessFlags := 18, nameIndex := 22, descriptorIndex := 19, attributes := #[] }, { accessFlags := 2, nameIndex := 18, descriptorIndex := 19, attributes := #[] }])
  fields := #[{ name := "BOOLEAN", type := .int, accessFlags := 24, slot := 0, constantValue := 0 }, { name := "INTEGER", type := .int, accessFlags := 24, slot := 1, constantValue := 0 }, { name := "BIT_STRING", type := .int, accessFlags := 24, slot := 2, constantValue := 0 }, { name := "OCTET_STRING", type := .int, accessFlags := 24, slot := 3, constantValue := 0 }, { name := "OBJECT_IDENTIFIER", type := .int, accessFlags := 24, slot := 4, constantValue := 0 }, { name := "ENUMERATED", type := .int, accessFlags := 24, slot := 5, constantValue := 0 }, { name := "GENERALIZED_TIME", type := .int, accessFlags := 24, slot := 6, constantValue := 0 }, { name := "SEQUENCE", type := .int, accessFlags := 24, slot := 7, constantValue := 0 }, { name := "SET", type := .int, accessFlags := 24, slot := 8, constantValue := 0 }, { name := "CONSTRUCTED", type := .int, accessFlags := 26, slot := 9, constantValue := 0 }, { name := "CONTINUED", type := .int, accessFlags := 26, slot := 10, constantValue := 0 }, { name := "DER_TIME", type := (.object "java/util/regex/Pattern"), accessFlags := 26, slot := 11, constantValue := 0 }, { name := "TIME_TO_SECONDS", type := (.object "java/time/format/DateTimeFormatter"), accessFlags := 26, slot := 12, constantValue := 0 }, { name := "bytes", type := (.array .byte), accessFlags := 18, slot := 0, constantValue := 0 }, { name := "end", type := .int, accessFlags := 18, slot := 1, constantValue := 0 }, { name := "position", type := .int, accessFlags := 2, slot := 2, constantValue := 0 }]
  methods := #[k2m0, k2m1, k2m2, k2m3, k2m4]
  instanceTypes := #[(.array .byte), .int, .int]
  staticTypes := #[.int, .int, .int, .int, .int, .int, .int, .int, .int, .int, .int, (.object "java/util/regex/Pattern"), (.object "java/time/format/DateTimeFormatter")]
  resolved := ((Array.replicate 254 none).setIfInBounds 142 (some (.method ⟨3, 0⟩))).setIfInBounds 62 (some (.cls 3))
  statics := none }

def pool3 : Array CpInfo := pool [(1, .class_ 2), (0, u "com/example/torniquete/torniquete/core/DerReader"), (0, .methodref 4 5), (0, .class_ 6), (0, .nameAndType 7 8), (0, u "java/lang/Object"), (0, u "<init>"), (0, u "()V"), (0, .fieldref 10 11), (0, .class_ 12), (0, .nameAndType 13 14), (0, u "com/example/torniquete/torniquete/core/DerReader$Element"), (0, u "bytes"), (0, u "[B"), (0, .fieldref 10 16), (0, .nameAndType 17 18), (0, u "tag"), (0, u "I"), (0, .fieldref 10 20), (0, .nameAndType 21 18), (0, u "start"), (0, .fieldref 10 23), (0, .nameAndType 24 18), (0, u "contentsStart"), (0, .fieldref 10 26), (0, .nameAndType 27 18), (0, u "end"), (191, u "([BIIII)V")] 38

def k3c0 : Code := { maxStack := 2, maxLocals := 6, code := prog_18_method_1_code, exceptionTable := #[], attributes := #[] }
def k3m0 : Method := { name := "<init>", desc := "([BIIII)V", sig := { parameters := [(.array .byte), .int, .int, .int, .int], returnType := none }, accessFlags := 2, code := some k3c0 }
/-- com/example/torniquete/torniquete/core/DerReader$Element -/
def k3 : Class := { plain "com/example/torniquete/torniquete/core/DerReader$Element" (some 0) with
  accessFlags := 48
  interfaces := #[]
  cf := some (fileOf pool3 10 #[.nestHost 1] #[{ accessFlags := 2, nameIndex := 7, descriptorIndex := 219, attributes := #[] }] 48 4 #[] #[{ accessFlags := 18, nameIndex := 13, descriptorIndex := 14, attributes := #[] }, { accessFlags := 18, nameIndex := 17, descriptorIndex := 18, attributes := #[] }, { accessFlags := 18, nameIndex := 21, descriptorIndex := 18, attributes := #[] }, { accessFlags := 18, nameIndex := 24, descriptorIndex := 18, attributes := #[] }, { accessFlags := 18, nameIndex := 27, descriptorIndex := 18, attributes := #[] }])
  fields := #[{ name := "bytes", type := (.array .byte), accessFlags := 18, slot := 0, constantValue := 0 }, { name := "tag", type := .int, accessFlags := 18, slot := 1, constantValue := 0 }, { name := "start", type := .int, accessFlags := 18, slot := 2, constantValue := 0 }, { name := "contentsStart", type := .int, accessFlags := 18, slot := 3, constantValue := 0 }, { name := "end", type := .int, accessFlags := 18, slot := 4, constantValue := 0 }]
  methods := #[k3m0]
  instanceTypes := #[(.array .byte), .int, .int, .int, .int]
  staticTypes := #[]
  resolved := Array.replicate 258 none
  statics := none }

def pool4 : Array CpInfo := pool [(1, u "java/lang/Cloneable"), (0, .class_ 1), (0, u "java/lang/Object"), (0, .class_ 3)] 3

/-- java/lang/Cloneable -/
def k4 : Class := { plain "java/lang/Cloneable" (some 0) with
  accessFlags := 1537
  interfaces := #[]
  cf := some (fileOf pool4 2 #[] #[] 1537 4 #[] #[])
  fields := #[]
  methods := #[]
  instanceTypes := #[]
  staticTypes := #[]
  resolved := Array.replicate 8 none
  statics := none }

def pool5 : Array CpInfo := pool [(1, u "java/io/Serializable"), (0, .class_ 1), (0, u "java/lang/Object"), (0, .class_ 3)] 3

/-- java/io/Serializable -/
def k5 : Class := { plain "java/io/Serializable" (some 0) with
  accessFlags := 1537
  interfaces := #[]
  cf := some (fileOf pool5 2 #[] #[] 1537 4 #[] #[])
  fields := #[]
  methods := #[]
  instanceTypes := #[]
  staticTypes := #[]
  resolved := Array.replicate 8 none
  statics := none }

/-- the primitive byte -/
def k6 : Class := { plain "byte" none with kind := .primitive 'B', accessFlags := 0x411 }
/-- [B -/
def k7 : Class := { plain "[B" (some 0) with kind := .array 6 .byte, interfaces := #[4, 5], accessFlags := 1041 }

/-- the primitive int -/
def k8 : Class := { plain "int" none with kind := .primitive 'I', accessFlags := 0x411 }
/-- [I -/
def k9 : Class := { plain "[I" (some 0) with kind := .array 8 .int, interfaces := #[4, 5], accessFlags := 1041 }

def heap : Heap := #[]
def classes : Array Class := #[k0, k1, k2, k3, k4, k5, k6, k7, k8, k9]
def interned : List (Array UInt16 × Addr) := []
def slotsUsed : Nat := 0
def theMethod : MethodId := ⟨1, 2⟩
def args0 : Array Value := #[.int 1, .int 1, .int 770, .long 5]
def aboutOver (below : List Frame) : State where
  vm := { classes := classes, interned := interned.toArray }
  heap := heap
  slotsUsed := slotsUsed
  threads := #[{ frames := .invoking theMethod args0 :: below }]
def below0 : List Frame := [.native { method := ⟨0, 0⟩, args := #[] }]
def about1 : State := aboutOver below0
def p0 : Program := .bare "" "" ""
def e0 : Env := launch0.env 0 0 0
theorem w_frames : about1.frames = Frame.invoking theMethod args0 :: below0 := rfl
set_option maxRecDepth 65536 in
theorem w_args : argsFit about1.vm theMethod args0 = true := by decide +kernel
set_option maxRecDepth 65536 in
theorem w_heap : heapFits about1 = true := by decide +kernel
set_option maxRecDepth 65536 in
theorem w_runnable : about1.curStatus? = some .runnable := by decide +kernel
set_option maxRecDepth 65536 in
theorem w_alone : about1.alone = true := by decide +kernel
set_option maxRecDepth 65536 in
theorem w_named : about1.methodNamed? x = some theMethod := by decide +kernel
set_option maxRecDepth 65536 in
theorem w_hears : about1.hears theMethod below0 = true := by decide +kernel
set_option maxRecDepth 65536 in
theorem w_ripe : about1.ripe theMethod args0 below0 = true := by decide +kernel
theorem w_running : about1.status = .running := rfl
set_option maxRecDepth 65536 in
theorem w_room : about1.hasRoom e0.platform room_1 = true :=
  launch0.hasRoom_least _ room_1 (by decide +kernel) (by decide +kernel) (by decide +kernel) (by decide +kernel) (by decide +kernel) (by decide +kernel)
theorem allAtoms_all (ts : List Jvm.Cond) (a : Array Jvm.Value) (st : Jvm.State) : (allAtoms ts).before a st = ts.all (fun c => c.before a st) := by
  induction ts with
  | nil => rfl
  | cons c t ih =>
    show (Jvm.Cond.and c (allAtoms t)).before a st = _
    rw [Jvm.Cond.before_and, ih, List.all_cons]
def words1 : List Jvm.Cond := Jvm.Cond.code x code maxLocals ret :: tables_1
/-- a 'code' word, met by the world's own term for the bytes: nothing is compared byte by byte -/
theorem code_word {y : MethodName} {bytes : ByteArray} {mx : Nat} {rt : Option FieldType} {a : Array Value} {s : State} {m : MethodId} {meth : Method} {c : Code} (h1 : s.methodNamed? y = some m) (h2 : s.vm.method? m = some meth) (h3 : meth.code = some c) (h4 : c.code = bytes)
    (h5 : (c.maxLocals == mx && c.exceptionTable.isEmpty && decide (c.maxStack ≤ mostOperands) && decide (meth.sig.returnType = rt) && !meth.locks && decide (parseMethodDescriptor y.desc = some meth.sig)) = true) : (Jvm.Cond.code y bytes mx rt).before a s = true := by
  simp only [Bool.and_eq_true, beq_iff_eq, Bool.not_eq_true', decide_eq_true_eq] at h5
  obtain ⟨⟨⟨⟨⟨g1, g2⟩, g3⟩, g4⟩, g5⟩, g6⟩ := h5
  simp [Cond.before, Cond.holds, Cond.value, h1, h2, h3, h4, g1, g2, g3, g4, g5, g6]
def isCode : Jvm.Cond → Bool
  | .code _ _ _ _ => true
  | _ => false
theorem all_split {L : List Jvm.Cond} {P : Jvm.Cond → Bool} (h1 : L.all (fun c => isCode c || P c) = true) (h2 : ∀ c ∈ L.filter isCode, P c = true) : L.all P = true := by
  refine List.all_eq_true.mpr fun c hc => ?_
  have h := List.all_eq_true.mp h1 c hc
  rcases Bool.eq_false_or_eq_true (isCode c) with hi | hi
  · exact h2 c (List.mem_filter.mpr ⟨hc, hi⟩)
  · simpa [hi] using h
set_option maxRecDepth 65536 in
theorem w_c0 : (Jvm.Cond.code x code maxLocals ret).before args0 about1 = true := code_word (m := ⟨1, 2⟩) (meth := k1m2) (c := k1c2) (by decide +kernel) rfl rfl rfl (by decide +kernel)
set_option maxRecDepth 65536 in
theorem w_c1 : (Jvm.Cond.code ({ cls := "com/example/torniquete/torniquete/core/DerReaderHasNextPinLaw", name := "tag", desc := "(I)I" } : Jvm.MethodName) method_2_code (2 : Nat) (Option.some Jvm.ClassFile.FieldType.int)).before args0 about1 = true := code_word (m := ⟨1, 1⟩) (meth := k1m1) (c := k1c1) (by decide +kernel) rfl rfl rfl (by decide +kernel)
set_option maxRecDepth 65536 in
theorem w_c2 : (Jvm.Cond.code ({ cls := "com/example/torniquete/torniquete/core/DerReader", name := "<init>", desc := "([B)V" } : Jvm.MethodName) prog_17_method_1_code (2 : Nat) (Option.none : Option Jvm.ClassFile.FieldType)).before args0 about1 = true := code_word (m := ⟨2, 0⟩) (meth := k2m0) (c := k2c0) (by decide +kernel) rfl rfl rfl (by decide +kernel)
set_option maxRecDepth 65536 in
theorem w_c3 : (Jvm.Cond.code ({ cls := "com/example/torniquete/torniquete/core/DerReader", name := "<init>", desc := "([BII)V" } : Jvm.MethodName) prog_17_method_2_code (4 : Nat) (Option.none : Option Jvm.ClassFile.FieldType)).before args0 about1 = true := code_word (m := ⟨2, 1⟩) (meth := k2m1) (c := k2c1) (by decide +kernel) rfl rfl rfl (by decide +kernel)
set_option maxRecDepth 65536 in
theorem w_c4 : (Jvm.Cond.code ({ cls := "java/lang/Object", name := "<init>", desc := "()V" } : Jvm.MethodName) object_method_1_code (1 : Nat) (Option.none : Option Jvm.ClassFile.FieldType)).before args0 about1 = true := code_word (m := ⟨0, 0⟩) (meth := k0m0) (c := k0c0) (by decide +kernel) rfl rfl rfl (by decide +kernel)
set_option maxRecDepth 65536 in
theorem w_c5 : (Jvm.Cond.code ({ cls := "com/example/torniquete/torniquete/core/DerReader", name := "hasNext", desc := "()Z" } : Jvm.MethodName) prog_17_method_8_code (1 : Nat) (Option.some Jvm.ClassFile.FieldType.boolean)).before args0 about1 = true := code_word (m := ⟨2, 2⟩) (meth := k2m2) (c := k2c2) (by decide +kernel) rfl rfl rfl (by decide +kernel)
set_option maxRecDepth 65536 in
theorem w_c6 : (Jvm.Cond.code ({ cls := "com/example/torniquete/torniquete/core/DerReader", name := "next", desc := "()Lcom/example/torniquete/torniquete/core/DerReader$Element;" } : Jvm.MethodName) prog_17_method_11_code (5 : Nat) (Option.some (Jvm.ClassFile.FieldType.object "com/example/torniquete/torniquete/core/DerReader$Element"))).before args0 about1 = true := code_word (m := ⟨2, 3⟩) (meth := k2m3) (c := k2c3) (by decide +kernel) rfl rfl rfl (by decide +kernel)
set_option maxRecDepth 65536 in
theorem w_c7 : (Jvm.Cond.code ({ cls := "com/example/torniquete/torniquete/core/DerReader", name := "length", desc := "()I" } : Jvm.MethodName) prog_17_method_12_code (6 : Nat) (Option.some Jvm.ClassFile.FieldType.int)).before args0 about1 = true := code_word (m := ⟨2, 4⟩) (meth := k2m4) (c := k2c4) (by decide +kernel) rfl rfl rfl (by decide +kernel)
set_option maxRecDepth 65536 in
theorem w_c8 : (Jvm.Cond.code ({ cls := "com/example/torniquete/torniquete/core/DerReader$Element", name := "<init>", desc := "([BIIII)V" } : Jvm.MethodName) prog_18_method_1_code (6 : Nat) (Option.none : Option Jvm.ClassFile.FieldType)).before args0 about1 = true := code_word (m := ⟨3, 0⟩) (meth := k3m0) (c := k3c0) (by decide +kernel) rfl rfl rfl (by decide +kernel)
def codes1 : List Jvm.Cond := [Jvm.Cond.code x code maxLocals ret, Jvm.Cond.code ({ cls := "com/example/torniquete/torniquete/core/DerReaderHasNextPinLaw", name := "tag", desc := "(I)I" } : Jvm.MethodName) method_2_code (2 : Nat) (Option.some Jvm.ClassFile.FieldType.int), Jvm.Cond.code ({ cls := "com/example/torniquete/torniquete/core/DerReader", name := "<init>", desc := "([B)V" } : Jvm.MethodName) prog_17_method_1_code (2 : Nat) (Option.none : Option Jvm.ClassFile.FieldType), Jvm.Cond.code ({ cls := "com/example/torniquete/torniquete/core/DerReader", name := "<init>", desc := "([BII)V" } : Jvm.MethodName) prog_17_method_2_code (4 : Nat) (Option.none : Option Jvm.ClassFile.FieldType), Jvm.Cond.code ({ cls := "java/lang/Object", name := "<init>", desc := "()V" } : Jvm.MethodName) object_method_1_code (1 : Nat) (Option.none : Option Jvm.ClassFile.FieldType), Jvm.Cond.code ({ cls := "com/example/torniquete/torniquete/core/DerReader", name := "hasNext", desc := "()Z" } : Jvm.MethodName) prog_17_method_8_code (1 : Nat) (Option.some Jvm.ClassFile.FieldType.boolean), Jvm.Cond.code ({ cls := "com/example/torniquete/torniquete/core/DerReader", name := "next", desc := "()Lcom/example/torniquete/torniquete/core/DerReader$Element;" } : Jvm.MethodName) prog_17_method_11_code (5 : Nat) (Option.some (Jvm.ClassFile.FieldType.object "com/example/torniquete/torniquete/core/DerReader$Element")), Jvm.Cond.code ({ cls := "com/example/torniquete/torniquete/core/DerReader", name := "length", desc := "()I" } : Jvm.MethodName) prog_17_method_12_code (6 : Nat) (Option.some Jvm.ClassFile.FieldType.int), Jvm.Cond.code ({ cls := "com/example/torniquete/torniquete/core/DerReader$Element", name := "<init>", desc := "([BIIII)V" } : Jvm.MethodName) prog_18_method_1_code (6 : Nat) (Option.none : Option Jvm.ClassFile.FieldType)]
set_option maxRecDepth 65536 in
theorem codes_eq : words1.filter isCode = codes1 := rfl
theorem w_codes : ∀ c ∈ words1.filter isCode, c.before args0 about1 = true := by
  rw [codes_eq]
  intro c hc
  simp only [codes1, List.mem_cons, List.not_mem_nil, or_false] at hc
  rcases hc with rfl | rfl | rfl | rfl | rfl | rfl | rfl | rfl | rfl
  · exact w_c0
  · exact w_c1
  · exact w_c2
  · exact w_c3
  · exact w_c4
  · exact w_c5
  · exact w_c6
  · exact w_c7
  · exact w_c8
set_option maxRecDepth 65536 in
theorem w_t1 : (words1.take 24).all (fun c => isCode c || c.before args0 about1) = true := by decide +kernel
set_option maxRecDepth 65536 in
theorem w_t2 : ((words1.drop 24).take 24).all (fun c => isCode c || c.before args0 about1) = true := by decide +kernel
set_option maxRecDepth 65536 in
theorem w_t3 : ((words1.drop 24).drop 24).all (fun c => isCode c || c.before args0 about1) = true := by decide +kernel
theorem w_tables : (allAtoms (Jvm.Cond.code x code maxLocals ret :: tables_1)).before args0 about1 = true := by
  rw [allAtoms_all]
  show words1.all (fun c => c.before args0 about1) = true
  refine all_split ?_ w_codes
  rw [← List.take_append_drop 24 words1, List.all_append, w_t1, ← List.take_append_drop 24 (words1.drop 24), List.all_append, w_t2, w_t3]
  rfl
set_option maxRecDepth 65536 in
theorem w_case : (Jvm.Cond.and given_1 narrow_1).before args0 about1 = true := by decide +kernel
theorem w_applies : (headSpec (Jvm.Cond.code x code maxLocals ret :: tables_1) room_1).applies x e0.platform about1 = true :=
  (Spec.applies_iff w_frames).mpr ⟨w_running, w_runnable, w_alone, w_named, w_hears, w_ripe, w_room, w_tables⟩
theorem atStart : AtStart classFile x code maxLocals ret World_1 tables_1 room_1 Calls_1 rest_1 Pre_1 launch0 p0 e0 about1 theMethod args0 below0 :=
  ⟨lists_1, trivial, launch0.admits_env _ _ _, launch0.least_env, fairChoices_fair.cas, fairChoices_fair.clock, w_frames, w_args, w_heap, w_applies, trivial, trivial, w_case⟩
end start1
theorem witness_1 : WitnessClaimed_1 := ⟨start1.p0, start1.e0, start1.about1, start1.theMethod, start1.args0, start1.below0, start1.atStart⟩
end Jvm.Pilot.@@N@@
