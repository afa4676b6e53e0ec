import JvmDerived
import JvmDerived.Pilot.@@N@@Statement
import JvmDerived.Pilot.@@N@@Code
set_option linter.unusedVariables false
set_option linter.unusedSimpArgs false
namespace Jvm.RoadKit
open Sem ClassFile Op Lib Jvm.Stand Jvm.Free Jvm.LawKit
section OwnGo
variable {p : Program} {l : Launch} {e : Env} {R : Room} {s : State} {m : MethodId} {args : Array Value} {below : List Frame} {meth : Method} {c : Code} {T U V : State} {locs : List Loc} {cells slots : Nat} {Q : Option Value → Heap → List Loc → Prop} {k n : Nat}
/-- from the state U the run ends within the frame, by a return of which Q holds -/
def Goes (p : Program) (e : Env) (below : List Frame) (s : State) (Q : Option Value → Heap → List Loc → Prop) (k n : Nat) (U : State) : Prop :=
  ∃ s₂ o, Steps p.tables e below U s₂ ∧ s₂.status = .running ∧ Ended s₂ below o ∧ ∃ v L, o = .returned v ∧ Q v s₂.heap L ∧ FrameEnd s o s₂ L k n
theorem Goes.st (st : ∀ t, Steps p.tables e below V t → Steps p.tables e below U t) (h : Goes p e below s Q k n V) : Goes p e below s Q k n U := by
  obtain ⟨s₂, o, h1, h2⟩ := h
  exact ⟨s₂, o, st _ h1, h2⟩
theorem Goes.tr (st : Steps p.tables e below U V) (h : Goes p e below s Q k n V) : Goes p e below s Q k n U := Goes.st (fun _ q => st.trans q) h
theorem Goes.cast {g g' : JFrame} (q : g = g') (h : Goes p e below s Q k n (T.setTop g')) : Goes p e below s Q k n (T.setTop g) := q ▸ h
theorem Goes.retN (X : Stand p l e R s m args below meth c T locs cells slots) (hx : p.tables.exec = Jvm.exec) {pc : Nat} {Ls : Array Slot} {z : Int32} {t : FieldType} {rest : List Value} (hret : meth.sig.returnType = some t) (hlk : meth.locks = false) (ht : t = .boolean ∨ t = .byte ∨ t = .char ∨ t = .short)
    (hd : decode c.code pc = .ok (.ireturn, 1)) (hc : cells ≤ k) (hs : slots ≤ n) (hq : Q (some (.int (nar t z))) T.heap locs) : Goes p e below s Q k n (T.setTop (mkF m pc Ls (.int z :: rest))) := by
  obtain ⟨fs, hr, hrun, hended, hW, hsame⟩ := X.leave (v := some (.int (nar t z))) (fun h => by rw [hret] at h; cases h) hlk
  exact ⟨_, _, Jvm.RoadKit.retN X hx hret ht hd hr, hrun, hended, _, _, rfl, hq, ⟨_, rfl⟩, hW, hsame.mono hc hs⟩
theorem Goes.retO (X : Stand p l e R s m args below meth c T locs cells slots) (hx : p.tables.exec = Jvm.exec) {pc : Nat} {Ls : Array Slot} {w : Value} {t : FieldType} {i : Instr} {rest : List Value} (hret : meth.sig.returnType = some t) (hlk : meth.locks = false) (hn : narrow t w = w)
    (hi : (i = .ireturn ∧ (t = .int ∨ t = .boolean ∨ t = .byte ∨ t = .char ∨ t = .short) ∧ ∃ z, w = .int z) ∨ (i = .lreturn ∧ t = .long ∧ ∃ z, w = .long z) ∨ (i = .dreturn ∧ t = .double ∧ ∃ z, w = .double z) ∨ (i = .freturn ∧ t = .float ∧ ∃ z, w = .float z) ∨ (i = .areturn ∧ t.isReference = true ∧ w.isRef = true))
    (hd : decode c.code pc = .ok (i, 1)) (hc : cells ≤ k) (hs : slots ≤ n) (hq : Q (some w) T.heap locs) : Goes p e below s Q k n (T.setTop (mkF m pc Ls (w :: rest))) := by
  obtain ⟨fs, hr, hrun, hended, hW, hsame⟩ := X.leave (v := some w) (fun h => by rw [hret] at h; cases h) hlk
  exact ⟨_, _, Jvm.RoadKit.retOut X hx hret hn hi hd hr, hrun, hended, _, _, rfl, hq, ⟨_, rfl⟩, hW, hsame.mono hc hs⟩
theorem Goes.ret0 (X : Stand p l e R s m args below meth c T locs cells slots) (hx : p.tables.exec = Jvm.exec) {pc : Nat} {Ls : Array Slot} (hret : meth.sig.returnType = none) (hlk : meth.locks = false)
    (hd : decode c.code pc = .ok (.return_, 1)) (hc : cells ≤ k) (hs : slots ≤ n) (hq : Q none T.heap locs) : Goes p e below s Q k n (T.setTop (mkF m pc Ls [])) := by
  obtain ⟨fs, hr, hrun, hended, hW, hsame⟩ := X.leave (v := none) (fun _ => rfl) hlk
  exact ⟨_, _, X.returnOut hx hret hd hr, hrun, hended, _, _, rfl, hq, ⟨_, rfl⟩, hW, hsame.mono hc hs⟩
end OwnGo
end Jvm.RoadKit
namespace Jvm.Pilot.@@N@@
open Jvm Jvm.ClassFile Sem Op Lib Jvm.Free Jvm.Stand Jvm.LawKit Jvm.RoadKit Bundle Jvm.Pilot.@@N@@.Jvm.D
theorem own_selp {Z s : State} {a0 args : Array Value} {y : MethodName} {n : Nat} (hZ : Z.Warmed39 s.vm) (wi : (Jvm.Cond.instantiable y.cls n).before a0 Z = true) (wm : (Jvm.Cond.instanceMethod y).before a0 Z = true) (wp : (Jvm.Cond.privateMethod y).before a0 Z = true) (hy : y.cls ≠ "java/lang/invoke/MethodHandle" ∧ y.cls ≠ "java/lang/invoke/VarHandle") : (Jvm.Cond.selects y.cls y y).before args s = true := by
  obtain ⟨c, k, h1, h2, h3, h4, -⟩ := Cond.instantiable_spec (mvT hZ wi (args := args))
  have h5 : k.isInterface = false := by cases hi : k.isInterface <;> simp [hi] at h4 ⊢
  exact selects_self_of_private h1 h2 h5 (Cond.privateMethod_at (mvP hZ wp (args := args))) (mvT hZ wm) hy
def own_bI (b : Bool) : Int32 := bif b then 1 else 0
theorem own_cat {v : Value} (h : v.isRef = true) : v.category = 1 := by cases v <;> simp [Value.isRef, Value.category] at h ⊢
theorem own_feq {args : Array Value} {s : State} {t u : Term} {C n d : String} {a w : Addr} (h : (Jvm.Cond.eq (.field t C n d) u).value args s none s [] = some true) (ht : t.eval args s none [] s = some (.ref a)) (hu : u.eval args s none [] s = some (.ref w)) : Fld s s.heap a C n d (.ref w) := by
  obtain ⟨x, y, e1, e2, k1, k2⟩ := cmp_v (Or.inl h)
  cases hu.symm.trans e2
  have hx : x.isRef = true := k2.2
  have q := gotT (eq_R e1 hu hx rfl) h
  subst q
  rw [fld_at ht] at e1
  exact Fld.start e1
theorem own_oeq {args : Array Value} {s : State} {t : Term} {C n d : String} {a : Addr} {k : Int32} (h : (Jvm.Cond.eq (.field t C n d) (.int k)).value args s none s [] = some true) (ht : t.eval args s none [] s = some (.ref a)) : Fld s s.heap a C n d (.int k) := by
  obtain ⟨x, y, e1, e2, k1, k2⟩ := cmp_v (Or.inl h)
  cases (Term.int_eval k).symm.trans e2
  obtain ⟨z, rfl⟩ := k2
  have q : z = k := by simpa [Jvm.Cond.value, e1, e2] using h
  subst q
  rw [fld_at ht] at e1
  exact Fld.start e1
def own_los : List Int32 := [0, 4, 1, 0, 1, 1, 0, 0, 0, 0, 0, 0, 0, 0, 2, 1, 0, 1, 0, 0, 0, 0, 0, 1, 1, 1, 1]
def own_his : List Int32 := [7, 11, 2, 10, 7, 7, 2, 5, 3, 1, 3, 6, 5, 4, 7, 6, 5, 4, 2, 1, 0, 0, 1, 1, 1, 2, 2]
def own_QS (Z : State) (b : Bool) (h0 : Heap) (n0 : Nat) (v : Option Value) (h : Heap) (L : List Loc) : Prop := v = some (.int (own_bI b)) ∧ Fr n0 L ∧ h = h0
def own_Q0 (Z : State) (h0 : Heap) (n0 : Nat) (v : Option Value) (h : Heap) (L : List Loc) : Prop := v = some (.int 1) ∧ Fr n0 L
abbrev own_ok (v l h : Int32) : Bool := decide (¬ v < l ∧ ¬ h < v)
theorem own_mapR (as : List Addr) (n : Nat) (h : n < as.length) : (as.map Value.ref).getD n .null = .ref (as.getD n 0) := by
  simp [List.getD, h]
theorem own_mapI (xs : List Int32) (n : Nat) : (xs.map Value.int).getD n (.int 0) = .int (xs.getD n 0) := by
  simp only [List.getD, List.getElem?_map]
  cases xs[n]? <;> rfl
theorem own_lohi (n : Nat) (h : n < 27) : 0 ≤ (own_los.getD n 0).toInt ∧ (own_los.getD n 0).toInt ≤ (own_his.getD n 0).toInt ∧ (own_his.getD n 0).toInt ≤ 11 := by
  have : ∀ n : Fin 27, 0 ≤ (own_los.getD n.1 0).toInt ∧ (own_los.getD n.1 0).toInt ≤ (own_his.getD n.1 0).toInt ∧ (own_his.getD n.1 0).toInt ≤ 11 := by decide +kernel
  exact this ⟨n, h⟩
theorem own_lt {x y : Int32} : x < y ↔ x.toInt < y.toInt := Int32.lt_iff_toInt_lt
theorem own_i27 (x : Int32) : 0 ≤ ((x &&& 2147483647) % 27).toInt ∧ ((x &&& 2147483647) % 27).toInt < 27 := by
  have h1 := c_mask x 2147483647 31 (by decide) (by decide)
  have h2 := (c_irem (x &&& 2147483647) 27 27 rfl).1 (by omega)
  omega
theorem own_in {j z : Int32} {n : Int} (hz : z.toInt = n) (h1 : 0 ≤ j.toInt) (h2 : j.toInt < n) : ¬ j < 0 ∧ j < z := by
  rw [Int32.lt_iff_toInt_lt, Int32.lt_iff_toInt_lt]
  refine ⟨?_, by omega⟩
  show ¬ j.toInt < 0
  omega
theorem own_nat {j : Int32} (h1 : 0 ≤ j.toInt) (h2 : j.toInt < 27) : j.toNatClampNeg < 27 := by
  have := nat_of (j := j) (fun q => by rw [Int32.lt_iff_toInt_lt] at q; exact absurd q (by show ¬ j.toInt < 0; omega))
  omega
theorem own_s {x : Int32} (h1 : -32768 ≤ x.toInt) (h2 : x.toInt < 32768) : x.toInt16.toInt32.toInt = x.toInt := by
  have := c_i2s x; omega
theorem own_m1 {x : Int32} (h1 : 0 ≤ x.toInt) (h2 : x.toInt ≤ 11) : (x - 1).toInt = x.toInt - 1 := by
  have h1 := c_isub x 1; have h2 := rng32 (x - 1); have h5 : (1 : Int32).toInt = 1 := rfl
  omega
theorem own_p1 {x : Int32} (h1 : 0 ≤ x.toInt) (h2 : x.toInt ≤ 11) : (x + 1).toInt = x.toInt + 1 := by
  have h1 := c_iadd x 1; have h2 := rng32 (x + 1); have h5 : (1 : Int32).toInt = 1 := rfl
  omega
theorem own_d_prog_16_8_0 : decode prog_16_method_8_code 0 = .ok (.iload_n 1, 1) := by decide +kernel
theorem own_d_prog_16_8_1 : decode prog_16_method_8_code 1 = .ok (.aload_n 0, 1) := by decide +kernel
theorem own_d_prog_16_8_2 : decode prog_16_method_8_code 2 = .ok (.getfield 108, 3) := by decide +kernel
theorem own_d_prog_16_8_5 : decode prog_16_method_8_code 5 = .ok (.if_icmp .lt 15, 3) := by decide +kernel
theorem own_d_prog_16_8_20 : decode prog_16_method_8_code 20 = .ok (.iconst 0, 1) := by decide +kernel
theorem own_d_prog_16_8_21 : decode prog_16_method_8_code 21 = .ok (.ireturn, 1) := by decide +kernel
theorem own_d_prog_16_8_8 : decode prog_16_method_8_code 8 = .ok (.iload_n 1, 1) := by decide +kernel
theorem own_d_prog_16_8_9 : decode prog_16_method_8_code 9 = .ok (.aload_n 0, 1) := by decide +kernel
theorem own_d_prog_16_8_10 : decode prog_16_method_8_code 10 = .ok (.getfield 111, 3) := by decide +kernel
theorem own_d_prog_16_8_13 : decode prog_16_method_8_code 13 = .ok (.if_icmp .gt 7, 3) := by decide +kernel
theorem own_d_prog_16_8_16 : decode prog_16_method_8_code 16 = .ok (.iconst 1, 1) := by decide +kernel
theorem own_d_prog_16_8_17 : decode prog_16_method_8_code 17 = .ok (.goto 4, 3) := by decide +kernel
theorem own_pn12 : plainName "com/example/nestor/nestor/protocol/ApiKey" = true := by first | (simp [plainName, overriddenIn]; done) | decide +kernel
theorem own_pd13 : parseMethodDescriptor "(S)Z" = some ⟨[.short], some .boolean⟩ := by decide +kernel
theorem own_pn14 : plainName "com/example/nestor/nestor/protocol/ApiKeySupportsPinLaw" = true := by first | (simp [plainName, overriddenIn]; done) | decide +kernel
theorem own_rmS_ef (m : MethodId) (a : Addr) (v : Int32) : entryFrame m #[(.ref a), (.int v)] 2 = mkF m 0 #[.val (.ref a), .val (.int v)] [] := by first | (simp [entryFrame, mkF, argsToLocals, Value.category]; done) | rfl
set_option maxRecDepth 65536 in
set_option maxHeartbeats 40000000 in
theorem own_rmS (l : Launch) (Z : State) (a0 : Array Value) (hw : ∀ d ∈ tables_1, d.before a0 Z = true) (ws : List Jvm.Cond) (a : Addr) (v l' h' : Int32) (b : Bool) (h0 : Heap) (n0 : Nat) (Z0 : n0 ≤ h0.size) (Fl : Fld Z h0 a "com/example/nestor/nestor/protocol/ApiKey" "oldestVersion" "S" (.int l')) (Fh : Fld Z h0 a "com/example/nestor/nestor/protocol/ApiKey" "latestVersion" "S" (.int h')) (hb1 : own_ok v l' h' = b) :
    MetFree l (⟨"com/example/nestor/nestor/protocol/ApiKey", "supports", "(S)Z"⟩ : MethodName) (head1 (Jvm.Cond.code (⟨"com/example/nestor/nestor/protocol/ApiKey", "supports", "(S)Z"⟩ : MethodName) prog_16_method_8_code 2 (some .boolean) :: ws) ({ frames := 0, cells := 0, slots := 0, locals := 0 } : Room)) (fun aa_ U => aa_ = #[(.ref a), (.int v)] ∧ Z.Warmed39 U.vm ∧ U.heap = h0) (fun _ _ _ _ _ => True) (fun _ U oo_ U' => ∃ vv_ LL_, oo_ = .returned vv_ ∧ own_QS Z b h0 n0 vv_ U'.heap LL_ ∧ FrameEnd U oo_ U' LL_ ({ frames := 0, cells := 0, slots := 0, locals := 0 } : Room).cells ({ frames := 0, cells := 0, slots := 0, locals := 0 } : Room).slots) := by
  refine MetFree.of_bodySF (plainFor_of_name own_pn12) hisR ?_
  intro p e s m args below meth c s₁ Bd hml0 hP hK
  obtain ⟨rfl, hZ, hh⟩ := hP
  have hx := Bd.exec
  have hby := Bd.bytes
  have hml : c.maxLocals = 2 := hml0
  have hown : s.vm.findClass "com/example/nestor/nestor/protocol/ApiKey" = some m.cls := findClass_of_methodNamed Bd.named
  have hnm := (name_of_methodNamed Bd.named Bd.method).1
  have hlk := Bd.notSynchronized
  have hret := Bd.returns
  have X0 : Stand p l e ({ frames := 0, cells := 0, slots := 0, locals := 0 } : Room) s m #[(.ref a), (.int v)] below meth c s₁ [] 0 0 := Stand.of_body Bd
  have e0 : s₁.heap = h0 := by rw [← hh, Bd.state]; rfl
  have N0 := Fr.nil n0
  show Goes p e below s (own_QS Z b h0 n0) ({ frames := 0, cells := 0, slots := 0, locals := 0 } : Room).cells ({ frames := 0, cells := 0, slots := 0, locals := 0 } : Room).slots _
  refine Goes.cast (own_rmS_ef m a v) ?_
  show Goes p e below s _ _ _ (s₁.setTop (mkF m 0 #[.val (.ref a), .val (.int v)] []))
  refine Goes.st (fun t_ k_ => XS.iloadN X0.here hx rfl (hb hby own_d_prog_16_8_0) rfl  k_) ?_
  show Goes p e below s _ _ _ (s₁.setTop (mkF m 1 #[.val (.ref a), .val (.int v)] [(.int v)]))
  refine Goes.st (fun t_ k_ => XS.aloadN X0.here hx rfl (hb hby own_d_prog_16_8_1) rfl rfl k_) ?_
  show Goes p e below s _ _ _ (s₁.setTop (mkF m 2 #[.val (.ref a), .val (.int v)] [(.ref a), (.int v)]))
  obtain ⟨T1, X1, e1, st1⟩ := getF X0 hx hZ hown (host := "") (Or.inl (hw _ (List.mem_of_getElem? (i := 65) rfl))) Via.refl e0 Fl (g := (mkF m 2 #[.val (.ref a), .val (.int v)] [(.ref a), (.int v)])) rfl rfl (hb hby own_d_prog_16_8_2)
  refine Goes.st st1 ?_
  show Goes p e below s _ _ _ (T1.setTop (mkF m 5 #[.val (.ref a), .val (.int v)] [(.int l'), (.int v)]))
  by_cases hc1 : v < l'
  · refine Goes.st (fun t_ k_ => XS.icmpYes X1.here hx rfl (pc0 := 5) (pc' := 20) rfl (hb hby own_d_prog_16_8_5) rfl (tlt hc1).1 (by decide) (by decide) k_) ?_
    have hb2 : b = false := by rw [← hb1]; simp [own_ok, hc1]
    show Goes p e below s _ _ _ (T1.setTop (mkF m 20 #[.val (.ref a), .val (.int v)] []))
    refine Goes.st (fun t_ k_ => XS.iconst X1.here hx rfl (hb hby own_d_prog_16_8_20) k_) ?_
    show Goes p e below s _ _ _ (T1.setTop (mkF m 21 #[.val (.ref a), .val (.int v)] [(.int (0 : Int32))]))
    exact Goes.retN X1 hx (t := .boolean) hret hlk (by simp) (hb hby own_d_prog_16_8_21) (by decide) (by decide) (⟨by rw [hb2]; rfl, N0, e1⟩)
  · refine Goes.st (fun t_ k_ => XS.icmpNo X1.here hx rfl (hb hby own_d_prog_16_8_5) rfl (flt hc1).1 k_) ?_
    show Goes p e below s _ _ _ (T1.setTop (mkF m 8 #[.val (.ref a), .val (.int v)] []))
    refine Goes.st (fun t_ k_ => XS.iloadN X1.here hx rfl (hb hby own_d_prog_16_8_8) rfl  k_) ?_
    show Goes p e below s _ _ _ (T1.setTop (mkF m 9 #[.val (.ref a), .val (.int v)] [(.int v)]))
    refine Goes.st (fun t_ k_ => XS.aloadN X1.here hx rfl (hb hby own_d_prog_16_8_9) rfl rfl k_) ?_
    show Goes p e below s _ _ _ (T1.setTop (mkF m 10 #[.val (.ref a), .val (.int v)] [(.ref a), (.int v)]))
    obtain ⟨T2, X2, e2, st2⟩ := getF X1 hx hZ hown (host := "") (Or.inl (hw _ (List.mem_of_getElem? (i := 67) rfl))) Via.refl e1 Fh (g := (mkF m 10 #[.val (.ref a), .val (.int v)] [(.ref a), (.int v)])) rfl rfl (hb hby own_d_prog_16_8_10)
    refine Goes.st st2 ?_
    show Goes p e below s _ _ _ (T2.setTop (mkF m 13 #[.val (.ref a), .val (.int v)] [(.int h'), (.int v)]))
    by_cases hc2 : h' < v
    · refine Goes.st (fun t_ k_ => XS.icmpYes X2.here hx rfl (pc0 := 13) (pc' := 20) rfl (hb hby own_d_prog_16_8_13) rfl (tlt hc2).2.2.1 (by decide) (by decide) k_) ?_
      have hb2 : b = false := by rw [← hb1]; simp [own_ok, hc1, hc2]
      show Goes p e below s _ _ _ (T2.setTop (mkF m 20 #[.val (.ref a), .val (.int v)] []))
      refine Goes.st (fun t_ k_ => XS.iconst X2.here hx rfl (hb hby own_d_prog_16_8_20) k_) ?_
      show Goes p e below s _ _ _ (T2.setTop (mkF m 21 #[.val (.ref a), .val (.int v)] [(.int (0 : Int32))]))
      exact Goes.retN X2 hx (t := .boolean) hret hlk (by simp) (hb hby own_d_prog_16_8_21) (by decide) (by decide) (⟨by rw [hb2]; rfl, N0, e2⟩)
    · refine Goes.st (fun t_ k_ => XS.icmpNo X2.here hx rfl (hb hby own_d_prog_16_8_13) rfl (flt hc2).2.2.1 k_) ?_
      have hb2 : b = true := by rw [← hb1]; simp [own_ok, hc1, hc2]
      show Goes p e below s _ _ _ (T2.setTop (mkF m 16 #[.val (.ref a), .val (.int v)] []))
      refine Goes.st (fun t_ k_ => XS.iconst X2.here hx rfl (hb hby own_d_prog_16_8_16) k_) ?_
      show Goes p e below s _ _ _ (T2.setTop (mkF m 17 #[.val (.ref a), .val (.int v)] [(.int (1 : Int32))]))
      refine Goes.st (fun t_ k_ => XS.goto X2.here hx rfl (pc0 := 17) (pc' := 21) rfl (hb hby own_d_prog_16_8_17) (by decide) (by decide) k_) ?_
      show Goes p e below s _ _ _ (T2.setTop (mkF m 21 #[.val (.ref a), .val (.int v)] [(.int (1 : Int32))]))
      exact Goes.retN X2 hx (t := .boolean) hret hlk (by simp) (hb hby own_d_prog_16_8_21) (by decide) (by decide) (⟨by rw [hb2]; rfl, N0, e2⟩)
theorem own_rm0_ef (m : MethodId) (kk : Int32) (vv : Int32) : entryFrame m #[(.int kk), (.int vv)] maxLocals = mkF m 0 #[.val (.int kk), .val (.int vv), .unset, .unset, .unset, .unset, .unset, .unset, .unset, .unset, .unset, .unset, .unset, .unset] [] := by first | (simp [entryFrame, mkF, argsToLocals, Value.category, maxLocals]; done) | rfl
set_option maxRecDepth 65536 in
set_option maxHeartbeats 40000000 in
theorem own_rm0 (l : Launch) (Z : State) (a0 : Array Value) (hw : ∀ d ∈ tables_1, d.before a0 Z = true) (ws : List Jvm.Cond) (kk vv : Int32) (a_0 a_1 a_2 a_3 a_4 a_5 a_6 a_7 a_8 a_9 a_10 a_11 a_12 a_13 a_14 a_15 a_16 a_17 a_18 a_19 a_20 a_21 a_22 a_23 a_24 a_25 a_26 : Addr) (h0 : Heap) (n0 : Nat) (Z0 : n0 ≤ h0.size) (O0 : Old Z n0 h0) (S_0 : Sta Z Z.heap "com/example/nestor/nestor/protocol/ApiKey" "PRODUCE" "Lcom/example/nestor/nestor/protocol/ApiKey;" (.ref a_0)) (E_0 : Exa Z Z.heap a_0 "com/example/nestor/nestor/protocol/ApiKey") (S_1 : Sta Z Z.heap "com/example/nestor/nestor/protocol/ApiKey" "FETCH" "Lcom/example/nestor/nestor/protocol/ApiKey;" (.ref a_1)) (E_1 : Exa Z Z.heap a_1 "com/example/nestor/nestor/protocol/ApiKey") (S_2 : Sta Z Z.heap "com/example/nestor/nestor/protocol/ApiKey" "LIST_OFFSETS" "Lcom/example/nestor/nestor/protocol/ApiKey;" (.ref a_2)) (E_2 : Exa Z Z.heap a_2 "com/example/nestor/nestor/protocol/ApiKey") (S_3 : Sta Z Z.heap "com/example/nestor/nestor/protocol/ApiKey" "METADATA" "Lcom/example/nestor/nestor/protocol/ApiKey;" (.ref a_3)) (E_3 : Exa Z Z.heap a_3 "com/example/nestor/nestor/protocol/ApiKey") (S_4 : Sta Z Z.heap "com/example/nestor/nestor/protocol/ApiKey" "OFFSET_COMMIT" "Lcom/example/nestor/nestor/protocol/ApiKey;" (.ref a_4)) (E_4 : Exa Z Z.heap a_4 "com/example/nestor/nestor/protocol/ApiKey") (S_5 : Sta Z Z.heap "com/example/nestor/nestor/protocol/ApiKey" "OFFSET_FETCH" "Lcom/example/nestor/nestor/protocol/ApiKey;" (.ref a_5)) (E_5 : Exa Z Z.heap a_5 "com/example/nestor/nestor/protocol/ApiKey") (S_6 : Sta Z Z.heap "com/example/nestor/nestor/protocol/ApiKey" "FIND_COORDINATOR" "Lcom/example/nestor/nestor/protocol/ApiKey;" (.ref a_6)) (E_6 : Exa Z Z.heap a_6 "com/example/nestor/nestor/protocol/ApiKey") (S_7 : Sta Z Z.heap "com/example/nestor/nestor/protocol/ApiKey" "JOIN_GROUP" "Lcom/example/nestor/nestor/protocol/ApiKey;" (.ref a_7)) (E_7 : Exa Z Z.heap a_7 "com/example/nestor/nestor/protocol/ApiKey") (S_8 : Sta Z Z.heap "com/example/nestor/nestor/protocol/ApiKey" "HEARTBEAT" "Lcom/example/nestor/nestor/protocol/ApiKey;" (.ref a_8)) (E_8 : Exa Z Z.heap a_8 "com/example/nestor/nestor/protocol/ApiKey") (S_9 : Sta Z Z.heap "com/example/nestor/nestor/protocol/ApiKey" "LEAVE_GROUP" "Lcom/example/nestor/nestor/protocol/ApiKey;" (.ref a_9)) (E_9 : Exa Z Z.heap a_9 "com/example/nestor/nestor/protocol/ApiKey") (S_10 : Sta Z Z.heap "com/example/nestor/nestor/protocol/ApiKey" "SYNC_GROUP" "Lcom/example/nestor/nestor/protocol/ApiKey;" (.ref a_10)) (E_10 : Exa Z Z.heap a_10 "com/example/nestor/nestor/protocol/ApiKey") (S_11 : Sta Z Z.heap "com/example/nestor/nestor/protocol/ApiKey" "DESCRIBE_GROUPS" "Lcom/example/nestor/nestor/protocol/ApiKey;" (.ref a_11)) (E_11 : Exa Z Z.heap a_11 "com/example/nestor/nestor/protocol/ApiKey") (S_12 : Sta Z Z.heap "com/example/nestor/nestor/protocol/ApiKey" "LIST_GROUPS" "Lcom/example/nestor/nestor/protocol/ApiKey;" (.ref a_12)) (E_12 : Exa Z Z.heap a_12 "com/example/nestor/nestor/protocol/ApiKey") (S_13 : Sta Z Z.heap "com/example/nestor/nestor/protocol/ApiKey" "API_VERSIONS" "Lcom/example/nestor/nestor/protocol/ApiKey;" (.ref a_13)) (E_13 : Exa Z Z.heap a_13 "com/example/nestor/nestor/protocol/ApiKey") (S_14 : Sta Z Z.heap "com/example/nestor/nestor/protocol/ApiKey" "CREATE_TOPICS" "Lcom/example/nestor/nestor/protocol/ApiKey;" (.ref a_14)) (E_14 : Exa Z Z.heap a_14 "com/example/nestor/nestor/protocol/ApiKey") (S_15 : Sta Z Z.heap "com/example/nestor/nestor/protocol/ApiKey" "DELETE_TOPICS" "Lcom/example/nestor/nestor/protocol/ApiKey;" (.ref a_15)) (E_15 : Exa Z Z.heap a_15 "com/example/nestor/nestor/protocol/ApiKey") (S_16 : Sta Z Z.heap "com/example/nestor/nestor/protocol/ApiKey" "INIT_PRODUCER_ID" "Lcom/example/nestor/nestor/protocol/ApiKey;" (.ref a_16)) (E_16 : Exa Z Z.heap a_16 "com/example/nestor/nestor/protocol/ApiKey") (S_17 : Sta Z Z.heap "com/example/nestor/nestor/protocol/ApiKey" "DESCRIBE_CONFIGS" "Lcom/example/nestor/nestor/protocol/ApiKey;" (.ref a_17)) (E_17 : Exa Z Z.heap a_17 "com/example/nestor/nestor/protocol/ApiKey") (S_18 : Sta Z Z.heap "com/example/nestor/nestor/protocol/ApiKey" "DELETE_GROUPS" "Lcom/example/nestor/nestor/protocol/ApiKey;" (.ref a_18)) (E_18 : Exa Z Z.heap a_18 "com/example/nestor/nestor/protocol/ApiKey") (S_19 : Sta Z Z.heap "com/example/nestor/nestor/protocol/ApiKey" "INCREMENTAL_ALTER_CONFIGS" "Lcom/example/nestor/nestor/protocol/ApiKey;" (.ref a_19)) (E_19 : Exa Z Z.heap a_19 "com/example/nestor/nestor/protocol/ApiKey") (S_20 : Sta Z Z.heap "com/example/nestor/nestor/protocol/ApiKey" "OFFSET_DELETE" "Lcom/example/nestor/nestor/protocol/ApiKey;" (.ref a_20)) (E_20 : Exa Z Z.heap a_20 "com/example/nestor/nestor/protocol/ApiKey") (S_21 : Sta Z Z.heap "com/example/nestor/nestor/protocol/ApiKey" "CONSUMER_GROUP_HEARTBEAT" "Lcom/example/nestor/nestor/protocol/ApiKey;" (.ref a_21)) (E_21 : Exa Z Z.heap a_21 "com/example/nestor/nestor/protocol/ApiKey") (S_22 : Sta Z Z.heap "com/example/nestor/nestor/protocol/ApiKey" "CONSUMER_GROUP_DESCRIBE" "Lcom/example/nestor/nestor/protocol/ApiKey;" (.ref a_22)) (E_22 : Exa Z Z.heap a_22 "com/example/nestor/nestor/protocol/ApiKey") (S_23 : Sta Z Z.heap "com/example/nestor/nestor/protocol/ApiKey" "SHARE_GROUP_HEARTBEAT" "Lcom/example/nestor/nestor/protocol/ApiKey;" (.ref a_23)) (E_23 : Exa Z Z.heap a_23 "com/example/nestor/nestor/protocol/ApiKey") (S_24 : Sta Z Z.heap "com/example/nestor/nestor/protocol/ApiKey" "SHARE_GROUP_DESCRIBE" "Lcom/example/nestor/nestor/protocol/ApiKey;" (.ref a_24)) (E_24 : Exa Z Z.heap a_24 "com/example/nestor/nestor/protocol/ApiKey") (S_25 : Sta Z Z.heap "com/example/nestor/nestor/protocol/ApiKey" "SHARE_FETCH" "Lcom/example/nestor/nestor/protocol/ApiKey;" (.ref a_25)) (E_25 : Exa Z Z.heap a_25 "com/example/nestor/nestor/protocol/ApiKey") (S_26 : Sta Z Z.heap "com/example/nestor/nestor/protocol/ApiKey" "SHARE_ACKNOWLEDGE" "Lcom/example/nestor/nestor/protocol/ApiKey;" (.ref a_26)) (E_26 : Exa Z Z.heap a_26 "com/example/nestor/nestor/protocol/ApiKey") (HK : ∀ n, n < 27 → Exa Z Z.heap ([a_0, a_1, a_2, a_3, a_4, a_5, a_6, a_7, a_8, a_9, a_10, a_11, a_12, a_13, a_14, a_15, a_16, a_17, a_18, a_19, a_20, a_21, a_22, a_23, a_24, a_25, a_26].getD n 0) "com/example/nestor/nestor/protocol/ApiKey" ∧ Fld Z Z.heap ([a_0, a_1, a_2, a_3, a_4, a_5, a_6, a_7, a_8, a_9, a_10, a_11, a_12, a_13, a_14, a_15, a_16, a_17, a_18, a_19, a_20, a_21, a_22, a_23, a_24, a_25, a_26].getD n 0) "com/example/nestor/nestor/protocol/ApiKey" "oldestVersion" "S" (.int (own_los.getD n 0)) ∧ Fld Z Z.heap ([a_0, a_1, a_2, a_3, a_4, a_5, a_6, a_7, a_8, a_9, a_10, a_11, a_12, a_13, a_14, a_15, a_16, a_17, a_18, a_19, a_20, a_21, a_22, a_23, a_24, a_25, a_26].getD n 0) "com/example/nestor/nestor/protocol/ApiKey" "latestVersion" "S" (.int (own_his.getD n 0))) :
    MetFree l x (head1 (Jvm.Cond.code x code maxLocals ret :: ws) room_1) (fun aa_ U => aa_ = #[(.int kk), (.int vv)] ∧ Z.Warmed39 U.vm ∧ U.heap = h0) (fun _ _ _ _ _ => True) (fun _ U oo_ U' => ∃ vv_ LL_, oo_ = .returned vv_ ∧ own_Q0 Z  h0 n0 vv_ U'.heap LL_ ∧ FrameEnd U oo_ U' LL_ 3 81) := by
  refine MetFree.of_bodySF (plainFor_of_name own_pn14) hisR ?_
  intro p e s m args below meth c s₁ Bd hml0 hP hK
  obtain ⟨rfl, hZ, hh⟩ := hP
  have hx := Bd.exec
  have hby := Bd.bytes
  have hml : c.maxLocals = 14 := hml0
  have hown : s.vm.findClass "com/example/nestor/nestor/protocol/ApiKeySupportsPinLaw" = some m.cls := findClass_of_methodNamed Bd.named
  have hnm := (name_of_methodNamed Bd.named Bd.method).1
  have hlk := Bd.notSynchronized
  have hret := Bd.returns
  have X0 : Stand p l e room_1 s m #[(.int kk), (.int vv)] below meth c s₁ [] 0 0 := Stand.of_body Bd
  have e0 : s₁.heap = h0 := by rw [← hh, Bd.state]; rfl
  have N0 := Fr.nil n0
  show Goes p e below s (own_Q0 Z  h0 n0) (3) (81) _
  refine Goes.cast (own_rm0_ef m kk vv) ?_
  show Goes p e below s _ _ _ (s₁.setTop (mkF m 0 #[.val (.int kk), .val (.int vv), .unset, .unset, .unset, .unset, .unset, .unset, .unset, .unset, .unset, .unset, .unset, .unset] []))
  refine Goes.st (fun t_ k_ => XS.bipush X0.here hx rfl (hb hby at_0) k_) ?_
  show Goes p e below s _ _ _ (s₁.setTop (mkF m 2 #[.val (.int kk), .val (.int vv), .unset, .unset, .unset, .unset, .unset, .unset, .unset, .unset, .unset, .unset, .unset, .unset] [(.int (27 : Int32))]))
  obtain ⟨T3, h3, k3, X3, e3, E3, A3, O3, st3⟩ := newR X0 hx hZ hown (hw _ (List.mem_of_getElem? (i := 0) rfl)) (hw _ (List.mem_of_getElem? (i := 1) rfl)) e0 (g := (mkF m 2 #[.val (.int kk), .val (.int vv), .unset, .unset, .unset, .unset, .unset, .unset, .unset, .unset, .unset, .unset, .unset, .unset] [(.int (27 : Int32))])) rfl (hb hby at_2) rfl (by decide) (cap := 27) (by decide) (by decide) (by decide) (by decide)
  obtain ⟨b3, g3⟩ : ∃ z, z = h0.size := ⟨_, rfl⟩
  rw [← g3] at A3 st3
  have gn_b3 : n0 ≤ b3 := Nat.le_trans Z0 (Nat.le_of_eq g3.symm)
  refine Goes.st st3 ?_
  have Z0' := Nat.le_trans Z0 E3.1
  have O0 := O0.ext E3
  have V_b3 : Arv Z h3 b3 k3 (.object "com/example/nestor/nestor/protocol/ApiKey") (27 : Int32) [.null, .null, .null, .null, .null, .null, .null, .null, .null, .null, .null, .null, .null, .null, .null, .null, .null, .null, .null, .null, .null, .null, .null, .null, .null, .null, .null] .null := (Arv.new A3 (by decide)).pad (pad_rep [] .null 27)
  show Goes p e below s _ _ _ (T3.setTop (mkF m 5 #[.val (.int kk), .val (.int vv), .unset, .unset, .unset, .unset, .unset, .unset, .unset, .unset, .unset, .unset, .unset, .unset] [(.ref b3)]))
  refine Goes.st (fun t_ k_ => XS.dup X3.here hx rfl (hb hby at_5) rfl rfl k_) ?_
  show Goes p e below s _ _ _ (T3.setTop (mkF m 6 #[.val (.int kk), .val (.int vv), .unset, .unset, .unset, .unset, .unset, .unset, .unset, .unset, .unset, .unset, .unset, .unset] [(.ref b3), (.ref b3)]))
  refine Goes.st (fun t_ k_ => XS.iconst X3.here hx rfl (hb hby at_6) k_) ?_
  show Goes p e below s _ _ _ (T3.setTop (mkF m 7 #[.val (.int kk), .val (.int vv), .unset, .unset, .unset, .unset, .unset, .unset, .unset, .unset, .unset, .unset, .unset, .unset] [(.int (0 : Int32)), (.ref b3), (.ref b3)]))
  obtain ⟨T4, X4, e4, st4⟩ := getS2 X3 hx hZ hown (host := "") (Or.inl (hw _ (List.mem_of_getElem? (i := 2) rfl))) Via.refl e3 (S_0.ext O0.2) (g := (mkF m 7 #[.val (.int kk), .val (.int vv), .unset, .unset, .unset, .unset, .unset, .unset, .unset, .unset, .unset, .unset, .unset, .unset] [(.int (0 : Int32)), (.ref b3), (.ref b3)])) rfl (hb hby at_7)
  refine Goes.st st4 ?_
  show Goes p e below s _ _ _ (T4.setTop (mkF m 10 #[.val (.int kk), .val (.int vv), .unset, .unset, .unset, .unset, .unset, .unset, .unset, .unset, .unset, .unset, .unset, .unset] [(.ref a_0), (.int (0 : Int32)), (.ref b3), (.ref b3)]))
  obtain ⟨cl5, Ar5, q5, S5, M5, H5, G5⟩ := V_b3
  obtain ⟨T5, h5, X5, e5, W5, st5⟩ := stR X4 hx hZ e4 Ar5 (j := (0 : Int32)) (inb_of S5 ⟨by decide, by decide⟩) rfl (Sto.ofV Ar5 q5 O3 (Ins.self (E_0.ext O0.2))) (g := (mkF m 10 #[.val (.int kk), .val (.int vv), .unset, .unset, .unset, .unset, .unset, .unset, .unset, .unset, .unset, .unset, .unset, .unset] [(.ref a_0), (.int (0 : Int32)), (.ref b3), (.ref b3)])) rfl rfl (hb hby at_10)
  have V_b3 := Arv.set Ar5 q5 S5 M5 H5 G5 rfl W5 0 rfl (Nat.le_of_ble_eq_true rfl)
  refine Goes.st st5 ?_
  have V_b3 : Arv Z h5 b3 k3 (.object "com/example/nestor/nestor/protocol/ApiKey") (27 : Int32) [(.ref a_0), .null, .null, .null, .null, .null, .null, .null, .null, .null, .null, .null, .null, .null, .null, .null, .null, .null, .null, .null, .null, .null, .null, .null, .null, .null, .null] .null := V_b3
  have N5 := Fr.snoc X5 N0 gn_b3
  have Z0'' := Nat.le_trans Z0' (Keep.of_wr W5).1
  have O0 := O0.wr W5 gn_b3
  show Goes p e below s _ _ _ (T5.setTop (mkF m 11 #[.val (.int kk), .val (.int vv), .unset, .unset, .unset, .unset, .unset, .unset, .unset, .unset, .unset, .unset, .unset, .unset] [(.ref b3)]))
  refine Goes.st (fun t_ k_ => XS.dup X5.here hx rfl (hb hby at_11) rfl rfl k_) ?_
  show Goes p e below s _ _ _ (T5.setTop (mkF m 12 #[.val (.int kk), .val (.int vv), .unset, .unset, .unset, .unset, .unset, .unset, .unset, .unset, .unset, .unset, .unset, .unset] [(.ref b3), (.ref b3)]))
  refine Goes.st (fun t_ k_ => XS.iconst X5.here hx rfl (hb hby at_12) k_) ?_
  show Goes p e below s _ _ _ (T5.setTop (mkF m 13 #[.val (.int kk), .val (.int vv), .unset, .unset, .unset, .unset, .unset, .unset, .unset, .unset, .unset, .unset, .unset, .unset] [(.int (1 : Int32)), (.ref b3), (.ref b3)]))
  obtain ⟨T6, X6, e6, st6⟩ := getS2 X5 hx hZ hown (host := "") (Or.inl (hw _ (List.mem_of_getElem? (i := 6) rfl))) Via.refl e5 (S_1.ext O0.2) (g := (mkF m 13 #[.val (.int kk), .val (.int vv), .unset, .unset, .unset, .unset, .unset, .unset, .unset, .unset, .unset, .unset, .unset, .unset] [(.int (1 : Int32)), (.ref b3), (.ref b3)])) rfl (hb hby at_13)
  refine Goes.st st6 ?_
  show Goes p e below s _ _ _ (T6.setTop (mkF m 16 #[.val (.int kk), .val (.int vv), .unset, .unset, .unset, .unset, .unset, .unset, .unset, .unset, .unset, .unset, .unset, .unset] [(.ref a_1), (.int (1 : Int32)), (.ref b3), (.ref b3)]))
  obtain ⟨cl7, Ar7, q7, S7, M7, H7, G7⟩ := V_b3
  obtain ⟨T7, h7, X7, e7, W7, st7⟩ := stR X6 hx hZ e6 Ar7 (j := (1 : Int32)) (inb_of S7 ⟨by decide, by decide⟩) rfl (Sto.ofV Ar7 q7 O3 (Ins.self (E_1.ext O0.2))) (g := (mkF m 16 #[.val (.int kk), .val (.int vv), .unset, .unset, .unset, .unset, .unset, .unset, .unset, .unset, .unset, .unset, .unset, .unset] [(.ref a_1), (.int (1 : Int32)), (.ref b3), (.ref b3)])) rfl rfl (hb hby at_16)
  have V_b3 := Arv.set Ar7 q7 S7 M7 H7 G7 rfl W7 1 rfl (Nat.le_of_ble_eq_true rfl)
  refine Goes.st st7 ?_
  have V_b3 : Arv Z h7 b3 k3 (.object "com/example/nestor/nestor/protocol/ApiKey") (27 : Int32) [(.ref a_0), (.ref a_1), .null, .null, .null, .null, .null, .null, .null, .null, .null, .null, .null, .null, .null, .null, .null, .null, .null, .null, .null, .null, .null, .null, .null, .null, .null] .null := V_b3
  have N7 := Fr.snoc X7 N5 gn_b3
  have Z0''' := Nat.le_trans Z0'' (Keep.of_wr W7).1
  have O0 := O0.wr W7 gn_b3
  show Goes p e below s _ _ _ (T7.setTop (mkF m 17 #[.val (.int kk), .val (.int vv), .unset, .unset, .unset, .unset, .unset, .unset, .unset, .unset, .unset, .unset, .unset, .unset] [(.ref b3)]))
  refine Goes.st (fun t_ k_ => XS.dup X7.here hx rfl (hb hby at_17) rfl rfl k_) ?_
  show Goes p e below s _ _ _ (T7.setTop (mkF m 18 #[.val (.int kk), .val (.int vv), .unset, .unset, .unset, .unset, .unset, .unset, .unset, .unset, .unset, .unset, .unset, .unset] [(.ref b3), (.ref b3)]))
  refine Goes.st (fun t_ k_ => XS.iconst X7.here hx rfl (hb hby at_18) k_) ?_
  show Goes p e below s _ _ _ (T7.setTop (mkF m 19 #[.val (.int kk), .val (.int vv), .unset, .unset, .unset, .unset, .unset, .unset, .unset, .unset, .unset, .unset, .unset, .unset] [(.int (2 : Int32)), (.ref b3), (.ref b3)]))
  obtain ⟨T8, X8, e8, st8⟩ := getS2 X7 hx hZ hown (host := "") (Or.inl (hw _ (List.mem_of_getElem? (i := 8) rfl))) Via.refl e7 (S_2.ext O0.2) (g := (mkF m 19 #[.val (.int kk), .val (.int vv), .unset, .unset, .unset, .unset, .unset, .unset, .unset, .unset, .unset, .unset, .unset, .unset] [(.int (2 : Int32)), (.ref b3), (.ref b3)])) rfl (hb hby at_19)
  refine Goes.st st8 ?_
  show Goes p e below s _ _ _ (T8.setTop (mkF m 22 #[.val (.int kk), .val (.int vv), .unset, .unset, .unset, .unset, .unset, .unset, .unset, .unset, .unset, .unset, .unset, .unset] [(.ref a_2), (.int (2 : Int32)), (.ref b3), (.ref b3)]))
  obtain ⟨cl9, Ar9, q9, S9, M9, H9, G9⟩ := V_b3
  obtain ⟨T9, h9, X9, e9, W9, st9⟩ := stR X8 hx hZ e8 Ar9 (j := (2 : Int32)) (inb_of S9 ⟨by decide, by decide⟩) rfl (Sto.ofV Ar9 q9 O3 (Ins.self (E_2.ext O0.2))) (g := (mkF m 22 #[.val (.int kk), .val (.int vv), .unset, .unset, .unset, .unset, .unset, .unset, .unset, .unset, .unset, .unset, .unset, .unset] [(.ref a_2), (.int (2 : Int32)), (.ref b3), (.ref b3)])) rfl rfl (hb hby at_22)
  have V_b3 := Arv.set Ar9 q9 S9 M9 H9 G9 rfl W9 2 rfl (Nat.le_of_ble_eq_true rfl)
  refine Goes.st st9 ?_
  have V_b3 : Arv Z h9 b3 k3 (.object "com/example/nestor/nestor/protocol/ApiKey") (27 : Int32) [(.ref a_0), (.ref a_1), (.ref a_2), .null, .null, .null, .null, .null, .null, .null, .null, .null, .null, .null, .null, .null, .null, .null, .null, .null, .null, .null, .null, .null, .null, .null, .null] .null := V_b3
  have N9 := Fr.snoc X9 N7 gn_b3
  have Z0'''' := Nat.le_trans Z0''' (Keep.of_wr W9).1
  have O0 := O0.wr W9 gn_b3
  show Goes p e below s _ _ _ (T9.setTop (mkF m 23 #[.val (.int kk), .val (.int vv), .unset, .unset, .unset, .unset, .unset, .unset, .unset, .unset, .unset, .unset, .unset, .unset] [(.ref b3)]))
  refine Goes.st (fun t_ k_ => XS.dup X9.here hx rfl (hb hby at_23) rfl rfl k_) ?_
  show Goes p e below s _ _ _ (T9.setTop (mkF m 24 #[.val (.int kk), .val (.int vv), .unset, .unset, .unset, .unset, .unset, .unset, .unset, .unset, .unset, .unset, .unset, .unset] [(.ref b3), (.ref b3)]))
  refine Goes.st (fun t_ k_ => XS.iconst X9.here hx rfl (hb hby at_24) k_) ?_
  show Goes p e below s _ _ _ (T9.setTop (mkF m 25 #[.val (.int kk), .val (.int vv), .unset, .unset, .unset, .unset, .unset, .unset, .unset, .unset, .unset, .unset, .unset, .unset] [(.int (3 : Int32)), (.ref b3), (.ref b3)]))
  obtain ⟨T10, X10, e10, st10⟩ := getS2 X9 hx hZ hown (host := "") (Or.inl (hw _ (List.mem_of_getElem? (i := 10) rfl))) Via.refl e9 (S_3.ext O0.2) (g := (mkF m 25 #[.val (.int kk), .val (.int vv), .unset, .unset, .unset, .unset, .unset, .unset, .unset, .unset, .unset, .unset, .unset, .unset] [(.int (3 : Int32)), (.ref b3), (.ref b3)])) rfl (hb hby at_25)
  refine Goes.st st10 ?_
  show Goes p e below s _ _ _ (T10.setTop (mkF m 28 #[.val (.int kk), .val (.int vv), .unset, .unset, .unset, .unset, .unset, .unset, .unset, .unset, .unset, .unset, .unset, .unset] [(.ref a_3), (.int (3 : Int32)), (.ref b3), (.ref b3)]))
  obtain ⟨cl11, Ar11, q11, S11, M11, H11, G11⟩ := V_b3
  obtain ⟨T11, h11, X11, e11, W11, st11⟩ := stR X10 hx hZ e10 Ar11 (j := (3 : Int32)) (inb_of S11 ⟨by decide, by decide⟩) rfl (Sto.ofV Ar11 q11 O3 (Ins.self (E_3.ext O0.2))) (g := (mkF m 28 #[.val (.int kk), .val (.int vv), .unset, .unset, .unset, .unset, .unset, .unset, .unset, .unset, .unset, .unset, .unset, .unset] [(.ref a_3), (.int (3 : Int32)), (.ref b3), (.ref b3)])) rfl rfl (hb hby at_28)
  have V_b3 := Arv.set Ar11 q11 S11 M11 H11 G11 rfl W11 3 rfl (Nat.le_of_ble_eq_true rfl)
  refine Goes.st st11 ?_
  have V_b3 : Arv Z h11 b3 k3 (.object "com/example/nestor/nestor/protocol/ApiKey") (27 : Int32) [(.ref a_0), (.ref a_1), (.ref a_2), (.ref a_3), .null, .null, .null, .null, .null, .null, .null, .null, .null, .null, .null, .null, .null, .null, .null, .null, .null, .null, .null, .null, .null, .null, .null] .null := V_b3
  have N11 := Fr.snoc X11 N9 gn_b3
  have Z0''''' := Nat.le_trans Z0'''' (Keep.of_wr W11).1
  have O0 := O0.wr W11 gn_b3
  show Goes p e below s _ _ _ (T11.setTop (mkF m 29 #[.val (.int kk), .val (.int vv), .unset, .unset, .unset, .unset, .unset, .unset, .unset, .unset, .unset, .unset, .unset, .unset] [(.ref b3)]))
  refine Goes.st (fun t_ k_ => XS.dup X11.here hx rfl (hb hby at_29) rfl rfl k_) ?_
  show Goes p e below s _ _ _ (T11.setTop (mkF m 30 #[.val (.int kk), .val (.int vv), .unset, .unset, .unset, .unset, .unset, .unset, .unset, .unset, .unset, .unset, .unset, .unset] [(.ref b3), (.ref b3)]))
  refine Goes.st (fun t_ k_ => XS.iconst X11.here hx rfl (hb hby at_30) k_) ?_
  show Goes p e below s _ _ _ (T11.setTop (mkF m 31 #[.val (.int kk), .val (.int vv), .unset, .unset, .unset, .unset, .unset, .unset, .unset, .unset, .unset, .unset, .unset, .unset] [(.int (4 : Int32)), (.ref b3), (.ref b3)]))
  obtain ⟨T12, X12, e12, st12⟩ := getS2 X11 hx hZ hown (host := "") (Or.inl (hw _ (List.mem_of_getElem? (i := 12) rfl))) Via.refl e11 (S_4.ext O0.2) (g := (mkF m 31 #[.val (.int kk), .val (.int vv), .unset, .unset, .unset, .unset, .unset, .unset, .unset, .unset, .unset, .unset, .unset, .unset] [(.int (4 : Int32)), (.ref b3), (.ref b3)])) rfl (hb hby at_31)
  refine Goes.st st12 ?_
  show Goes p e below s _ _ _ (T12.setTop (mkF m 34 #[.val (.int kk), .val (.int vv), .unset, .unset, .unset, .unset, .unset, .unset, .unset, .unset, .unset, .unset, .unset, .unset] [(.ref a_4), (.int (4 : Int32)), (.ref b3), (.ref b3)]))
  obtain ⟨cl13, Ar13, q13, S13, M13, H13, G13⟩ := V_b3
  obtain ⟨T13, h13, X13, e13, W13, st13⟩ := stR X12 hx hZ e12 Ar13 (j := (4 : Int32)) (inb_of S13 ⟨by decide, by decide⟩) rfl (Sto.ofV Ar13 q13 O3 (Ins.self (E_4.ext O0.2))) (g := (mkF m 34 #[.val (.int kk), .val (.int vv), .unset, .unset, .unset, .unset, .unset, .unset, .unset, .unset, .unset, .unset, .unset, .unset] [(.ref a_4), (.int (4 : Int32)), (.ref b3), (.ref b3)])) rfl rfl (hb hby at_34)
  have V_b3 := Arv.set Ar13 q13 S13 M13 H13 G13 rfl W13 4 rfl (Nat.le_of_ble_eq_true rfl)
  refine Goes.st st13 ?_
  have V_b3 : Arv Z h13 b3 k3 (.object "com/example/nestor/nestor/protocol/ApiKey") (27 : Int32) [(.ref a_0), (.ref a_1), (.ref a_2), (.ref a_3), (.ref a_4), .null, .null, .null, .null, .null, .null, .null, .null, .null, .null, .null, .null, .null, .null, .null, .null, .null, .null, .null, .null, .null, .null] .null := V_b3
  have N13 := Fr.snoc X13 N11 gn_b3
  have Z0'''''' := Nat.le_trans Z0''''' (Keep.of_wr W13).1
  have O0 := O0.wr W13 gn_b3
  show Goes p e below s _ _ _ (T13.setTop (mkF m 35 #[.val (.int kk), .val (.int vv), .unset, .unset, .unset, .unset, .unset, .unset, .unset, .unset, .unset, .unset, .unset, .unset] [(.ref b3)]))
  refine Goes.st (fun t_ k_ => XS.dup X13.here hx rfl (hb hby at_35) rfl rfl k_) ?_
  show Goes p e below s _ _ _ (T13.setTop (mkF m 36 #[.val (.int kk), .val (.int vv), .unset, .unset, .unset, .unset, .unset, .unset, .unset, .unset, .unset, .unset, .unset, .unset] [(.ref b3), (.ref b3)]))
  refine Goes.st (fun t_ k_ => XS.iconst X13.here hx rfl (hb hby at_36) k_) ?_
  show Goes p e below s _ _ _ (T13.setTop (mkF m 37 #[.val (.int kk), .val (.int vv), .unset, .unset, .unset, .unset, .unset, .unset, .unset, .unset, .unset, .unset, .unset, .unset] [(.int (5 : Int32)), (.ref b3), (.ref b3)]))
  obtain ⟨T14, X14, e14, st14⟩ := getS2 X13 hx hZ hown (host := "") (Or.inl (hw _ (List.mem_of_getElem? (i := 14) rfl))) Via.refl e13 (S_5.ext O0.2) (g := (mkF m 37 #[.val (.int kk), .val (.int vv), .unset, .unset, .unset, .unset, .unset, .unset, .unset, .unset, .unset, .unset, .unset, .unset] [(.int (5 : Int32)), (.ref b3), (.ref b3)])) rfl (hb hby at_37)
  refine Goes.st st14 ?_
  show Goes p e below s _ _ _ (T14.setTop (mkF m 40 #[.val (.int kk), .val (.int vv), .unset, .unset, .unset, .unset, .unset, .unset, .unset, .unset, .unset, .unset, .unset, .unset] [(.ref a_5), (.int (5 : Int32)), (.ref b3), (.ref b3)]))
  obtain ⟨cl15, Ar15, q15, S15, M15, H15, G15⟩ := V_b3
  obtain ⟨T15, h15, X15, e15, W15, st15⟩ := stR X14 hx hZ e14 Ar15 (j := (5 : Int32)) (inb_of S15 ⟨by decide, by decide⟩) rfl (Sto.ofV Ar15 q15 O3 (Ins.self (E_5.ext O0.2))) (g := (mkF m 40 #[.val (.int kk), .val (.int vv), .unset, .unset, .unset, .unset, .unset, .unset, .unset, .unset, .unset, .unset, .unset, .unset] [(.ref a_5), (.int (5 : Int32)), (.ref b3), (.ref b3)])) rfl rfl (hb hby at_40)
  have V_b3 := Arv.set Ar15 q15 S15 M15 H15 G15 rfl W15 5 rfl (Nat.le_of_ble_eq_true rfl)
  refine Goes.st st15 ?_
  have V_b3 : Arv Z h15 b3 k3 (.object "com/example/nestor/nestor/protocol/ApiKey") (27 : Int32) [(.ref a_0), (.ref a_1), (.ref a_2), (.ref a_3), (.ref a_4), (.ref a_5), .null, .null, .null, .null, .null, .null, .null, .null, .null, .null, .null, .null, .null, .null, .null, .null, .null, .null, .null, .null, .null] .null := V_b3
  have N15 := Fr.snoc X15 N13 gn_b3
  have Z0''''''' := Nat.le_trans Z0'''''' (Keep.of_wr W15).1
  have O0 := O0.wr W15 gn_b3
  show Goes p e below s _ _ _ (T15.setTop (mkF m 41 #[.val (.int kk), .val (.int vv), .unset, .unset, .unset, .unset, .unset, .unset, .unset, .unset, .unset, .unset, .unset, .unset] [(.ref b3)]))
  refine Goes.st (fun t_ k_ => XS.dup X15.here hx rfl (hb hby at_41) rfl rfl k_) ?_
  show Goes p e below s _ _ _ (T15.setTop (mkF m 42 #[.val (.int kk), .val (.int vv), .unset, .unset, .unset, .unset, .unset, .unset, .unset, .unset, .unset, .unset, .unset, .unset] [(.ref b3), (.ref b3)]))
  refine Goes.st (fun t_ k_ => XS.bipush X15.here hx rfl (hb hby at_42) k_) ?_
  show Goes p e below s _ _ _ (T15.setTop (mkF m 44 #[.val (.int kk), .val (.int vv), .unset, .unset, .unset, .unset, .unset, .unset, .unset, .unset, .unset, .unset, .unset, .unset] [(.int (6 : Int32)), (.ref b3), (.ref b3)]))
  obtain ⟨T16, X16, e16, st16⟩ := getS2 X15 hx hZ hown (host := "") (Or.inl (hw _ (List.mem_of_getElem? (i := 16) rfl))) Via.refl e15 (S_6.ext O0.2) (g := (mkF m 44 #[.val (.int kk), .val (.int vv), .unset, .unset, .unset, .unset, .unset, .unset, .unset, .unset, .unset, .unset, .unset, .unset] [(.int (6 : Int32)), (.ref b3), (.ref b3)])) rfl (hb hby at_44)
  refine Goes.st st16 ?_
  show Goes p e below s _ _ _ (T16.setTop (mkF m 47 #[.val (.int kk), .val (.int vv), .unset, .unset, .unset, .unset, .unset, .unset, .unset, .unset, .unset, .unset, .unset, .unset] [(.ref a_6), (.int (6 : Int32)), (.ref b3), (.ref b3)]))
  obtain ⟨cl17, Ar17, q17, S17, M17, H17, G17⟩ := V_b3
  obtain ⟨T17, h17, X17, e17, W17, st17⟩ := stR X16 hx hZ e16 Ar17 (j := (6 : Int32)) (inb_of S17 ⟨by decide, by decide⟩) rfl (Sto.ofV Ar17 q17 O3 (Ins.self (E_6.ext O0.2))) (g := (mkF m 47 #[.val (.int kk), .val (.int vv), .unset, .unset, .unset, .unset, .unset, .unset, .unset, .unset, .unset, .unset, .unset, .unset] [(.ref a_6), (.int (6 : Int32)), (.ref b3), (.ref b3)])) rfl rfl (hb hby at_47)
  have V_b3 := Arv.set Ar17 q17 S17 M17 H17 G17 rfl W17 6 rfl (Nat.le_of_ble_eq_true rfl)
  refine Goes.st st17 ?_
  have V_b3 : Arv Z h17 b3 k3 (.object "com/example/nestor/nestor/protocol/ApiKey") (27 : Int32) [(.ref a_0), (.ref a_1), (.ref a_2), (.ref a_3), (.ref a_4), (.ref a_5), (.ref a_6), .null, .null, .null, .null, .null, .null, .null, .null, .null, .null, .null, .null, .null, .null, .null, .null, .null, .null, .null, .null] .null := V_b3
  have N17 := Fr.snoc X17 N15 gn_b3
  have Z0'''''''' := Nat.le_trans Z0''''''' (Keep.of_wr W17).1
  have O0 := O0.wr W17 gn_b3
  show Goes p e below s _ _ _ (T17.setTop (mkF m 48 #[.val (.int kk), .val (.int vv), .unset, .unset, .unset, .unset, .unset, .unset, .unset, .unset, .unset, .unset, .unset, .unset] [(.ref b3)]))
  refine Goes.st (fun t_ k_ => XS.dup X17.here hx rfl (hb hby at_48) rfl rfl k_) ?_
  show Goes p e below s _ _ _ (T17.setTop (mkF m 49 #[.val (.int kk), .val (.int vv), .unset, .unset, .unset, .unset, .unset, .unset, .unset, .unset, .unset, .unset, .unset, .unset] [(.ref b3), (.ref b3)]))
  refine Goes.st (fun t_ k_ => XS.bipush X17.here hx rfl (hb hby at_49) k_) ?_
  show Goes p e below s _ _ _ (T17.setTop (mkF m 51 #[.val (.int kk), .val (.int vv), .unset, .unset, .unset, .unset, .unset, .unset, .unset, .unset, .unset, .unset, .unset, .unset] [(.int (7 : Int32)), (.ref b3), (.ref b3)]))
  obtain ⟨T18, X18, e18, st18⟩ := getS2 X17 hx hZ hown (host := "") (Or.inl (hw _ (List.mem_of_getElem? (i := 18) rfl))) Via.refl e17 (S_7.ext O0.2) (g := (mkF m 51 #[.val (.int kk), .val (.int vv), .unset, .unset, .unset, .unset, .unset, .unset, .unset, .unset, .unset, .unset, .unset, .unset] [(.int (7 : Int32)), (.ref b3), (.ref b3)])) rfl (hb hby at_51)
  refine Goes.st st18 ?_
  show Goes p e below s _ _ _ (T18.setTop (mkF m 54 #[.val (.int kk), .val (.int vv), .unset, .unset, .unset, .unset, .unset, .unset, .unset, .unset, .unset, .unset, .unset, .unset] [(.ref a_7), (.int (7 : Int32)), (.ref b3), (.ref b3)]))
  obtain ⟨cl19, Ar19, q19, S19, M19, H19, G19⟩ := V_b3
  obtain ⟨T19, h19, X19, e19, W19, st19⟩ := stR X18 hx hZ e18 Ar19 (j := (7 : Int32)) (inb_of S19 ⟨by decide, by decide⟩) rfl (Sto.ofV Ar19 q19 O3 (Ins.self (E_7.ext O0.2))) (g := (mkF m 54 #[.val (.int kk), .val (.int vv), .unset, .unset, .unset, .unset, .unset, .unset, .unset, .unset, .unset, .unset, .unset, .unset] [(.ref a_7), (.int (7 : Int32)), (.ref b3), (.ref b3)])) rfl rfl (hb hby at_54)
  have V_b3 := Arv.set Ar19 q19 S19 M19 H19 G19 rfl W19 7 rfl (Nat.le_of_ble_eq_true rfl)
  refine Goes.st st19 ?_
  have V_b3 : Arv Z h19 b3 k3 (.object "com/example/nestor/nestor/protocol/ApiKey") (27 : Int32) [(.ref a_0), (.ref a_1), (.ref a_2), (.ref a_3), (.ref a_4), (.ref a_5), (.ref a_6), (.ref a_7), .null, .null, .null, .null, .null, .null, .null, .null, .null, .null, .null, .null, .null, .null, .null, .null, .null, .null, .null] .null := V_b3
  have N19 := Fr.snoc X19 N17 gn_b3
  have Z0''''''''' := Nat.le_trans Z0'''''''' (Keep.of_wr W19).1
  have O0 := O0.wr W19 gn_b3
  show Goes p e below s _ _ _ (T19.setTop (mkF m 55 #[.val (.int kk), .val (.int vv), .unset, .unset, .unset, .unset, .unset, .unset, .unset, .unset, .unset, .unset, .unset, .unset] [(.ref b3)]))
  refine Goes.st (fun t_ k_ => XS.dup X19.here hx rfl (hb hby at_55) rfl rfl k_) ?_
  show Goes p e below s _ _ _ (T19.setTop (mkF m 56 #[.val (.int kk), .val (.int vv), .unset, .unset, .unset, .unset, .unset, .unset, .unset, .unset, .unset, .unset, .unset, .unset] [(.ref b3), (.ref b3)]))
  refine Goes.st (fun t_ k_ => XS.bipush X19.here hx rfl (hb hby at_56) k_) ?_
  show Goes p e below s _ _ _ (T19.setTop (mkF m 58 #[.val (.int kk), .val (.int vv), .unset, .unset, .unset, .unset, .unset, .unset, .unset, .unset, .unset, .unset, .unset, .unset] [(.int (8 : Int32)), (.ref b3), (.ref b3)]))
  obtain ⟨T20, X20, e20, st20⟩ := getS2 X19 hx hZ hown (host := "") (Or.inl (hw _ (List.mem_of_getElem? (i := 20) rfl))) Via.refl e19 (S_8.ext O0.2) (g := (mkF m 58 #[.val (.int kk), .val (.int vv), .unset, .unset, .unset, .unset, .unset, .unset, .unset, .unset, .unset, .unset, .unset, .unset] [(.int (8 : Int32)), (.ref b3), (.ref b3)])) rfl (hb hby at_58)
  refine Goes.st st20 ?_
  show Goes p e below s _ _ _ (T20.setTop (mkF m 61 #[.val (.int kk), .val (.int vv), .unset, .unset, .unset, .unset, .unset, .unset, .unset, .unset, .unset, .unset, .unset, .unset] [(.ref a_8), (.int (8 : Int32)), (.ref b3), (.ref b3)]))
  obtain ⟨cl21, Ar21, q21, S21, M21, H21, G21⟩ := V_b3
  obtain ⟨T21, h21, X21, e21, W21, st21⟩ := stR X20 hx hZ e20 Ar21 (j := (8 : Int32)) (inb_of S21 ⟨by decide, by decide⟩) rfl (Sto.ofV Ar21 q21 O3 (Ins.self (E_8.ext O0.2))) (g := (mkF m 61 #[.val (.int kk), .val (.int vv), .unset, .unset, .unset, .unset, .unset, .unset, .unset, .unset, .unset, .unset, .unset, .unset] [(.ref a_8), (.int (8 : Int32)), (.ref b3), (.ref b3)])) rfl rfl (hb hby at_61)
  have V_b3 := Arv.set Ar21 q21 S21 M21 H21 G21 rfl W21 8 rfl (Nat.le_of_ble_eq_true rfl)
  refine Goes.st st21 ?_
  have V_b3 : Arv Z h21 b3 k3 (.object "com/example/nestor/nestor/protocol/ApiKey") (27 : Int32) [(.ref a_0), (.ref a_1), (.ref a_2), (.ref a_3), (.ref a_4), (.ref a_5), (.ref a_6), (.ref a_7), (.ref a_8), .null, .null, .null, .null, .null, .null, .null, .null, .null, .null, .null, .null, .null, .null, .null, .null, .null, .null] .null := V_b3
  have N21 := Fr.snoc X21 N19 gn_b3
  have Z0'''''''''' := Nat.le_trans Z0''''''''' (Keep.of_wr W21).1
  have O0 := O0.wr W21 gn_b3
  show Goes p e below s _ _ _ (T21.setTop (mkF m 62 #[.val (.int kk), .val (.int vv), .unset, .unset, .unset, .unset, .unset, .unset, .unset, .unset, .unset, .unset, .unset, .unset] [(.ref b3)]))
  refine Goes.st (fun t_ k_ => XS.dup X21.here hx rfl (hb hby at_62) rfl rfl k_) ?_
  show Goes p e below s _ _ _ (T21.setTop (mkF m 63 #[.val (.int kk), .val (.int vv), .unset, .unset, .unset, .unset, .unset, .unset, .unset, .unset, .unset, .unset, .unset, .unset] [(.ref b3), (.ref b3)]))
  refine Goes.st (fun t_ k_ => XS.bipush X21.here hx rfl (hb hby at_63) k_) ?_
  show Goes p e below s _ _ _ (T21.setTop (mkF m 65 #[.val (.int kk), .val (.int vv), .unset, .unset, .unset, .unset, .unset, .unset, .unset, .unset, .unset, .unset, .unset, .unset] [(.int (9 : Int32)), (.ref b3), (.ref b3)]))
  obtain ⟨T22, X22, e22, st22⟩ := getS2 X21 hx hZ hown (host := "") (Or.inl (hw _ (List.mem_of_getElem? (i := 22) rfl))) Via.refl e21 (S_9.ext O0.2) (g := (mkF m 65 #[.val (.int kk), .val (.int vv), .unset, .unset, .unset, .unset, .unset, .unset, .unset, .unset, .unset, .unset, .unset, .unset] [(.int (9 : Int32)), (.ref b3), (.ref b3)])) rfl (hb hby at_65)
  refine Goes.st st22 ?_
  show Goes p e below s _ _ _ (T22.setTop (mkF m 68 #[.val (.int kk), .val (.int vv), .unset, .unset, .unset, .unset, .unset, .unset, .unset, .unset, .unset, .unset, .unset, .unset] [(.ref a_9), (.int (9 : Int32)), (.ref b3), (.ref b3)]))
  obtain ⟨cl23, Ar23, q23, S23, M23, H23, G23⟩ := V_b3
  obtain ⟨T23, h23, X23, e23, W23, st23⟩ := stR X22 hx hZ e22 Ar23 (j := (9 : Int32)) (inb_of S23 ⟨by decide, by decide⟩) rfl (Sto.ofV Ar23 q23 O3 (Ins.self (E_9.ext O0.2))) (g := (mkF m 68 #[.val (.int kk), .val (.int vv), .unset, .unset, .unset, .unset, .unset, .unset, .unset, .unset, .unset, .unset, .unset, .unset] [(.ref a_9), (.int (9 : Int32)), (.ref b3), (.ref b3)])) rfl rfl (hb hby at_68)
  have V_b3 := Arv.set Ar23 q23 S23 M23 H23 G23 rfl W23 9 rfl (Nat.le_of_ble_eq_true rfl)
  refine Goes.st st23 ?_
  have V_b3 : Arv Z h23 b3 k3 (.object "com/example/nestor/nestor/protocol/ApiKey") (27 : Int32) [(.ref a_0), (.ref a_1), (.ref a_2), (.ref a_3), (.ref a_4), (.ref a_5), (.ref a_6), (.ref a_7), (.ref a_8), (.ref a_9), .null, .null, .null, .null, .null, .null, .null, .null, .null, .null, .null, .null, .null, .null, .null, .null, .null] .null := V_b3
  have N23 := Fr.snoc X23 N21 gn_b3
  have Z0''''''''''' := Nat.le_trans Z0'''''''''' (Keep.of_wr W23).1
  have O0 := O0.wr W23 gn_b3
  show Goes p e below s _ _ _ (T23.setTop (mkF m 69 #[.val (.int kk), .val (.int vv), .unset, .unset, .unset, .unset, .unset, .unset, .unset, .unset, .unset, .unset, .unset, .unset] [(.ref b3)]))
  refine Goes.st (fun t_ k_ => XS.dup X23.here hx rfl (hb hby at_69) rfl rfl k_) ?_
  show Goes p e below s _ _ _ (T23.setTop (mkF m 70 #[.val (.int kk), .val (.int vv), .unset, .unset, .unset, .unset, .unset, .unset, .unset, .unset, .unset, .unset, .unset, .unset] [(.ref b3), (.ref b3)]))
  refine Goes.st (fun t_ k_ => XS.bipush X23.here hx rfl (hb hby at_70) k_) ?_
  show Goes p e below s _ _ _ (T23.setTop (mkF m 72 #[.val (.int kk), .val (.int vv), .unset, .unset, .unset, .unset, .unset, .unset, .unset, .unset, .unset, .unset, .unset, .unset] [(.int (10 : Int32)), (.ref b3), (.ref b3)]))
  obtain ⟨T24, X24, e24, st24⟩ := getS2 X23 hx hZ hown (host := "") (Or.inl (hw _ (List.mem_of_getElem? (i := 24) rfl))) Via.refl e23 (S_10.ext O0.2) (g := (mkF m 72 #[.val (.int kk), .val (.int vv), .unset, .unset, .unset, .unset, .unset, .unset, .unset, .unset, .unset, .unset, .unset, .unset] [(.int (10 : Int32)), (.ref b3), (.ref b3)])) rfl (hb hby at_72)
  refine Goes.st st24 ?_
  show Goes p e below s _ _ _ (T24.setTop (mkF m 75 #[.val (.int kk), .val (.int vv), .unset, .unset, .unset, .unset, .unset, .unset, .unset, .unset, .unset, .unset, .unset, .unset] [(.ref a_10), (.int (10 : Int32)), (.ref b3), (.ref b3)]))
  obtain ⟨cl25, Ar25, q25, S25, M25, H25, G25⟩ := V_b3
  obtain ⟨T25, h25, X25, e25, W25, st25⟩ := stR X24 hx hZ e24 Ar25 (j := (10 : Int32)) (inb_of S25 ⟨by decide, by decide⟩) rfl (Sto.ofV Ar25 q25 O3 (Ins.self (E_10.ext O0.2))) (g := (mkF m 75 #[.val (.int kk), .val (.int vv), .unset, .unset, .unset, .unset, .unset, .unset, .unset, .unset, .unset, .unset, .unset, .unset] [(.ref a_10), (.int (10 : Int32)), (.ref b3), (.ref b3)])) rfl rfl (hb hby at_75)
  have V_b3 := Arv.set Ar25 q25 S25 M25 H25 G25 rfl W25 10 rfl (Nat.le_of_ble_eq_true rfl)
  refine Goes.st st25 ?_
  have V_b3 : Arv Z h25 b3 k3 (.object "com/example/nestor/nestor/protocol/ApiKey") (27 : Int32) [(.ref a_0), (.ref a_1), (.ref a_2), (.ref a_3), (.ref a_4), (.ref a_5), (.ref a_6), (.ref a_7), (.ref a_8), (.ref a_9), (.ref a_10), .null, .null, .null, .null, .null, .null, .null, .null, .null, .null, .null, .null, .null, .null, .null, .null] .null := V_b3
  have N25 := Fr.snoc X25 N23 gn_b3
  have Z0'''''''''''' := Nat.le_trans Z0''''''''''' (Keep.of_wr W25).1
  have O0 := O0.wr W25 gn_b3
  show Goes p e below s _ _ _ (T25.setTop (mkF m 76 #[.val (.int kk), .val (.int vv), .unset, .unset, .unset, .unset, .unset, .unset, .unset, .unset, .unset, .unset, .unset, .unset] [(.ref b3)]))
  refine Goes.st (fun t_ k_ => XS.dup X25.here hx rfl (hb hby at_76) rfl rfl k_) ?_
  show Goes p e below s _ _ _ (T25.setTop (mkF m 77 #[.val (.int kk), .val (.int vv), .unset, .unset, .unset, .unset, .unset, .unset, .unset, .unset, .unset, .unset, .unset, .unset] [(.ref b3), (.ref b3)]))
  refine Goes.st (fun t_ k_ => XS.bipush X25.here hx rfl (hb hby at_77) k_) ?_
  show Goes p e below s _ _ _ (T25.setTop (mkF m 79 #[.val (.int kk), .val (.int vv), .unset, .unset, .unset, .unset, .unset, .unset, .unset, .unset, .unset, .unset, .unset, .unset] [(.int (11 : Int32)), (.ref b3), (.ref b3)]))
  obtain ⟨T26, X26, e26, st26⟩ := getS2 X25 hx hZ hown (host := "") (Or.inl (hw _ (List.mem_of_getElem? (i := 26) rfl))) Via.refl e25 (S_11.ext O0.2) (g := (mkF m 79 #[.val (.int kk), .val (.int vv), .unset, .unset, .unset, .unset, .unset, .unset, .unset, .unset, .unset, .unset, .unset, .unset] [(.int (11 : Int32)), (.ref b3), (.ref b3)])) rfl (hb hby at_79)
  refine Goes.st st26 ?_
  show Goes p e below s _ _ _ (T26.setTop (mkF m 82 #[.val (.int kk), .val (.int vv), .unset, .unset, .unset, .unset, .unset, .unset, .unset, .unset, .unset, .unset, .unset, .unset] [(.ref a_11), (.int (11 : Int32)), (.ref b3), (.ref b3)]))
  obtain ⟨cl27, Ar27, q27, S27, M27, H27, G27⟩ := V_b3
  obtain ⟨T27, h27, X27, e27, W27, st27⟩ := stR X26 hx hZ e26 Ar27 (j := (11 : Int32)) (inb_of S27 ⟨by decide, by decide⟩) rfl (Sto.ofV Ar27 q27 O3 (Ins.self (E_11.ext O0.2))) (g := (mkF m 82 #[.val (.int kk), .val (.int vv), .unset, .unset, .unset, .unset, .unset, .unset, .unset, .unset, .unset, .unset, .unset, .unset] [(.ref a_11), (.int (11 : Int32)), (.ref b3), (.ref b3)])) rfl rfl (hb hby at_82)
  have V_b3 := Arv.set Ar27 q27 S27 M27 H27 G27 rfl W27 11 rfl (Nat.le_of_ble_eq_true rfl)
  refine Goes.st st27 ?_
  have V_b3 : Arv Z h27 b3 k3 (.object "com/example/nestor/nestor/protocol/ApiKey") (27 : Int32) [(.ref a_0), (.ref a_1), (.ref a_2), (.ref a_3), (.ref a_4), (.ref a_5), (.ref a_6), (.ref a_7), (.ref a_8), (.ref a_9), (.ref a_10), (.ref a_11), .null, .null, .null, .null, .null, .null, .null, .null, .null, .null, .null, .null, .null, .null, .null] .null := V_b3
  have N27 := Fr.snoc X27 N25 gn_b3
  have Z0''''''''''''' := Nat.le_trans Z0'''''''''''' (Keep.of_wr W27).1
  have O0 := O0.wr W27 gn_b3
  show Goes p e below s _ _ _ (T27.setTop (mkF m 83 #[.val (.int kk), .val (.int vv), .unset, .unset, .unset, .unset, .unset, .unset, .unset, .unset, .unset, .unset, .unset, .unset] [(.ref b3)]))
  refine Goes.st (fun t_ k_ => XS.dup X27.here hx rfl (hb hby at_83) rfl rfl k_) ?_
  show Goes p e below s _ _ _ (T27.setTop (mkF m 84 #[.val (.int kk), .val (.int vv), .unset, .unset, .unset, .unset, .unset, .unset, .unset, .unset, .unset, .unset, .unset, .unset] [(.ref b3), (.ref b3)]))
  refine Goes.st (fun t_ k_ => XS.bipush X27.here hx rfl (hb hby at_84) k_) ?_
  show Goes p e below s _ _ _ (T27.setTop (mkF m 86 #[.val (.int kk), .val (.int vv), .unset, .unset, .unset, .unset, .unset, .unset, .unset, .unset, .unset, .unset, .unset, .unset] [(.int (12 : Int32)), (.ref b3), (.ref b3)]))
  obtain ⟨T28, X28, e28, st28⟩ := getS2 X27 hx hZ hown (host := "") (Or.inl (hw _ (List.mem_of_getElem? (i := 28) rfl))) Via.refl e27 (S_12.ext O0.2) (g := (mkF m 86 #[.val (.int kk), .val (.int vv), .unset, .unset, .unset, .unset, .unset, .unset, .unset, .unset, .unset, .unset, .unset, .unset] [(.int (12 : Int32)), (.ref b3), (.ref b3)])) rfl (hb hby at_86)
  refine Goes.st st28 ?_
  show Goes p e below s _ _ _ (T28.setTop (mkF m 89 #[.val (.int kk), .val (.int vv), .unset, .unset, .unset, .unset, .unset, .unset, .unset, .unset, .unset, .unset, .unset, .unset] [(.ref a_12), (.int (12 : Int32)), (.ref b3), (.ref b3)]))
  obtain ⟨cl29, Ar29, q29, S29, M29, H29, G29⟩ := V_b3
  obtain ⟨T29, h29, X29, e29, W29, st29⟩ := stR X28 hx hZ e28 Ar29 (j := (12 : Int32)) (inb_of S29 ⟨by decide, by decide⟩) rfl (Sto.ofV Ar29 q29 O3 (Ins.self (E_12.ext O0.2))) (g := (mkF m 89 #[.val (.int kk), .val (.int vv), .unset, .unset, .unset, .unset, .unset, .unset, .unset, .unset, .unset, .unset, .unset, .unset] [(.ref a_12), (.int (12 : Int32)), (.ref b3), (.ref b3)])) rfl rfl (hb hby at_89)
  have V_b3 := Arv.set Ar29 q29 S29 M29 H29 G29 rfl W29 12 rfl (Nat.le_of_ble_eq_true rfl)
  refine Goes.st st29 ?_
  have V_b3 : Arv Z h29 b3 k3 (.object "com/example/nestor/nestor/protocol/ApiKey") (27 : Int32) [(.ref a_0), (.ref a_1), (.ref a_2), (.ref a_3), (.ref a_4), (.ref a_5), (.ref a_6), (.ref a_7), (.ref a_8), (.ref a_9), (.ref a_10), (.ref a_11), (.ref a_12), .null, .null, .null, .null, .null, .null, .null, .null, .null, .null, .null, .null, .null, .null] .null := V_b3
  have N29 := Fr.snoc X29 N27 gn_b3
  have Z0'''''''''''''' := Nat.le_trans Z0''''''''''''' (Keep.of_wr W29).1
  have O0 := O0.wr W29 gn_b3
  show Goes p e below s _ _ _ (T29.setTop (mkF m 90 #[.val (.int kk), .val (.int vv), .unset, .unset, .unset, .unset, .unset, .unset, .unset, .unset, .unset, .unset, .unset, .unset] [(.ref b3)]))
  refine Goes.st (fun t_ k_ => XS.dup X29.here hx rfl (hb hby at_90) rfl rfl k_) ?_
  show Goes p e below s _ _ _ (T29.setTop (mkF m 91 #[.val (.int kk), .val (.int vv), .unset, .unset, .unset, .unset, .unset, .unset, .unset, .unset, .unset, .unset, .unset, .unset] [(.ref b3), (.ref b3)]))
  refine Goes.st (fun t_ k_ => XS.bipush X29.here hx rfl (hb hby at_91) k_) ?_
  show Goes p e below s _ _ _ (T29.setTop (mkF m 93 #[.val (.int kk), .val (.int vv), .unset, .unset, .unset, .unset, .unset, .unset, .unset, .unset, .unset, .unset, .unset, .unset] [(.int (13 : Int32)), (.ref b3), (.ref b3)]))
  obtain ⟨T30, X30, e30, st30⟩ := getS2 X29 hx hZ hown (host := "") (Or.inl (hw _ (List.mem_of_getElem? (i := 30) rfl))) Via.refl e29 (S_13.ext O0.2) (g := (mkF m 93 #[.val (.int kk), .val (.int vv), .unset, .unset, .unset, .unset, .unset, .unset, .unset, .unset, .unset, .unset, .unset, .unset] [(.int (13 : Int32)), (.ref b3), (.ref b3)])) rfl (hb hby at_93)
  refine Goes.st st30 ?_
  show Goes p e below s _ _ _ (T30.setTop (mkF m 96 #[.val (.int kk), .val (.int vv), .unset, .unset, .unset, .unset, .unset, .unset, .unset, .unset, .unset, .unset, .unset, .unset] [(.ref a_13), (.int (13 : Int32)), (.ref b3), (.ref b3)]))
  obtain ⟨cl31, Ar31, q31, S31, M31, H31, G31⟩ := V_b3
  obtain ⟨T31, h31, X31, e31, W31, st31⟩ := stR X30 hx hZ e30 Ar31 (j := (13 : Int32)) (inb_of S31 ⟨by decide, by decide⟩) rfl (Sto.ofV Ar31 q31 O3 (Ins.self (E_13.ext O0.2))) (g := (mkF m 96 #[.val (.int kk), .val (.int vv), .unset, .unset, .unset, .unset, .unset, .unset, .unset, .unset, .unset, .unset, .unset, .unset] [(.ref a_13), (.int (13 : Int32)), (.ref b3), (.ref b3)])) rfl rfl (hb hby at_96)
  have V_b3 := Arv.set Ar31 q31 S31 M31 H31 G31 rfl W31 13 rfl (Nat.le_of_ble_eq_true rfl)
  refine Goes.st st31 ?_
  have V_b3 : Arv Z h31 b3 k3 (.object "com/example/nestor/nestor/protocol/ApiKey") (27 : Int32) [(.ref a_0), (.ref a_1), (.ref a_2), (.ref a_3), (.ref a_4), (.ref a_5), (.ref a_6), (.ref a_7), (.ref a_8), (.ref a_9), (.ref a_10), (.ref a_11), (.ref a_12), (.ref a_13), .null, .null, .null, .null, .null, .null, .null, .null, .null, .null, .null, .null, .null] .null := V_b3
  have N31 := Fr.snoc X31 N29 gn_b3
  have Z0''''''''''''''' := Nat.le_trans Z0'''''''''''''' (Keep.of_wr W31).1
  have O0 := O0.wr W31 gn_b3
  show Goes p e below s _ _ _ (T31.setTop (mkF m 97 #[.val (.int kk), .val (.int vv), .unset, .unset, .unset, .unset, .unset, .unset, .unset, .unset, .unset, .unset, .unset, .unset] [(.ref b3)]))
  refine Goes.st (fun t_ k_ => XS.dup X31.here hx rfl (hb hby at_97) rfl rfl k_) ?_
  show Goes p e below s _ _ _ (T31.setTop (mkF m 98 #[.val (.int kk), .val (.int vv), .unset, .unset, .unset, .unset, .unset, .unset, .unset, .unset, .unset, .unset, .unset, .unset] [(.ref b3), (.ref b3)]))
  refine Goes.st (fun t_ k_ => XS.bipush X31.here hx rfl (hb hby at_98) k_) ?_
  show Goes p e below s _ _ _ (T31.setTop (mkF m 100 #[.val (.int kk), .val (.int vv), .unset, .unset, .unset, .unset, .unset, .unset, .unset, .unset, .unset, .unset, .unset, .unset] [(.int (14 : Int32)), (.ref b3), (.ref b3)]))
  obtain ⟨T32, X32, e32, st32⟩ := getS2 X31 hx hZ hown (host := "") (Or.inl (hw _ (List.mem_of_getElem? (i := 32) rfl))) Via.refl e31 (S_14.ext O0.2) (g := (mkF m 100 #[.val (.int kk), .val (.int vv), .unset, .unset, .unset, .unset, .unset, .unset, .unset, .unset, .unset, .unset, .unset, .unset] [(.int (14 : Int32)), (.ref b3), (.ref b3)])) rfl (hb hby at_100)
  refine Goes.st st32 ?_
  show Goes p e below s _ _ _ (T32.setTop (mkF m 103 #[.val (.int kk), .val (.int vv), .unset, .unset, .unset, .unset, .unset, .unset, .unset, .unset, .unset, .unset, .unset, .unset] [(.ref a_14), (.int (14 : Int32)), (.ref b3), (.ref b3)]))
  obtain ⟨cl33, Ar33, q33, S33, M33, H33, G33⟩ := V_b3
  obtain ⟨T33, h33, X33, e33, W33, st33⟩ := stR X32 hx hZ e32 Ar33 (j := (14 : Int32)) (inb_of S33 ⟨by decide, by decide⟩) rfl (Sto.ofV Ar33 q33 O3 (Ins.self (E_14.ext O0.2))) (g := (mkF m 103 #[.val (.int kk), .val (.int vv), .unset, .unset, .unset, .unset, .unset, .unset, .unset, .unset, .unset, .unset, .unset, .unset] [(.ref a_14), (.int (14 : Int32)), (.ref b3), (.ref b3)])) rfl rfl (hb hby at_103)
  have V_b3 := Arv.set Ar33 q33 S33 M33 H33 G33 rfl W33 14 rfl (Nat.le_of_ble_eq_true rfl)
  refine Goes.st st33 ?_
  have V_b3 : Arv Z h33 b3 k3 (.object "com/example/nestor/nestor/protocol/ApiKey") (27 : Int32) [(.ref a_0), (.ref a_1), (.ref a_2), (.ref a_3), (.ref a_4), (.ref a_5), (.ref a_6), (.ref a_7), (.ref a_8), (.ref a_9), (.ref a_10), (.ref a_11), (.ref a_12), (.ref a_13), (.ref a_14), .null, .null, .null, .null, .null, .null, .null, .null, .null, .null, .null, .null] .null := V_b3
  have N33 := Fr.snoc X33 N31 gn_b3
  have Z0'''''''''''''''' := Nat.le_trans Z0''''''''''''''' (Keep.of_wr W33).1
  have O0 := O0.wr W33 gn_b3
  show Goes p e below s _ _ _ (T33.setTop (mkF m 104 #[.val (.int kk), .val (.int vv), .unset, .unset, .unset, .unset, .unset, .unset, .unset, .unset, .unset, .unset, .unset, .unset] [(.ref b3)]))
  refine Goes.st (fun t_ k_ => XS.dup X33.here hx rfl (hb hby at_104) rfl rfl k_) ?_
  show Goes p e below s _ _ _ (T33.setTop (mkF m 105 #[.val (.int kk), .val (.int vv), .unset, .unset, .unset, .unset, .unset, .unset, .unset, .unset, .unset, .unset, .unset, .unset] [(.ref b3), (.ref b3)]))
  refine Goes.st (fun t_ k_ => XS.bipush X33.here hx rfl (hb hby at_105) k_) ?_
  show Goes p e below s _ _ _ (T33.setTop (mkF m 107 #[.val (.int kk), .val (.int vv), .unset, .unset, .unset, .unset, .unset, .unset, .unset, .unset, .unset, .unset, .unset, .unset] [(.int (15 : Int32)), (.ref b3), (.ref b3)]))
  obtain ⟨T34, X34, e34, st34⟩ := getS2 X33 hx hZ hown (host := "") (Or.inl (hw _ (List.mem_of_getElem? (i := 34) rfl))) Via.refl e33 (S_15.ext O0.2) (g := (mkF m 107 #[.val (.int kk), .val (.int vv), .unset, .unset, .unset, .unset, .unset, .unset, .unset, .unset, .unset, .unset, .unset, .unset] [(.int (15 : Int32)), (.ref b3), (.ref b3)])) rfl (hb hby at_107)
  refine Goes.st st34 ?_
  show Goes p e below s _ _ _ (T34.setTop (mkF m 110 #[.val (.int kk), .val (.int vv), .unset, .unset, .unset, .unset, .unset, .unset, .unset, .unset, .unset, .unset, .unset, .unset] [(.ref a_15), (.int (15 : Int32)), (.ref b3), (.ref b3)]))
  obtain ⟨cl35, Ar35, q35, S35, M35, H35, G35⟩ := V_b3
  obtain ⟨T35, h35, X35, e35, W35, st35⟩ := stR X34 hx hZ e34 Ar35 (j := (15 : Int32)) (inb_of S35 ⟨by decide, by decide⟩) rfl (Sto.ofV Ar35 q35 O3 (Ins.self (E_15.ext O0.2))) (g := (mkF m 110 #[.val (.int kk), .val (.int vv), .unset, .unset, .unset, .unset, .unset, .unset, .unset, .unset, .unset, .unset, .unset, .unset] [(.ref a_15), (.int (15 : Int32)), (.ref b3), (.ref b3)])) rfl rfl (hb hby at_110)
  have V_b3 := Arv.set Ar35 q35 S35 M35 H35 G35 rfl W35 15 rfl (Nat.le_of_ble_eq_true rfl)
  refine Goes.st st35 ?_
  have V_b3 : Arv Z h35 b3 k3 (.object "com/example/nestor/nestor/protocol/ApiKey") (27 : Int32) [(.ref a_0), (.ref a_1), (.ref a_2), (.ref a_3), (.ref a_4), (.ref a_5), (.ref a_6), (.ref a_7), (.ref a_8), (.ref a_9), (.ref a_10), (.ref a_11), (.ref a_12), (.ref a_13), (.ref a_14), (.ref a_15), .null, .null, .null, .null, .null, .null, .null, .null, .null, .null, .null] .null := V_b3
  have N35 := Fr.snoc X35 N33 gn_b3
  have Z0''''''''''''''''' := Nat.le_trans Z0'''''''''''''''' (Keep.of_wr W35).1
  have O0 := O0.wr W35 gn_b3
  show Goes p e below s _ _ _ (T35.setTop (mkF m 111 #[.val (.int kk), .val (.int vv), .unset, .unset, .unset, .unset, .unset, .unset, .unset, .unset, .unset, .unset, .unset, .unset] [(.ref b3)]))
  refine Goes.st (fun t_ k_ => XS.dup X35.here hx rfl (hb hby at_111) rfl rfl k_) ?_
  show Goes p e below s _ _ _ (T35.setTop (mkF m 112 #[.val (.int kk), .val (.int vv), .unset, .unset, .unset, .unset, .unset, .unset, .unset, .unset, .unset, .unset, .unset, .unset] [(.ref b3), (.ref b3)]))
  refine Goes.st (fun t_ k_ => XS.bipush X35.here hx rfl (hb hby at_112) k_) ?_
  show Goes p e below s _ _ _ (T35.setTop (mkF m 114 #[.val (.int kk), .val (.int vv), .unset, .unset, .unset, .unset, .unset, .unset, .unset, .unset, .unset, .unset, .unset, .unset] [(.int (16 : Int32)), (.ref b3), (.ref b3)]))
  obtain ⟨T36, X36, e36, st36⟩ := getS2 X35 hx hZ hown (host := "") (Or.inl (hw _ (List.mem_of_getElem? (i := 36) rfl))) Via.refl e35 (S_16.ext O0.2) (g := (mkF m 114 #[.val (.int kk), .val (.int vv), .unset, .unset, .unset, .unset, .unset, .unset, .unset, .unset, .unset, .unset, .unset, .unset] [(.int (16 : Int32)), (.ref b3), (.ref b3)])) rfl (hb hby at_114)
  refine Goes.st st36 ?_
  show Goes p e below s _ _ _ (T36.setTop (mkF m 117 #[.val (.int kk), .val (.int vv), .unset, .unset, .unset, .unset, .unset, .unset, .unset, .unset, .unset, .unset, .unset, .unset] [(.ref a_16), (.int (16 : Int32)), (.ref b3), (.ref b3)]))
  obtain ⟨cl37, Ar37, q37, S37, M37, H37, G37⟩ := V_b3
  obtain ⟨T37, h37, X37, e37, W37, st37⟩ := stR X36 hx hZ e36 Ar37 (j := (16 : Int32)) (inb_of S37 ⟨by decide, by decide⟩) rfl (Sto.ofV Ar37 q37 O3 (Ins.self (E_16.ext O0.2))) (g := (mkF m 117 #[.val (.int kk), .val (.int vv), .unset, .unset, .unset, .unset, .unset, .unset, .unset, .unset, .unset, .unset, .unset, .unset] [(.ref a_16), (.int (16 : Int32)), (.ref b3), (.ref b3)])) rfl rfl (hb hby at_117)
  have V_b3 := Arv.set Ar37 q37 S37 M37 H37 G37 rfl W37 16 rfl (Nat.le_of_ble_eq_true rfl)
  refine Goes.st st37 ?_
  have V_b3 : Arv Z h37 b3 k3 (.object "com/example/nestor/nestor/protocol/ApiKey") (27 : Int32) [(.ref a_0), (.ref a_1), (.ref a_2), (.ref a_3), (.ref a_4), (.ref a_5), (.ref a_6), (.ref a_7), (.ref a_8), (.ref a_9), (.ref a_10), (.ref a_11), (.ref a_12), (.ref a_13), (.ref a_14), (.ref a_15), (.ref a_16), .null, .null, .null, .null, .null, .null, .null, .null, .null, .null] .null := V_b3
  have N37 := Fr.snoc X37 N35 gn_b3
  have Z0'''''''''''''''''' := Nat.le_trans Z0''''''''''''''''' (Keep.of_wr W37).1
  have O0 := O0.wr W37 gn_b3
  show Goes p e below s _ _ _ (T37.setTop (mkF m 118 #[.val (.int kk), .val (.int vv), .unset, .unset, .unset, .unset, .unset, .unset, .unset, .unset, .unset, .unset, .unset, .unset] [(.ref b3)]))
  refine Goes.st (fun t_ k_ => XS.dup X37.here hx rfl (hb hby at_118) rfl rfl k_) ?_
  show Goes p e below s _ _ _ (T37.setTop (mkF m 119 #[.val (.int kk), .val (.int vv), .unset, .unset, .unset, .unset, .unset, .unset, .unset, .unset, .unset, .unset, .unset, .unset] [(.ref b3), (.ref b3)]))
  refine Goes.st (fun t_ k_ => XS.bipush X37.here hx rfl (hb hby at_119) k_) ?_
  show Goes p e below s _ _ _ (T37.setTop (mkF m 121 #[.val (.int kk), .val (.int vv), .unset, .unset, .unset, .unset, .unset, .unset, .unset, .unset, .unset, .unset, .unset, .unset] [(.int (17 : Int32)), (.ref b3), (.ref b3)]))
  obtain ⟨T38, X38, e38, st38⟩ := getS2 X37 hx hZ hown (host := "") (Or.inl (hw _ (List.mem_of_getElem? (i := 38) rfl))) Via.refl e37 (S_17.ext O0.2) (g := (mkF m 121 #[.val (.int kk), .val (.int vv), .unset, .unset, .unset, .unset, .unset, .unset, .unset, .unset, .unset, .unset, .unset, .unset] [(.int (17 : Int32)), (.ref b3), (.ref b3)])) rfl (hb hby at_121)
  refine Goes.st st38 ?_
  show Goes p e below s _ _ _ (T38.setTop (mkF m 124 #[.val (.int kk), .val (.int vv), .unset, .unset, .unset, .unset, .unset, .unset, .unset, .unset, .unset, .unset, .unset, .unset] [(.ref a_17), (.int (17 : Int32)), (.ref b3), (.ref b3)]))
  obtain ⟨cl39, Ar39, q39, S39, M39, H39, G39⟩ := V_b3
  obtain ⟨T39, h39, X39, e39, W39, st39⟩ := stR X38 hx hZ e38 Ar39 (j := (17 : Int32)) (inb_of S39 ⟨by decide, by decide⟩) rfl (Sto.ofV Ar39 q39 O3 (Ins.self (E_17.ext O0.2))) (g := (mkF m 124 #[.val (.int kk), .val (.int vv), .unset, .unset, .unset, .unset, .unset, .unset, .unset, .unset, .unset, .unset, .unset, .unset] [(.ref a_17), (.int (17 : Int32)), (.ref b3), (.ref b3)])) rfl rfl (hb hby at_124)
  have V_b3 := Arv.set Ar39 q39 S39 M39 H39 G39 rfl W39 17 rfl (Nat.le_of_ble_eq_true rfl)
  refine Goes.st st39 ?_
  have V_b3 : Arv Z h39 b3 k3 (.object "com/example/nestor/nestor/protocol/ApiKey") (27 : Int32) [(.ref a_0), (.ref a_1), (.ref a_2), (.ref a_3), (.ref a_4), (.ref a_5), (.ref a_6), (.ref a_7), (.ref a_8), (.ref a_9), (.ref a_10), (.ref a_11), (.ref a_12), (.ref a_13), (.ref a_14), (.ref a_15), (.ref a_16), (.ref a_17), .null, .null, .null, .null, .null, .null, .null, .null, .null] .null := V_b3
  have N39 := Fr.snoc X39 N37 gn_b3
  have Z0''''''''''''''''''' := Nat.le_trans Z0'''''''''''''''''' (Keep.of_wr W39).1
  have O0 := O0.wr W39 gn_b3
  show Goes p e below s _ _ _ (T39.setTop (mkF m 125 #[.val (.int kk), .val (.int vv), .unset, .unset, .unset, .unset, .unset, .unset, .unset, .unset, .unset, .unset, .unset, .unset] [(.ref b3)]))
  refine Goes.st (fun t_ k_ => XS.dup X39.here hx rfl (hb hby at_125) rfl rfl k_) ?_
  show Goes p e below s _ _ _ (T39.setTop (mkF m 126 #[.val (.int kk), .val (.int vv), .unset, .unset, .unset, .unset, .unset, .unset, .unset, .unset, .unset, .unset, .unset, .unset] [(.ref b3), (.ref b3)]))
  refine Goes.st (fun t_ k_ => XS.bipush X39.here hx rfl (hb hby at_126) k_) ?_
  show Goes p e below s _ _ _ (T39.setTop (mkF m 128 #[.val (.int kk), .val (.int vv), .unset, .unset, .unset, .unset, .unset, .unset, .unset, .unset, .unset, .unset, .unset, .unset] [(.int (18 : Int32)), (.ref b3), (.ref b3)]))
  obtain ⟨T40, X40, e40, st40⟩ := getS2 X39 hx hZ hown (host := "") (Or.inl (hw _ (List.mem_of_getElem? (i := 40) rfl))) Via.refl e39 (S_18.ext O0.2) (g := (mkF m 128 #[.val (.int kk), .val (.int vv), .unset, .unset, .unset, .unset, .unset, .unset, .unset, .unset, .unset, .unset, .unset, .unset] [(.int (18 : Int32)), (.ref b3), (.ref b3)])) rfl (hb hby at_128)
  refine Goes.st st40 ?_
  show Goes p e below s _ _ _ (T40.setTop (mkF m 131 #[.val (.int kk), .val (.int vv), .unset, .unset, .unset, .unset, .unset, .unset, .unset, .unset, .unset, .unset, .unset, .unset] [(.ref a_18), (.int (18 : Int32)), (.ref b3), (.ref b3)]))
  obtain ⟨cl41, Ar41, q41, S41, M41, H41, G41⟩ := V_b3
  obtain ⟨T41, h41, X41, e41, W41, st41⟩ := stR X40 hx hZ e40 Ar41 (j := (18 : Int32)) (inb_of S41 ⟨by decide, by decide⟩) rfl (Sto.ofV Ar41 q41 O3 (Ins.self (E_18.ext O0.2))) (g := (mkF m 131 #[.val (.int kk), .val (.int vv), .unset, .unset, .unset, .unset, .unset, .unset, .unset, .unset, .unset, .unset, .unset, .unset] [(.ref a_18), (.int (18 : Int32)), (.ref b3), (.ref b3)])) rfl rfl (hb hby at_131)
  have V_b3 := Arv.set Ar41 q41 S41 M41 H41 G41 rfl W41 18 rfl (Nat.le_of_ble_eq_true rfl)
  refine Goes.st st41 ?_
  have V_b3 : Arv Z h41 b3 k3 (.object "com/example/nestor/nestor/protocol/ApiKey") (27 : Int32) [(.ref a_0), (.ref a_1), (.ref a_2), (.ref a_3), (.ref a_4), (.ref a_5), (.ref a_6), (.ref a_7), (.ref a_8), (.ref a_9), (.ref a_10), (.ref a_11), (.ref a_12), (.ref a_13), (.ref a_14), (.ref a_15), (.ref a_16), (.ref a_17), (.ref a_18), .null, .null, .null, .null, .null, .null, .null, .null] .null := V_b3
  have N41 := Fr.snoc X41 N39 gn_b3
  have Z0'''''''''''''''''''' := Nat.le_trans Z0''''''''''''''''''' (Keep.of_wr W41).1
  have O0 := O0.wr W41 gn_b3
  show Goes p e below s _ _ _ (T41.setTop (mkF m 132 #[.val (.int kk), .val (.int vv), .unset, .unset, .unset, .unset, .unset, .unset, .unset, .unset, .unset, .unset, .unset, .unset] [(.ref b3)]))
  refine Goes.st (fun t_ k_ => XS.dup X41.here hx rfl (hb hby at_132) rfl rfl k_) ?_
  show Goes p e below s _ _ _ (T41.setTop (mkF m 133 #[.val (.int kk), .val (.int vv), .unset, .unset, .unset, .unset, .unset, .unset, .unset, .unset, .unset, .unset, .unset, .unset] [(.ref b3), (.ref b3)]))
  refine Goes.st (fun t_ k_ => XS.bipush X41.here hx rfl (hb hby at_133) k_) ?_
  show Goes p e below s _ _ _ (T41.setTop (mkF m 135 #[.val (.int kk), .val (.int vv), .unset, .unset, .unset, .unset, .unset, .unset, .unset, .unset, .unset, .unset, .unset, .unset] [(.int (19 : Int32)), (.ref b3), (.ref b3)]))
  obtain ⟨T42, X42, e42, st42⟩ := getS2 X41 hx hZ hown (host := "") (Or.inl (hw _ (List.mem_of_getElem? (i := 42) rfl))) Via.refl e41 (S_19.ext O0.2) (g := (mkF m 135 #[.val (.int kk), .val (.int vv), .unset, .unset, .unset, .unset, .unset, .unset, .unset, .unset, .unset, .unset, .unset, .unset] [(.int (19 : Int32)), (.ref b3), (.ref b3)])) rfl (hb hby at_135)
  refine Goes.st st42 ?_
  show Goes p e below s _ _ _ (T42.setTop (mkF m 138 #[.val (.int kk), .val (.int vv), .unset, .unset, .unset, .unset, .unset, .unset, .unset, .unset, .unset, .unset, .unset, .unset] [(.ref a_19), (.int (19 : Int32)), (.ref b3), (.ref b3)]))
  obtain ⟨cl43, Ar43, q43, S43, M43, H43, G43⟩ := V_b3
  obtain ⟨T43, h43, X43, e43, W43, st43⟩ := stR X42 hx hZ e42 Ar43 (j := (19 : Int32)) (inb_of S43 ⟨by decide, by decide⟩) rfl (Sto.ofV Ar43 q43 O3 (Ins.self (E_19.ext O0.2))) (g := (mkF m 138 #[.val (.int kk), .val (.int vv), .unset, .unset, .unset, .unset, .unset, .unset, .unset, .unset, .unset, .unset, .unset, .unset] [(.ref a_19), (.int (19 : Int32)), (.ref b3), (.ref b3)])) rfl rfl (hb hby at_138)
  have V_b3 := Arv.set Ar43 q43 S43 M43 H43 G43 rfl W43 19 rfl (Nat.le_of_ble_eq_true rfl)
  refine Goes.st st43 ?_
  have V_b3 : Arv Z h43 b3 k3 (.object "com/example/nestor/nestor/protocol/ApiKey") (27 : Int32) [(.ref a_0), (.ref a_1), (.ref a_2), (.ref a_3), (.ref a_4), (.ref a_5), (.ref a_6), (.ref a_7), (.ref a_8), (.ref a_9), (.ref a_10), (.ref a_11), (.ref a_12), (.ref a_13), (.ref a_14), (.ref a_15), (.ref a_16), (.ref a_17), (.ref a_18), (.ref a_19), .null, .null, .null, .null, .null, .null, .null] .null := V_b3
  have N43 := Fr.snoc X43 N41 gn_b3
  have Z0''''''''''''''''''''' := Nat.le_trans Z0'''''''''''''''''''' (Keep.of_wr W43).1
  have O0 := O0.wr W43 gn_b3
  show Goes p e below s _ _ _ (T43.setTop (mkF m 139 #[.val (.int kk), .val (.int vv), .unset, .unset, .unset, .unset, .unset, .unset, .unset, .unset, .unset, .unset, .unset, .unset] [(.ref b3)]))
  refine Goes.st (fun t_ k_ => XS.dup X43.here hx rfl (hb hby at_139) rfl rfl k_) ?_
  show Goes p e below s _ _ _ (T43.setTop (mkF m 140 #[.val (.int kk), .val (.int vv), .unset, .unset, .unset, .unset, .unset, .unset, .unset, .unset, .unset, .unset, .unset, .unset] [(.ref b3), (.ref b3)]))
  refine Goes.st (fun t_ k_ => XS.bipush X43.here hx rfl (hb hby at_140) k_) ?_
  show Goes p e below s _ _ _ (T43.setTop (mkF m 142 #[.val (.int kk), .val (.int vv), .unset, .unset, .unset, .unset, .unset, .unset, .unset, .unset, .unset, .unset, .unset, .unset] [(.int (20 : Int32)), (.ref b3), (.ref b3)]))
  obtain ⟨T44, X44, e44, st44⟩ := getS2 X43 hx hZ hown (host := "") (Or.inl (hw _ (List.mem_of_getElem? (i := 44) rfl))) Via.refl e43 (S_20.ext O0.2) (g := (mkF m 142 #[.val (.int kk), .val (.int vv), .unset, .unset, .unset, .unset, .unset, .unset, .unset, .unset, .unset, .unset, .unset, .unset] [(.int (20 : Int32)), (.ref b3), (.ref b3)])) rfl (hb hby at_142)
  refine Goes.st st44 ?_
  show Goes p e below s _ _ _ (T44.setTop (mkF m 145 #[.val (.int kk), .val (.int vv), .unset, .unset, .unset, .unset, .unset, .unset, .unset, .unset, .unset, .unset, .unset, .unset] [(.ref a_20), (.int (20 : Int32)), (.ref b3), (.ref b3)]))
  obtain ⟨cl45, Ar45, q45, S45, M45, H45, G45⟩ := V_b3
  obtain ⟨T45, h45, X45, e45, W45, st45⟩ := stR X44 hx hZ e44 Ar45 (j := (20 : Int32)) (inb_of S45 ⟨by decide, by decide⟩) rfl (Sto.ofV Ar45 q45 O3 (Ins.self (E_20.ext O0.2))) (g := (mkF m 145 #[.val (.int kk), .val (.int vv), .unset, .unset, .unset, .unset, .unset, .unset, .unset, .unset, .unset, .unset, .unset, .unset] [(.ref a_20), (.int (20 : Int32)), (.ref b3), (.ref b3)])) rfl rfl (hb hby at_145)
  have V_b3 := Arv.set Ar45 q45 S45 M45 H45 G45 rfl W45 20 rfl (Nat.le_of_ble_eq_true rfl)
  refine Goes.st st45 ?_
  have V_b3 : Arv Z h45 b3 k3 (.object "com/example/nestor/nestor/protocol/ApiKey") (27 : Int32) [(.ref a_0), (.ref a_1), (.ref a_2), (.ref a_3), (.ref a_4), (.ref a_5), (.ref a_6), (.ref a_7), (.ref a_8), (.ref a_9), (.ref a_10), (.ref a_11), (.ref a_12), (.ref a_13), (.ref a_14), (.ref a_15), (.ref a_16), (.ref a_17), (.ref a_18), (.ref a_19), (.ref a_20), .null, .null, .null, .null, .null, .null] .null := V_b3
  have N45 := Fr.snoc X45 N43 gn_b3
  have Z0'''''''''''''''''''''' := Nat.le_trans Z0''''''''''''''''''''' (Keep.of_wr W45).1
  have O0 := O0.wr W45 gn_b3
  show Goes p e below s _ _ _ (T45.setTop (mkF m 146 #[.val (.int kk), .val (.int vv), .unset, .unset, .unset, .unset, .unset, .unset, .unset, .unset, .unset, .unset, .unset, .unset] [(.ref b3)]))
  refine Goes.st (fun t_ k_ => XS.dup X45.here hx rfl (hb hby at_146) rfl rfl k_) ?_
  show Goes p e below s _ _ _ (T45.setTop (mkF m 147 #[.val (.int kk), .val (.int vv), .unset, .unset, .unset, .unset, .unset, .unset, .unset, .unset, .unset, .unset, .unset, .unset] [(.ref b3), (.ref b3)]))
  refine Goes.st (fun t_ k_ => XS.bipush X45.here hx rfl (hb hby at_147) k_) ?_
  show Goes p e below s _ _ _ (T45.setTop (mkF m 149 #[.val (.int kk), .val (.int vv), .unset, .unset, .unset, .unset, .unset, .unset, .unset, .unset, .unset, .unset, .unset, .unset] [(.int (21 : Int32)), (.ref b3), (.ref b3)]))
  obtain ⟨T46, X46, e46, st46⟩ := getS2 X45 hx hZ hown (host := "") (Or.inl (hw _ (List.mem_of_getElem? (i := 46) rfl))) Via.refl e45 (S_21.ext O0.2) (g := (mkF m 149 #[.val (.int kk), .val (.int vv), .unset, .unset, .unset, .unset, .unset, .unset, .unset, .unset, .unset, .unset, .unset, .unset] [(.int (21 : Int32)), (.ref b3), (.ref b3)])) rfl (hb hby at_149)
  refine Goes.st st46 ?_
  show Goes p e below s _ _ _ (T46.setTop (mkF m 152 #[.val (.int kk), .val (.int vv), .unset, .unset, .unset, .unset, .unset, .unset, .unset, .unset, .unset, .unset, .unset, .unset] [(.ref a_21), (.int (21 : Int32)), (.ref b3), (.ref b3)]))
  obtain ⟨cl47, Ar47, q47, S47, M47, H47, G47⟩ := V_b3
  obtain ⟨T47, h47, X47, e47, W47, st47⟩ := stR X46 hx hZ e46 Ar47 (j := (21 : Int32)) (inb_of S47 ⟨by decide, by decide⟩) rfl (Sto.ofV Ar47 q47 O3 (Ins.self (E_21.ext O0.2))) (g := (mkF m 152 #[.val (.int kk), .val (.int vv), .unset, .unset, .unset, .unset, .unset, .unset, .unset, .unset, .unset, .unset, .unset, .unset] [(.ref a_21), (.int (21 : Int32)), (.ref b3), (.ref b3)])) rfl rfl (hb hby at_152)
  have V_b3 := Arv.set Ar47 q47 S47 M47 H47 G47 rfl W47 21 rfl (Nat.le_of_ble_eq_true rfl)
  refine Goes.st st47 ?_
  have V_b3 : Arv Z h47 b3 k3 (.object "com/example/nestor/nestor/protocol/ApiKey") (27 : Int32) [(.ref a_0), (.ref a_1), (.ref a_2), (.ref a_3), (.ref a_4), (.ref a_5), (.ref a_6), (.ref a_7), (.ref a_8), (.ref a_9), (.ref a_10), (.ref a_11), (.ref a_12), (.ref a_13), (.ref a_14), (.ref a_15), (.ref a_16), (.ref a_17), (.ref a_18), (.ref a_19), (.ref a_20), (.ref a_21), .null, .null, .null, .null, .null] .null := V_b3
  have N47 := Fr.snoc X47 N45 gn_b3
  have Z0''''''''''''''''''''''' := Nat.le_trans Z0'''''''''''''''''''''' (Keep.of_wr W47).1
  have O0 := O0.wr W47 gn_b3
  show Goes p e below s _ _ _ (T47.setTop (mkF m 153 #[.val (.int kk), .val (.int vv), .unset, .unset, .unset, .unset, .unset, .unset, .unset, .unset, .unset, .unset, .unset, .unset] [(.ref b3)]))
  refine Goes.st (fun t_ k_ => XS.dup X47.here hx rfl (hb hby at_153) rfl rfl k_) ?_
  show Goes p e below s _ _ _ (T47.setTop (mkF m 154 #[.val (.int kk), .val (.int vv), .unset, .unset, .unset, .unset, .unset, .unset, .unset, .unset, .unset, .unset, .unset, .unset] [(.ref b3), (.ref b3)]))
  refine Goes.st (fun t_ k_ => XS.bipush X47.here hx rfl (hb hby at_154) k_) ?_
  show Goes p e below s _ _ _ (T47.setTop (mkF m 156 #[.val (.int kk), .val (.int vv), .unset, .unset, .unset, .unset, .unset, .unset, .unset, .unset, .unset, .unset, .unset, .unset] [(.int (22 : Int32)), (.ref b3), (.ref b3)]))
  obtain ⟨T48, X48, e48, st48⟩ := getS2 X47 hx hZ hown (host := "") (Or.inl (hw _ (List.mem_of_getElem? (i := 48) rfl))) Via.refl e47 (S_22.ext O0.2) (g := (mkF m 156 #[.val (.int kk), .val (.int vv), .unset, .unset, .unset, .unset, .unset, .unset, .unset, .unset, .unset, .unset, .unset, .unset] [(.int (22 : Int32)), (.ref b3), (.ref b3)])) rfl (hb hby at_156)
  refine Goes.st st48 ?_
  show Goes p e below s _ _ _ (T48.setTop (mkF m 159 #[.val (.int kk), .val (.int vv), .unset, .unset, .unset, .unset, .unset, .unset, .unset, .unset, .unset, .unset, .unset, .unset] [(.ref a_22), (.int (22 : Int32)), (.ref b3), (.ref b3)]))
  obtain ⟨cl49, Ar49, q49, S49, M49, H49, G49⟩ := V_b3
  obtain ⟨T49, h49, X49, e49, W49, st49⟩ := stR X48 hx hZ e48 Ar49 (j := (22 : Int32)) (inb_of S49 ⟨by decide, by decide⟩) rfl (Sto.ofV Ar49 q49 O3 (Ins.self (E_22.ext O0.2))) (g := (mkF m 159 #[.val (.int kk), .val (.int vv), .unset, .unset, .unset, .unset, .unset, .unset, .unset, .unset, .unset, .unset, .unset, .unset] [(.ref a_22), (.int (22 : Int32)), (.ref b3), (.ref b3)])) rfl rfl (hb hby at_159)
  have V_b3 := Arv.set Ar49 q49 S49 M49 H49 G49 rfl W49 22 rfl (Nat.le_of_ble_eq_true rfl)
  refine Goes.st st49 ?_
  have V_b3 : Arv Z h49 b3 k3 (.object "com/example/nestor/nestor/protocol/ApiKey") (27 : Int32) [(.ref a_0), (.ref a_1), (.ref a_2), (.ref a_3), (.ref a_4), (.ref a_5), (.ref a_6), (.ref a_7), (.ref a_8), (.ref a_9), (.ref a_10), (.ref a_11), (.ref a_12), (.ref a_13), (.ref a_14), (.ref a_15), (.ref a_16), (.ref a_17), (.ref a_18), (.ref a_19), (.ref a_20), (.ref a_21), (.ref a_22), .null, .null, .null, .null] .null := V_b3
  have N49 := Fr.snoc X49 N47 gn_b3
  have Z0'''''''''''''''''''''''' := Nat.le_trans Z0''''''''''''''''''''''' (Keep.of_wr W49).1
  have O0 := O0.wr W49 gn_b3
  show Goes p e below s _ _ _ (T49.setTop (mkF m 160 #[.val (.int kk), .val (.int vv), .unset, .unset, .unset, .unset, .unset, .unset, .unset, .unset, .unset, .unset, .unset, .unset] [(.ref b3)]))
  refine Goes.st (fun t_ k_ => XS.dup X49.here hx rfl (hb hby at_160) rfl rfl k_) ?_
  show Goes p e below s _ _ _ (T49.setTop (mkF m 161 #[.val (.int kk), .val (.int vv), .unset, .unset, .unset, .unset, .unset, .unset, .unset, .unset, .unset, .unset, .unset, .unset] [(.ref b3), (.ref b3)]))
  refine Goes.st (fun t_ k_ => XS.bipush X49.here hx rfl (hb hby at_161) k_) ?_
  show Goes p e below s _ _ _ (T49.setTop (mkF m 163 #[.val (.int kk), .val (.int vv), .unset, .unset, .unset, .unset, .unset, .unset, .unset, .unset, .unset, .unset, .unset, .unset] [(.int (23 : Int32)), (.ref b3), (.ref b3)]))
  obtain ⟨T50, X50, e50, st50⟩ := getS2 X49 hx hZ hown (host := "") (Or.inl (hw _ (List.mem_of_getElem? (i := 50) rfl))) Via.refl e49 (S_23.ext O0.2) (g := (mkF m 163 #[.val (.int kk), .val (.int vv), .unset, .unset, .unset, .unset, .unset, .unset, .unset, .unset, .unset, .unset, .unset, .unset] [(.int (23 : Int32)), (.ref b3), (.ref b3)])) rfl (hb hby at_163)
  refine Goes.st st50 ?_
  show Goes p e below s _ _ _ (T50.setTop (mkF m 166 #[.val (.int kk), .val (.int vv), .unset, .unset, .unset, .unset, .unset, .unset, .unset, .unset, .unset, .unset, .unset, .unset] [(.ref a_23), (.int (23 : Int32)), (.ref b3), (.ref b3)]))
  obtain ⟨cl51, Ar51, q51, S51, M51, H51, G51⟩ := V_b3
  obtain ⟨T51, h51, X51, e51, W51, st51⟩ := stR X50 hx hZ e50 Ar51 (j := (23 : Int32)) (inb_of S51 ⟨by decide, by decide⟩) rfl (Sto.ofV Ar51 q51 O3 (Ins.self (E_23.ext O0.2))) (g := (mkF m 166 #[.val (.int kk), .val (.int vv), .unset, .unset, .unset, .unset, .unset, .unset, .unset, .unset, .unset, .unset, .unset, .unset] [(.ref a_23), (.int (23 : Int32)), (.ref b3), (.ref b3)])) rfl rfl (hb hby at_166)
  have V_b3 := Arv.set Ar51 q51 S51 M51 H51 G51 rfl W51 23 rfl (Nat.le_of_ble_eq_true rfl)
  refine Goes.st st51 ?_
  have V_b3 : Arv Z h51 b3 k3 (.object "com/example/nestor/nestor/protocol/ApiKey") (27 : Int32) [(.ref a_0), (.ref a_1), (.ref a_2), (.ref a_3), (.ref a_4), (.ref a_5), (.ref a_6), (.ref a_7), (.ref a_8), (.ref a_9), (.ref a_10), (.ref a_11), (.ref a_12), (.ref a_13), (.ref a_14), (.ref a_15), (.ref a_16), (.ref a_17), (.ref a_18), (.ref a_19), (.ref a_20), (.ref a_21), (.ref a_22), (.ref a_23), .null, .null, .null] .null := V_b3
  have N51 := Fr.snoc X51 N49 gn_b3
  have Z0''''''''''''''''''''''''' := Nat.le_trans Z0'''''''''''''''''''''''' (Keep.of_wr W51).1
  have O0 := O0.wr W51 gn_b3
  show Goes p e below s _ _ _ (T51.setTop (mkF m 167 #[.val (.int kk), .val (.int vv), .unset, .unset, .unset, .unset, .unset, .unset, .unset, .unset, .unset, .unset, .unset, .unset] [(.ref b3)]))
  refine Goes.st (fun t_ k_ => XS.dup X51.here hx rfl (hb hby at_167) rfl rfl k_) ?_
  show Goes p e below s _ _ _ (T51.setTop (mkF m 168 #[.val (.int kk), .val (.int vv), .unset, .unset, .unset, .unset, .unset, .unset, .unset, .unset, .unset, .unset, .unset, .unset] [(.ref b3), (.ref b3)]))
  refine Goes.st (fun t_ k_ => XS.bipush X51.here hx rfl (hb hby at_168) k_) ?_
  show Goes p e below s _ _ _ (T51.setTop (mkF m 170 #[.val (.int kk), .val (.int vv), .unset, .unset, .unset, .unset, .unset, .unset, .unset, .unset, .unset, .unset, .unset, .unset] [(.int (24 : Int32)), (.ref b3), (.ref b3)]))
  obtain ⟨T52, X52, e52, st52⟩ := getS2 X51 hx hZ hown (host := "") (Or.inl (hw _ (List.mem_of_getElem? (i := 52) rfl))) Via.refl e51 (S_24.ext O0.2) (g := (mkF m 170 #[.val (.int kk), .val (.int vv), .unset, .unset, .unset, .unset, .unset, .unset, .unset, .unset, .unset, .unset, .unset, .unset] [(.int (24 : Int32)), (.ref b3), (.ref b3)])) rfl (hb hby at_170)
  refine Goes.st st52 ?_
  show Goes p e below s _ _ _ (T52.setTop (mkF m 173 #[.val (.int kk), .val (.int vv), .unset, .unset, .unset, .unset, .unset, .unset, .unset, .unset, .unset, .unset, .unset, .unset] [(.ref a_24), (.int (24 : Int32)), (.ref b3), (.ref b3)]))
  obtain ⟨cl53, Ar53, q53, S53, M53, H53, G53⟩ := V_b3
  obtain ⟨T53, h53, X53, e53, W53, st53⟩ := stR X52 hx hZ e52 Ar53 (j := (24 : Int32)) (inb_of S53 ⟨by decide, by decide⟩) rfl (Sto.ofV Ar53 q53 O3 (Ins.self (E_24.ext O0.2))) (g := (mkF m 173 #[.val (.int kk), .val (.int vv), .unset, .unset, .unset, .unset, .unset, .unset, .unset, .unset, .unset, .unset, .unset, .unset] [(.ref a_24), (.int (24 : Int32)), (.ref b3), (.ref b3)])) rfl rfl (hb hby at_173)
  have V_b3 := Arv.set Ar53 q53 S53 M53 H53 G53 rfl W53 24 rfl (Nat.le_of_ble_eq_true rfl)
  refine Goes.st st53 ?_
  have V_b3 : Arv Z h53 b3 k3 (.object "com/example/nestor/nestor/protocol/ApiKey") (27 : Int32) [(.ref a_0), (.ref a_1), (.ref a_2), (.ref a_3), (.ref a_4), (.ref a_5), (.ref a_6), (.ref a_7), (.ref a_8), (.ref a_9), (.ref a_10), (.ref a_11), (.ref a_12), (.ref a_13), (.ref a_14), (.ref a_15), (.ref a_16), (.ref a_17), (.ref a_18), (.ref a_19), (.ref a_20), (.ref a_21), (.ref a_22), (.ref a_23), (.ref a_24), .null, .null] .null := V_b3
  have N53 := Fr.snoc X53 N51 gn_b3
  have Z0'''''''''''''''''''''''''' := Nat.le_trans Z0''''''''''''''''''''''''' (Keep.of_wr W53).1
  have O0 := O0.wr W53 gn_b3
  show Goes p e below s _ _ _ (T53.setTop (mkF m 174 #[.val (.int kk), .val (.int vv), .unset, .unset, .unset, .unset, .unset, .unset, .unset, .unset, .unset, .unset, .unset, .unset] [(.ref b3)]))
  refine Goes.st (fun t_ k_ => XS.dup X53.here hx rfl (hb hby at_174) rfl rfl k_) ?_
  show Goes p e below s _ _ _ (T53.setTop (mkF m 175 #[.val (.int kk), .val (.int vv), .unset, .unset, .unset, .unset, .unset, .unset, .unset, .unset, .unset, .unset, .unset, .unset] [(.ref b3), (.ref b3)]))
  refine Goes.st (fun t_ k_ => XS.bipush X53.here hx rfl (hb hby at_175) k_) ?_
  show Goes p e below s _ _ _ (T53.setTop (mkF m 177 #[.val (.int kk), .val (.int vv), .unset, .unset, .unset, .unset, .unset, .unset, .unset, .unset, .unset, .unset, .unset, .unset] [(.int (25 : Int32)), (.ref b3), (.ref b3)]))
  obtain ⟨T54, X54, e54, st54⟩ := getS2 X53 hx hZ hown (host := "") (Or.inl (hw _ (List.mem_of_getElem? (i := 54) rfl))) Via.refl e53 (S_25.ext O0.2) (g := (mkF m 177 #[.val (.int kk), .val (.int vv), .unset, .unset, .unset, .unset, .unset, .unset, .unset, .unset, .unset, .unset, .unset, .unset] [(.int (25 : Int32)), (.ref b3), (.ref b3)])) rfl (hb hby at_177)
  refine Goes.st st54 ?_
  show Goes p e below s _ _ _ (T54.setTop (mkF m 180 #[.val (.int kk), .val (.int vv), .unset, .unset, .unset, .unset, .unset, .unset, .unset, .unset, .unset, .unset, .unset, .unset] [(.ref a_25), (.int (25 : Int32)), (.ref b3), (.ref b3)]))
  obtain ⟨cl55, Ar55, q55, S55, M55, H55, G55⟩ := V_b3
  obtain ⟨T55, h55, X55, e55, W55, st55⟩ := stR X54 hx hZ e54 Ar55 (j := (25 : Int32)) (inb_of S55 ⟨by decide, by decide⟩) rfl (Sto.ofV Ar55 q55 O3 (Ins.self (E_25.ext O0.2))) (g := (mkF m 180 #[.val (.int kk), .val (.int vv), .unset, .unset, .unset, .unset, .unset, .unset, .unset, .unset, .unset, .unset, .unset, .unset] [(.ref a_25), (.int (25 : Int32)), (.ref b3), (.ref b3)])) rfl rfl (hb hby at_180)
  have V_b3 := Arv.set Ar55 q55 S55 M55 H55 G55 rfl W55 25 rfl (Nat.le_of_ble_eq_true rfl)
  refine Goes.st st55 ?_
  have V_b3 : Arv Z h55 b3 k3 (.object "com/example/nestor/nestor/protocol/ApiKey") (27 : Int32) [(.ref a_0), (.ref a_1), (.ref a_2), (.ref a_3), (.ref a_4), (.ref a_5), (.ref a_6), (.ref a_7), (.ref a_8), (.ref a_9), (.ref a_10), (.ref a_11), (.ref a_12), (.ref a_13), (.ref a_14), (.ref a_15), (.ref a_16), (.ref a_17), (.ref a_18), (.ref a_19), (.ref a_20), (.ref a_21), (.ref a_22), (.ref a_23), (.ref a_24), (.ref a_25), .null] .null := V_b3
  have N55 := Fr.snoc X55 N53 gn_b3
  have Z0''''''''''''''''''''''''''' := Nat.le_trans Z0'''''''''''''''''''''''''' (Keep.of_wr W55).1
  have O0 := O0.wr W55 gn_b3
  show Goes p e below s _ _ _ (T55.setTop (mkF m 181 #[.val (.int kk), .val (.int vv), .unset, .unset, .unset, .unset, .unset, .unset, .unset, .unset, .unset, .unset, .unset, .unset] [(.ref b3)]))
  refine Goes.st (fun t_ k_ => XS.dup X55.here hx rfl (hb hby at_181) rfl rfl k_) ?_
  show Goes p e below s _ _ _ (T55.setTop (mkF m 182 #[.val (.int kk), .val (.int vv), .unset, .unset, .unset, .unset, .unset, .unset, .unset, .unset, .unset, .unset, .unset, .unset] [(.ref b3), (.ref b3)]))
  refine Goes.st (fun t_ k_ => XS.bipush X55.here hx rfl (hb hby at_182) k_) ?_
  show Goes p e below s _ _ _ (T55.setTop (mkF m 184 #[.val (.int kk), .val (.int vv), .unset, .unset, .unset, .unset, .unset, .unset, .unset, .unset, .unset, .unset, .unset, .unset] [(.int (26 : Int32)), (.ref b3), (.ref b3)]))
  obtain ⟨T56, X56, e56, st56⟩ := getS2 X55 hx hZ hown (host := "") (Or.inl (hw _ (List.mem_of_getElem? (i := 56) rfl))) Via.refl e55 (S_26.ext O0.2) (g := (mkF m 184 #[.val (.int kk), .val (.int vv), .unset, .unset, .unset, .unset, .unset, .unset, .unset, .unset, .unset, .unset, .unset, .unset] [(.int (26 : Int32)), (.ref b3), (.ref b3)])) rfl (hb hby at_184)
  refine Goes.st st56 ?_
  show Goes p e below s _ _ _ (T56.setTop (mkF m 187 #[.val (.int kk), .val (.int vv), .unset, .unset, .unset, .unset, .unset, .unset, .unset, .unset, .unset, .unset, .unset, .unset] [(.ref a_26), (.int (26 : Int32)), (.ref b3), (.ref b3)]))
  obtain ⟨cl57, Ar57, q57, S57, M57, H57, G57⟩ := V_b3
  obtain ⟨T57, h57, X57, e57, W57, st57⟩ := stR X56 hx hZ e56 Ar57 (j := (26 : Int32)) (inb_of S57 ⟨by decide, by decide⟩) rfl (Sto.ofV Ar57 q57 O3 (Ins.self (E_26.ext O0.2))) (g := (mkF m 187 #[.val (.int kk), .val (.int vv), .unset, .unset, .unset, .unset, .unset, .unset, .unset, .unset, .unset, .unset, .unset, .unset] [(.ref a_26), (.int (26 : Int32)), (.ref b3), (.ref b3)])) rfl rfl (hb hby at_187)
  have V_b3 := Arv.set Ar57 q57 S57 M57 H57 G57 rfl W57 26 rfl (Nat.le_of_ble_eq_true rfl)
  refine Goes.st st57 ?_
  have V_b3 : Arv Z h57 b3 k3 (.object "com/example/nestor/nestor/protocol/ApiKey") (27 : Int32) [(.ref a_0), (.ref a_1), (.ref a_2), (.ref a_3), (.ref a_4), (.ref a_5), (.ref a_6), (.ref a_7), (.ref a_8), (.ref a_9), (.ref a_10), (.ref a_11), (.ref a_12), (.ref a_13), (.ref a_14), (.ref a_15), (.ref a_16), (.ref a_17), (.ref a_18), (.ref a_19), (.ref a_20), (.ref a_21), (.ref a_22), (.ref a_23), (.ref a_24), (.ref a_25), (.ref a_26)] .null := V_b3
  have N57 := Fr.snoc X57 N55 gn_b3
  have Z0'''''''''''''''''''''''''''' := Nat.le_trans Z0''''''''''''''''''''''''''' (Keep.of_wr W57).1
  have O0 := O0.wr W57 gn_b3
  show Goes p e below s _ _ _ (T57.setTop (mkF m 188 #[.val (.int kk), .val (.int vv), .unset, .unset, .unset, .unset, .unset, .unset, .unset, .unset, .unset, .unset, .unset, .unset] [(.ref b3)]))
  refine Goes.st (fun t_ k_ => XS.astoreN X57.here hx rfl (hb hby at_188) rfl rfl (l' := #[.val (.int kk), .val (.int vv), .val (.ref b3), .unset, .unset, .unset, .unset, .unset, .unset, .unset, .unset, .unset, .unset, .unset]) rfl k_) ?_
  show Goes p e below s _ _ _ (T57.setTop (mkF m 189 #[.val (.int kk), .val (.int vv), .val (.ref b3), .unset, .unset, .unset, .unset, .unset, .unset, .unset, .unset, .unset, .unset, .unset] []))
  refine Goes.st (fun t_ k_ => XS.bipush X57.here hx rfl (hb hby at_189) k_) ?_
  show Goes p e below s _ _ _ (T57.setTop (mkF m 191 #[.val (.int kk), .val (.int vv), .val (.ref b3), .unset, .unset, .unset, .unset, .unset, .unset, .unset, .unset, .unset, .unset, .unset] [(.int (27 : Int32))]))
  obtain ⟨T58, h58, k58, X58, e58, E58, A58, st58⟩ := newP X57 hx hZ (hw _ (List.mem_of_getElem? (i := 58) rfl)) e57 (g := (mkF m 191 #[.val (.int kk), .val (.int vv), .val (.ref b3), .unset, .unset, .unset, .unset, .unset, .unset, .unset, .unset, .unset, .unset, .unset] [(.int (27 : Int32))])) rfl (hb hby at_191) rfl (by decide) (cap := 27) (by decide) (by decide) (by decide) (by decide)
  obtain ⟨b58, g58⟩ : ∃ z, z = h57.size := ⟨_, rfl⟩
  rw [← g58] at A58 st58
  have ne_b3_b58 : b3 ≠ b58 := Nat.ne_of_lt (Nat.lt_of_lt_of_le V_b3.lt (Nat.le_of_eq g58.symm))
  have gn_b58 : n0 ≤ b58 := Nat.le_trans Z0'''''''''''''''''''''''''''' (Nat.le_of_eq g58.symm)
  refine Goes.st st58 ?_
  have V_b3 := V_b3.ext E58
  have Z0''''''''''''''''''''''''''''' := Nat.le_trans Z0'''''''''''''''''''''''''''' E58.1
  have O0 := O0.ext E58
  have V_b58 : Arv Z h58 b58 k58 .int (27 : Int32) [(.int (0 : Int32)), (.int (0 : Int32)), (.int (0 : Int32)), (.int (0 : Int32)), (.int (0 : Int32)), (.int (0 : Int32)), (.int (0 : Int32)), (.int (0 : Int32)), (.int (0 : Int32)), (.int (0 : Int32)), (.int (0 : Int32)), (.int (0 : Int32)), (.int (0 : Int32)), (.int (0 : Int32)), (.int (0 : Int32)), (.int (0 : Int32)), (.int (0 : Int32)), (.int (0 : Int32)), (.int (0 : Int32)), (.int (0 : Int32)), (.int (0 : Int32)), (.int (0 : Int32)), (.int (0 : Int32)), (.int (0 : Int32)), (.int (0 : Int32)), (.int (0 : Int32)), (.int (0 : Int32))] (.int (0 : Int32)) := (Arv.new A58 (by decide)).pad (pad_rep [] (.int (0 : Int32)) 27)
  show Goes p e below s _ _ _ (T58.setTop (mkF m 193 #[.val (.int kk), .val (.int vv), .val (.ref b3), .unset, .unset, .unset, .unset, .unset, .unset, .unset, .unset, .unset, .unset, .unset] [(.ref b58)]))
  refine Goes.st (fun t_ k_ => XS.dup X58.here hx rfl (hb hby at_193) rfl rfl k_) ?_
  show Goes p e below s _ _ _ (T58.setTop (mkF m 194 #[.val (.int kk), .val (.int vv), .val (.ref b3), .unset, .unset, .unset, .unset, .unset, .unset, .unset, .unset, .unset, .unset, .unset] [(.ref b58), (.ref b58)]))
  refine Goes.st (fun t_ k_ => XS.iconst X58.here hx rfl (hb hby at_194) k_) ?_
  show Goes p e below s _ _ _ (T58.setTop (mkF m 195 #[.val (.int kk), .val (.int vv), .val (.ref b3), .unset, .unset, .unset, .unset, .unset, .unset, .unset, .unset, .unset, .unset, .unset] [(.int (0 : Int32)), (.ref b58), (.ref b58)]))
  refine Goes.st (fun t_ k_ => XS.iconst X58.here hx rfl (hb hby at_195) k_) ?_
  show Goes p e below s _ _ _ (T58.setTop (mkF m 196 #[.val (.int kk), .val (.int vv), .val (.ref b3), .unset, .unset, .unset, .unset, .unset, .unset, .unset, .unset, .unset, .unset, .unset] [(.int (0 : Int32)), (.int (0 : Int32)), (.ref b58), (.ref b58)]))
  obtain ⟨cl59, Ar59, q59, S59, M59, H59, G59⟩ := V_b58
  obtain ⟨T59, h59, X59, e59, W59, st59⟩ := stI X58 hx hZ e58 Ar59 (j := (0 : Int32)) (inb_of S59 ⟨by decide, by decide⟩) (g := (mkF m 196 #[.val (.int kk), .val (.int vv), .val (.ref b3), .unset, .unset, .unset, .unset, .unset, .unset, .unset, .unset, .unset, .unset, .unset] [(.int (0 : Int32)), (.int (0 : Int32)), (.ref b58), (.ref b58)])) rfl rfl (hb hby at_196)
  have V_b58 := Arv.set Ar59 q59 S59 M59 H59 G59 rfl W59 0 rfl (Nat.le_of_ble_eq_true rfl)
  refine Goes.st st59 ?_
  have V_b58 : Arv Z h59 b58 k58 .int (27 : Int32) [(.int (0 : Int32)), (.int (0 : Int32)), (.int (0 : Int32)), (.int (0 : Int32)), (.int (0 : Int32)), (.int (0 : Int32)), (.int (0 : Int32)), (.int (0 : Int32)), (.int (0 : Int32)), (.int (0 : Int32)), (.int (0 : Int32)), (.int (0 : Int32)), (.int (0 : Int32)), (.int (0 : Int32)), (.int (0 : Int32)), (.int (0 : Int32)), (.int (0 : Int32)), (.int (0 : Int32)), (.int (0 : Int32)), (.int (0 : Int32)), (.int (0 : Int32)), (.int (0 : Int32)), (.int (0 : Int32)), (.int (0 : Int32)), (.int (0 : Int32)), (.int (0 : Int32)), (.int (0 : Int32))] (.int (0 : Int32)) := V_b58
  have V_b3 := V_b3.other W59 ne_b3_b58
  have N59 := Fr.snoc X59 N57 gn_b58
  have Z0'''''''''''''''''''''''''''''' := Nat.le_trans Z0''''''''''''''''''''''''''''' (Keep.of_wr W59).1
  have O0 := O0.wr W59 gn_b58
  show Goes p e below s _ _ _ (T59.setTop (mkF m 197 #[.val (.int kk), .val (.int vv), .val (.ref b3), .unset, .unset, .unset, .unset, .unset, .unset, .unset, .unset, .unset, .unset, .unset] [(.ref b58)]))
  refine Goes.st (fun t_ k_ => XS.dup X59.here hx rfl (hb hby at_197) rfl rfl k_) ?_
  show Goes p e below s _ _ _ (T59.setTop (mkF m 198 #[.val (.int kk), .val (.int vv), .val (.ref b3), .unset, .unset, .unset, .unset, .unset, .unset, .unset, .unset, .unset, .unset, .unset] [(.ref b58), (.ref b58)]))
  refine Goes.st (fun t_ k_ => XS.iconst X59.here hx rfl (hb hby at_198) k_) ?_
  show Goes p e below s _ _ _ (T59.setTop (mkF m 199 #[.val (.int kk), .val (.int vv), .val (.ref b3), .unset, .unset, .unset, .unset, .unset, .unset, .unset, .unset, .unset, .unset, .unset] [(.int (1 : Int32)), (.ref b58), (.ref b58)]))
  refine Goes.st (fun t_ k_ => XS.iconst X59.here hx rfl (hb hby at_199) k_) ?_
  show Goes p e below s _ _ _ (T59.setTop (mkF m 200 #[.val (.int kk), .val (.int vv), .val (.ref b3), .unset, .unset, .unset, .unset, .unset, .unset, .unset, .unset, .unset, .unset, .unset] [(.int (4 : Int32)), (.int (1 : Int32)), (.ref b58), (.ref b58)]))
  obtain ⟨cl60, Ar60, q60, S60, M60, H60, G60⟩ := V_b58
  obtain ⟨T60, h60, X60, e60, W60, st60⟩ := stI X59 hx hZ e59 Ar60 (j := (1 : Int32)) (inb_of S60 ⟨by decide, by decide⟩) (g := (mkF m 200 #[.val (.int kk), .val (.int vv), .val (.ref b3), .unset, .unset, .unset, .unset, .unset, .unset, .unset, .unset, .unset, .unset, .unset] [(.int (4 : Int32)), (.int (1 : Int32)), (.ref b58), (.ref b58)])) rfl rfl (hb hby at_200)
  have V_b58 := Arv.set Ar60 q60 S60 M60 H60 G60 rfl W60 1 rfl (Nat.le_of_ble_eq_true rfl)
  refine Goes.st st60 ?_
  have V_b58 : Arv Z h60 b58 k58 .int (27 : Int32) [(.int (0 : Int32)), (.int (4 : Int32)), (.int (0 : Int32)), (.int (0 : Int32)), (.int (0 : Int32)), (.int (0 : Int32)), (.int (0 : Int32)), (.int (0 : Int32)), (.int (0 : Int32)), (.int (0 : Int32)), (.int (0 : Int32)), (.int (0 : Int32)), (.int (0 : Int32)), (.int (0 : Int32)), (.int (0 : Int32)), (.int (0 : Int32)), (.int (0 : Int32)), (.int (0 : Int32)), (.int (0 : Int32)), (.int (0 : Int32)), (.int (0 : Int32)), (.int (0 : Int32)), (.int (0 : Int32)), (.int (0 : Int32)), (.int (0 : Int32)), (.int (0 : Int32)), (.int (0 : Int32))] (.int (0 : Int32)) := V_b58
  have V_b3 := V_b3.other W60 ne_b3_b58
  have N60 := Fr.snoc X60 N59 gn_b58
  have Z0''''''''''''''''''''''''''''''' := Nat.le_trans Z0'''''''''''''''''''''''''''''' (Keep.of_wr W60).1
  have O0 := O0.wr W60 gn_b58
  show Goes p e below s _ _ _ (T60.setTop (mkF m 201 #[.val (.int kk), .val (.int vv), .val (.ref b3), .unset, .unset, .unset, .unset, .unset, .unset, .unset, .unset, .unset, .unset, .unset] [(.ref b58)]))
  refine Goes.st (fun t_ k_ => XS.dup X60.here hx rfl (hb hby at_201) rfl rfl k_) ?_
  show Goes p e below s _ _ _ (T60.setTop (mkF m 202 #[.val (.int kk), .val (.int vv), .val (.ref b3), .unset, .unset, .unset, .unset, .unset, .unset, .unset, .unset, .unset, .unset, .unset] [(.ref b58), (.ref b58)]))
  refine Goes.st (fun t_ k_ => XS.iconst X60.here hx rfl (hb hby at_202) k_) ?_
  show Goes p e below s _ _ _ (T60.setTop (mkF m 203 #[.val (.int kk), .val (.int vv), .val (.ref b3), .unset, .unset, .unset, .unset, .unset, .unset, .unset, .unset, .unset, .unset, .unset] [(.int (2 : Int32)), (.ref b58), (.ref b58)]))
  refine Goes.st (fun t_ k_ => XS.iconst X60.here hx rfl (hb hby at_203) k_) ?_
  show Goes p e below s _ _ _ (T60.setTop (mkF m 204 #[.val (.int kk), .val (.int vv), .val (.ref b3), .unset, .unset, .unset, .unset, .unset, .unset, .unset, .unset, .unset, .unset, .unset] [(.int (1 : Int32)), (.int (2 : Int32)), (.ref b58), (.ref b58)]))
  obtain ⟨cl61, Ar61, q61, S61, M61, H61, G61⟩ := V_b58
  obtain ⟨T61, h61, X61, e61, W61, st61⟩ := stI X60 hx hZ e60 Ar61 (j := (2 : Int32)) (inb_of S61 ⟨by decide, by decide⟩) (g := (mkF m 204 #[.val (.int kk), .val (.int vv), .val (.ref b3), .unset, .unset, .unset, .unset, .unset, .unset, .unset, .unset, .unset, .unset, .unset] [(.int (1 : Int32)), (.int (2 : Int32)), (.ref b58), (.ref b58)])) rfl rfl (hb hby at_204)
  have V_b58 := Arv.set Ar61 q61 S61 M61 H61 G61 rfl W61 2 rfl (Nat.le_of_ble_eq_true rfl)
  refine Goes.st st61 ?_
  have V_b58 : Arv Z h61 b58 k58 .int (27 : Int32) [(.int (0 : Int32)), (.int (4 : Int32)), (.int (1 : Int32)), (.int (0 : Int32)), (.int (0 : Int32)), (.int (0 : Int32)), (.int (0 : Int32)), (.int (0 : Int32)), (.int (0 : Int32)), (.int (0 : Int32)), (.int (0 : Int32)), (.int (0 : Int32)), (.int (0 : Int32)), (.int (0 : Int32)), (.int (0 : Int32)), (.int (0 : Int32)), (.int (0 : Int32)), (.int (0 : Int32)), (.int (0 : Int32)), (.int (0 : Int32)), (.int (0 : Int32)), (.int (0 : Int32)), (.int (0 : Int32)), (.int (0 : Int32)), (.int (0 : Int32)), (.int (0 : Int32)), (.int (0 : Int32))] (.int (0 : Int32)) := V_b58
  have V_b3 := V_b3.other W61 ne_b3_b58
  have N61 := Fr.snoc X61 N60 gn_b58
  have Z0'''''''''''''''''''''''''''''''' := Nat.le_trans Z0''''''''''''''''''''''''''''''' (Keep.of_wr W61).1
  have O0 := O0.wr W61 gn_b58
  show Goes p e below s _ _ _ (T61.setTop (mkF m 205 #[.val (.int kk), .val (.int vv), .val (.ref b3), .unset, .unset, .unset, .unset, .unset, .unset, .unset, .unset, .unset, .unset, .unset] [(.ref b58)]))
  refine Goes.st (fun t_ k_ => XS.dup X61.here hx rfl (hb hby at_205) rfl rfl k_) ?_
  show Goes p e below s _ _ _ (T61.setTop (mkF m 206 #[.val (.int kk), .val (.int vv), .val (.ref b3), .unset, .unset, .unset, .unset, .unset, .unset, .unset, .unset, .unset, .unset, .unset] [(.ref b58), (.ref b58)]))
  refine Goes.st (fun t_ k_ => XS.iconst X61.here hx rfl (hb hby at_206) k_) ?_
  show Goes p e below s _ _ _ (T61.setTop (mkF m 207 #[.val (.int kk), .val (.int vv), .val (.ref b3), .unset, .unset, .unset, .unset, .unset, .unset, .unset, .unset, .unset, .unset, .unset] [(.int (3 : Int32)), (.ref b58), (.ref b58)]))
  refine Goes.st (fun t_ k_ => XS.iconst X61.here hx rfl (hb hby at_207) k_) ?_
  show Goes p e below s _ _ _ (T61.setTop (mkF m 208 #[.val (.int kk), .val (.int vv), .val (.ref b3), .unset, .unset, .unset, .unset, .unset, .unset, .unset, .unset, .unset, .unset, .unset] [(.int (0 : Int32)), (.int (3 : Int32)), (.ref b58), (.ref b58)]))
  obtain ⟨cl62, Ar62, q62, S62, M62, H62, G62⟩ := V_b58
  obtain ⟨T62, h62, X62, e62, W62, st62⟩ := stI X61 hx hZ e61 Ar62 (j := (3 : Int32)) (inb_of S62 ⟨by decide, by decide⟩) (g := (mkF m 208 #[.val (.int kk), .val (.int vv), .val (.ref b3), .unset, .unset, .unset, .unset, .unset, .unset, .unset, .unset, .unset, .unset, .unset] [(.int (0 : Int32)), (.int (3 : Int32)), (.ref b58), (.ref b58)])) rfl rfl (hb hby at_208)
  have V_b58 := Arv.set Ar62 q62 S62 M62 H62 G62 rfl W62 3 rfl (Nat.le_of_ble_eq_true rfl)
  refine Goes.st st62 ?_
  have V_b58 : Arv Z h62 b58 k58 .int (27 : Int32) [(.int (0 : Int32)), (.int (4 : Int32)), (.int (1 : Int32)), (.int (0 : Int32)), (.int (0 : Int32)), (.int (0 : Int32)), (.int (0 : Int32)), (.int (0 : Int32)), (.int (0 : Int32)), (.int (0 : Int32)), (.int (0 : Int32)), (.int (0 : Int32)), (.int (0 : Int32)), (.int (0 : Int32)), (.int (0 : Int32)), (.int (0 : Int32)), (.int (0 : Int32)), (.int (0 : Int32)), (.int (0 : Int32)), (.int (0 : Int32)), (.int (0 : Int32)), (.int (0 : Int32)), (.int (0 : Int32)), (.int (0 : Int32)), (.int (0 : Int32)), (.int (0 : Int32)), (.int (0 : Int32))] (.int (0 : Int32)) := V_b58
  have V_b3 := V_b3.other W62 ne_b3_b58
  have N62 := Fr.snoc X62 N61 gn_b58
  have Z0''''''''''''''''''''''''''''''''' := Nat.le_trans Z0'''''''''''''''''''''''''''''''' (Keep.of_wr W62).1
  have O0 := O0.wr W62 gn_b58
  show Goes p e below s _ _ _ (T62.setTop (mkF m 209 #[.val (.int kk), .val (.int vv), .val (.ref b3), .unset, .unset, .unset, .unset, .unset, .unset, .unset, .unset, .unset, .unset, .unset] [(.ref b58)]))
  refine Goes.st (fun t_ k_ => XS.dup X62.here hx rfl (hb hby at_209) rfl rfl k_) ?_
  show Goes p e below s _ _ _ (T62.setTop (mkF m 210 #[.val (.int kk), .val (.int vv), .val (.ref b3), .unset, .unset, .unset, .unset, .unset, .unset, .unset, .unset, .unset, .unset, .unset] [(.ref b58), (.ref b58)]))
  refine Goes.st (fun t_ k_ => XS.iconst X62.here hx rfl (hb hby at_210) k_) ?_
  show Goes p e below s _ _ _ (T62.setTop (mkF m 211 #[.val (.int kk), .val (.int vv), .val (.ref b3), .unset, .unset, .unset, .unset, .unset, .unset, .unset, .unset, .unset, .unset, .unset] [(.int (4 : Int32)), (.ref b58), (.ref b58)]))
  refine Goes.st (fun t_ k_ => XS.iconst X62.here hx rfl (hb hby at_211) k_) ?_
  show Goes p e below s _ _ _ (T62.setTop (mkF m 212 #[.val (.int kk), .val (.int vv), .val (.ref b3), .unset, .unset, .unset, .unset, .unset, .unset, .unset, .unset, .unset, .unset, .unset] [(.int (1 : Int32)), (.int (4 : Int32)), (.ref b58), (.ref b58)]))
  obtain ⟨cl63, Ar63, q63, S63, M63, H63, G63⟩ := V_b58
  obtain ⟨T63, h63, X63, e63, W63, st63⟩ := stI X62 hx hZ e62 Ar63 (j := (4 : Int32)) (inb_of S63 ⟨by decide, by decide⟩) (g := (mkF m 212 #[.val (.int kk), .val (.int vv), .val (.ref b3), .unset, .unset, .unset, .unset, .unset, .unset, .unset, .unset, .unset, .unset, .unset] [(.int (1 : Int32)), (.int (4 : Int32)), (.ref b58), (.ref b58)])) rfl rfl (hb hby at_212)
  have V_b58 := Arv.set Ar63 q63 S63 M63 H63 G63 rfl W63 4 rfl (Nat.le_of_ble_eq_true rfl)
  refine Goes.st st63 ?_
  have V_b58 : Arv Z h63 b58 k58 .int (27 : Int32) [(.int (0 : Int32)), (.int (4 : Int32)), (.int (1 : Int32)), (.int (0 : Int32)), (.int (1 : Int32)), (.int (0 : Int32)), (.int (0 : Int32)), (.int (0 : Int32)), (.int (0 : Int32)), (.int (0 : Int32)), (.int (0 : Int32)), (.int (0 : Int32)), (.int (0 : Int32)), (.int (0 : Int32)), (.int (0 : Int32)), (.int (0 : Int32)), (.int (0 : Int32)), (.int (0 : Int32)), (.int (0 : Int32)), (.int (0 : Int32)), (.int (0 : Int32)), (.int (0 : Int32)), (.int (0 : Int32)), (.int (0 : Int32)), (.int (0 : Int32)), (.int (0 : Int32)), (.int (0 : Int32))] (.int (0 : Int32)) := V_b58
  have V_b3 := V_b3.other W63 ne_b3_b58
  have N63 := Fr.snoc X63 N62 gn_b58
  have Z0'''''''''''''''''''''''''''''''''' := Nat.le_trans Z0''''''''''''''''''''''''''''''''' (Keep.of_wr W63).1
  have O0 := O0.wr W63 gn_b58
  show Goes p e below s _ _ _ (T63.setTop (mkF m 213 #[.val (.int kk), .val (.int vv), .val (.ref b3), .unset, .unset, .unset, .unset, .unset, .unset, .unset, .unset, .unset, .unset, .unset] [(.ref b58)]))
  refine Goes.st (fun t_ k_ => XS.dup X63.here hx rfl (hb hby at_213) rfl rfl k_) ?_
  show Goes p e below s _ _ _ (T63.setTop (mkF m 214 #[.val (.int kk), .val (.int vv), .val (.ref b3), .unset, .unset, .unset, .unset, .unset, .unset, .unset, .unset, .unset, .unset, .unset] [(.ref b58), (.ref b58)]))
  refine Goes.st (fun t_ k_ => XS.iconst X63.here hx rfl (hb hby at_214) k_) ?_
  show Goes p e below s _ _ _ (T63.setTop (mkF m 215 #[.val (.int kk), .val (.int vv), .val (.ref b3), .unset, .unset, .unset, .unset, .unset, .unset, .unset, .unset, .unset, .unset, .unset] [(.int (5 : Int32)), (.ref b58), (.ref b58)]))
  refine Goes.st (fun t_ k_ => XS.iconst X63.here hx rfl (hb hby at_215) k_) ?_
  show Goes p e below s _ _ _ (T63.setTop (mkF m 216 #[.val (.int kk), .val (.int vv), .val (.ref b3), .unset, .unset, .unset, .unset, .unset, .unset, .unset, .unset, .unset, .unset, .unset] [(.int (1 : Int32)), (.int (5 : Int32)), (.ref b58), (.ref b58)]))
  obtain ⟨cl64, Ar64, q64, S64, M64, H64, G64⟩ := V_b58
  obtain ⟨T64, h64, X64, e64, W64, st64⟩ := stI X63 hx hZ e63 Ar64 (j := (5 : Int32)) (inb_of S64 ⟨by decide, by decide⟩) (g := (mkF m 216 #[.val (.int kk), .val (.int vv), .val (.ref b3), .unset, .unset, .unset, .unset, .unset, .unset, .unset, .unset, .unset, .unset, .unset] [(.int (1 : Int32)), (.int (5 : Int32)), (.ref b58), (.ref b58)])) rfl rfl (hb hby at_216)
  have V_b58 := Arv.set Ar64 q64 S64 M64 H64 G64 rfl W64 5 rfl (Nat.le_of_ble_eq_true rfl)
  refine Goes.st st64 ?_
  have V_b58 : Arv Z h64 b58 k58 .int (27 : Int32) [(.int (0 : Int32)), (.int (4 : Int32)), (.int (1 : Int32)), (.int (0 : Int32)), (.int (1 : Int32)), (.int (1 : Int32)), (.int (0 : Int32)), (.int (0 : Int32)), (.int (0 : Int32)), (.int (0 : Int32)), (.int (0 : Int32)), (.int (0 : Int32)), (.int (0 : Int32)), (.int (0 : Int32)), (.int (0 : Int32)), (.int (0 : Int32)), (.int (0 : Int32)), (.int (0 : Int32)), (.int (0 : Int32)), (.int (0 : Int32)), (.int (0 : Int32)), (.int (0 : Int32)), (.int (0 : Int32)), (.int (0 : Int32)), (.int (0 : Int32)), (.int (0 : Int32)), (.int (0 : Int32))] (.int (0 : Int32)) := V_b58
  have V_b3 := V_b3.other W64 ne_b3_b58
  have N64 := Fr.snoc X64 N63 gn_b58
  have Z0''''''''''''''''''''''''''''''''''' := Nat.le_trans Z0'''''''''''''''''''''''''''''''''' (Keep.of_wr W64).1
  have O0 := O0.wr W64 gn_b58
  show Goes p e below s _ _ _ (T64.setTop (mkF m 217 #[.val (.int kk), .val (.int vv), .val (.ref b3), .unset, .unset, .unset, .unset, .unset, .unset, .unset, .unset, .unset, .unset, .unset] [(.ref b58)]))
  refine Goes.st (fun t_ k_ => XS.dup X64.here hx rfl (hb hby at_217) rfl rfl k_) ?_
  show Goes p e below s _ _ _ (T64.setTop (mkF m 218 #[.val (.int kk), .val (.int vv), .val (.ref b3), .unset, .unset, .unset, .unset, .unset, .unset, .unset, .unset, .unset, .unset, .unset] [(.ref b58), (.ref b58)]))
  refine Goes.st (fun t_ k_ => XS.bipush X64.here hx rfl (hb hby at_218) k_) ?_
  show Goes p e below s _ _ _ (T64.setTop (mkF m 220 #[.val (.int kk), .val (.int vv), .val (.ref b3), .unset, .unset, .unset, .unset, .unset, .unset, .unset, .unset, .unset, .unset, .unset] [(.int (6 : Int32)), (.ref b58), (.ref b58)]))
  refine Goes.st (fun t_ k_ => XS.iconst X64.here hx rfl (hb hby at_220) k_) ?_
  show Goes p e below s _ _ _ (T64.setTop (mkF m 221 #[.val (.int kk), .val (.int vv), .val (.ref b3), .unset, .unset, .unset, .unset, .unset, .unset, .unset, .unset, .unset, .unset, .unset] [(.int (0 : Int32)), (.int (6 : Int32)), (.ref b58), (.ref b58)]))
  obtain ⟨cl65, Ar65, q65, S65, M65, H65, G65⟩ := V_b58
  obtain ⟨T65, h65, X65, e65, W65, st65⟩ := stI X64 hx hZ e64 Ar65 (j := (6 : Int32)) (inb_of S65 ⟨by decide, by decide⟩) (g := (mkF m 221 #[.val (.int kk), .val (.int vv), .val (.ref b3), .unset, .unset, .unset, .unset, .unset, .unset, .unset, .unset, .unset, .unset, .unset] [(.int (0 : Int32)), (.int (6 : Int32)), (.ref b58), (.ref b58)])) rfl rfl (hb hby at_221)
  have V_b58 := Arv.set Ar65 q65 S65 M65 H65 G65 rfl W65 6 rfl (Nat.le_of_ble_eq_true rfl)
  refine Goes.st st65 ?_
  have V_b58 : Arv Z h65 b58 k58 .int (27 : Int32) [(.int (0 : Int32)), (.int (4 : Int32)), (.int (1 : Int32)), (.int (0 : Int32)), (.int (1 : Int32)), (.int (1 : Int32)), (.int (0 : Int32)), (.int (0 : Int32)), (.int (0 : Int32)), (.int (0 : Int32)), (.int (0 : Int32)), (.int (0 : Int32)), (.int (0 : Int32)), (.int (0 : Int32)), (.int (0 : Int32)), (.int (0 : Int32)), (.int (0 : Int32)), (.int (0 : Int32)), (.int (0 : Int32)), (.int (0 : Int32)), (.int (0 : Int32)), (.int (0 : Int32)), (.int (0 : Int32)), (.int (0 : Int32)), (.int (0 : Int32)), (.int (0 : Int32)), (.int (0 : Int32))] (.int (0 : Int32)) := V_b58
  have V_b3 := V_b3.other W65 ne_b3_b58
  have N65 := Fr.snoc X65 N64 gn_b58
  have Z0'''''''''''''''''''''''''''''''''''' := Nat.le_trans Z0''''''''''''''''''''''''''''''''''' (Keep.of_wr W65).1
  have O0 := O0.wr W65 gn_b58
  show Goes p e below s _ _ _ (T65.setTop (mkF m 222 #[.val (.int kk), .val (.int vv), .val (.ref b3), .unset, .unset, .unset, .unset, .unset, .unset, .unset, .unset, .unset, .unset, .unset] [(.ref b58)]))
  refine Goes.st (fun t_ k_ => XS.dup X65.here hx rfl (hb hby at_222) rfl rfl k_) ?_
  show Goes p e below s _ _ _ (T65.setTop (mkF m 223 #[.val (.int kk), .val (.int vv), .val (.ref b3), .unset, .unset, .unset, .unset, .unset, .unset, .unset, .unset, .unset, .unset, .unset] [(.ref b58), (.ref b58)]))
  refine Goes.st (fun t_ k_ => XS.bipush X65.here hx rfl (hb hby at_223) k_) ?_
  show Goes p e below s _ _ _ (T65.setTop (mkF m 225 #[.val (.int kk), .val (.int vv), .val (.ref b3), .unset, .unset, .unset, .unset, .unset, .unset, .unset, .unset, .unset, .unset, .unset] [(.int (7 : Int32)), (.ref b58), (.ref b58)]))
  refine Goes.st (fun t_ k_ => XS.iconst X65.here hx rfl (hb hby at_225) k_) ?_
  show Goes p e below s _ _ _ (T65.setTop (mkF m 226 #[.val (.int kk), .val (.int vv), .val (.ref b3), .unset, .unset, .unset, .unset, .unset, .unset, .unset, .unset, .unset, .unset, .unset] [(.int (0 : Int32)), (.int (7 : Int32)), (.ref b58), (.ref b58)]))
  obtain ⟨cl66, Ar66, q66, S66, M66, H66, G66⟩ := V_b58
  obtain ⟨T66, h66, X66, e66, W66, st66⟩ := stI X65 hx hZ e65 Ar66 (j := (7 : Int32)) (inb_of S66 ⟨by decide, by decide⟩) (g := (mkF m 226 #[.val (.int kk), .val (.int vv), .val (.ref b3), .unset, .unset, .unset, .unset, .unset, .unset, .unset, .unset, .unset, .unset, .unset] [(.int (0 : Int32)), (.int (7 : Int32)), (.ref b58), (.ref b58)])) rfl rfl (hb hby at_226)
  have V_b58 := Arv.set Ar66 q66 S66 M66 H66 G66 rfl W66 7 rfl (Nat.le_of_ble_eq_true rfl)
  refine Goes.st st66 ?_
  have V_b58 : Arv Z h66 b58 k58 .int (27 : Int32) [(.int (0 : Int32)), (.int (4 : Int32)), (.int (1 : Int32)), (.int (0 : Int32)), (.int (1 : Int32)), (.int (1 : Int32)), (.int (0 : Int32)), (.int (0 : Int32)), (.int (0 : Int32)), (.int (0 : Int32)), (.int (0 : Int32)), (.int (0 : Int32)), (.int (0 : Int32)), (.int (0 : Int32)), (.int (0 : Int32)), (.int (0 : Int32)), (.int (0 : Int32)), (.int (0 : Int32)), (.int (0 : Int32)), (.int (0 : Int32)), (.int (0 : Int32)), (.int (0 : Int32)), (.int (0 : Int32)), (.int (0 : Int32)), (.int (0 : Int32)), (.int (0 : Int32)), (.int (0 : Int32))] (.int (0 : Int32)) := V_b58
  have V_b3 := V_b3.other W66 ne_b3_b58
  have N66 := Fr.snoc X66 N65 gn_b58
  have Z0''''''''''''''''''''''''''''''''''''' := Nat.le_trans Z0'''''''''''''''''''''''''''''''''''' (Keep.of_wr W66).1
  have O0 := O0.wr W66 gn_b58
  show Goes p e below s _ _ _ (T66.setTop (mkF m 227 #[.val (.int kk), .val (.int vv), .val (.ref b3), .unset, .unset, .unset, .unset, .unset, .unset, .unset, .unset, .unset, .unset, .unset] [(.ref b58)]))
  refine Goes.st (fun t_ k_ => XS.dup X66.here hx rfl (hb hby at_227) rfl rfl k_) ?_
  show Goes p e below s _ _ _ (T66.setTop (mkF m 228 #[.val (.int kk), .val (.int vv), .val (.ref b3), .unset, .unset, .unset, .unset, .unset, .unset, .unset, .unset, .unset, .unset, .unset] [(.ref b58), (.ref b58)]))
  refine Goes.st (fun t_ k_ => XS.bipush X66.here hx rfl (hb hby at_228) k_) ?_
  show Goes p e below s _ _ _ (T66.setTop (mkF m 230 #[.val (.int kk), .val (.int vv), .val (.ref b3), .unset, .unset, .unset, .unset, .unset, .unset, .unset, .unset, .unset, .unset, .unset] [(.int (8 : Int32)), (.ref b58), (.ref b58)]))
  refine Goes.st (fun t_ k_ => XS.iconst X66.here hx rfl (hb hby at_230) k_) ?_
  show Goes p e below s _ _ _ (T66.setTop (mkF m 231 #[.val (.int kk), .val (.int vv), .val (.ref b3), .unset, .unset, .unset, .unset, .unset, .unset, .unset, .unset, .unset, .unset, .unset] [(.int (0 : Int32)), (.int (8 : Int32)), (.ref b58), (.ref b58)]))
  obtain ⟨cl67, Ar67, q67, S67, M67, H67, G67⟩ := V_b58
  obtain ⟨T67, h67, X67, e67, W67, st67⟩ := stI X66 hx hZ e66 Ar67 (j := (8 : Int32)) (inb_of S67 ⟨by decide, by decide⟩) (g := (mkF m 231 #[.val (.int kk), .val (.int vv), .val (.ref b3), .unset, .unset, .unset, .unset, .unset, .unset, .unset, .unset, .unset, .unset, .unset] [(.int (0 : Int32)), (.int (8 : Int32)), (.ref b58), (.ref b58)])) rfl rfl (hb hby at_231)
  have V_b58 := Arv.set Ar67 q67 S67 M67 H67 G67 rfl W67 8 rfl (Nat.le_of_ble_eq_true rfl)
  refine Goes.st st67 ?_
  have V_b58 : Arv Z h67 b58 k58 .int (27 : Int32) [(.int (0 : Int32)), (.int (4 : Int32)), (.int (1 : Int32)), (.int (0 : Int32)), (.int (1 : Int32)), (.int (1 : Int32)), (.int (0 : Int32)), (.int (0 : Int32)), (.int (0 : Int32)), (.int (0 : Int32)), (.int (0 : Int32)), (.int (0 : Int32)), (.int (0 : Int32)), (.int (0 : Int32)), (.int (0 : Int32)), (.int (0 : Int32)), (.int (0 : Int32)), (.int (0 : Int32)), (.int (0 : Int32)), (.int (0 : Int32)), (.int (0 : Int32)), (.int (0 : Int32)), (.int (0 : Int32)), (.int (0 : Int32)), (.int (0 : Int32)), (.int (0 : Int32)), (.int (0 : Int32))] (.int (0 : Int32)) := V_b58
  have V_b3 := V_b3.other W67 ne_b3_b58
  have N67 := Fr.snoc X67 N66 gn_b58
  have Z0'''''''''''''''''''''''''''''''''''''' := Nat.le_trans Z0''''''''''''''''''''''''''''''''''''' (Keep.of_wr W67).1
  have O0 := O0.wr W67 gn_b58
  show Goes p e below s _ _ _ (T67.setTop (mkF m 232 #[.val (.int kk), .val (.int vv), .val (.ref b3), .unset, .unset, .unset, .unset, .unset, .unset, .unset, .unset, .unset, .unset, .unset] [(.ref b58)]))
  refine Goes.st (fun t_ k_ => XS.dup X67.here hx rfl (hb hby at_232) rfl rfl k_) ?_
  show Goes p e below s _ _ _ (T67.setTop (mkF m 233 #[.val (.int kk), .val (.int vv), .val (.ref b3), .unset, .unset, .unset, .unset, .unset, .unset, .unset, .unset, .unset, .unset, .unset] [(.ref b58), (.ref b58)]))
  refine Goes.st (fun t_ k_ => XS.bipush X67.here hx rfl (hb hby at_233) k_) ?_
  show Goes p e below s _ _ _ (T67.setTop (mkF m 235 #[.val (.int kk), .val (.int vv), .val (.ref b3), .unset, .unset, .unset, .unset, .unset, .unset, .unset, .unset, .unset, .unset, .unset] [(.int (9 : Int32)), (.ref b58), (.ref b58)]))
  refine Goes.st (fun t_ k_ => XS.iconst X67.here hx rfl (hb hby at_235) k_) ?_
  show Goes p e below s _ _ _ (T67.setTop (mkF m 236 #[.val (.int kk), .val (.int vv), .val (.ref b3), .unset, .unset, .unset, .unset, .unset, .unset, .unset, .unset, .unset, .unset, .unset] [(.int (0 : Int32)), (.int (9 : Int32)), (.ref b58), (.ref b58)]))
  obtain ⟨cl68, Ar68, q68, S68, M68, H68, G68⟩ := V_b58
  obtain ⟨T68, h68, X68, e68, W68, st68⟩ := stI X67 hx hZ e67 Ar68 (j := (9 : Int32)) (inb_of S68 ⟨by decide, by decide⟩) (g := (mkF m 236 #[.val (.int kk), .val (.int vv), .val (.ref b3), .unset, .unset, .unset, .unset, .unset, .unset, .unset, .unset, .unset, .unset, .unset] [(.int (0 : Int32)), (.int (9 : Int32)), (.ref b58), (.ref b58)])) rfl rfl (hb hby at_236)
  have V_b58 := Arv.set Ar68 q68 S68 M68 H68 G68 rfl W68 9 rfl (Nat.le_of_ble_eq_true rfl)
  refine Goes.st st68 ?_
  have V_b58 : Arv Z h68 b58 k58 .int (27 : Int32) [(.int (0 : Int32)), (.int (4 : Int32)), (.int (1 : Int32)), (.int (0 : Int32)), (.int (1 : Int32)), (.int (1 : Int32)), (.int (0 : Int32)), (.int (0 : Int32)), (.int (0 : Int32)), (.int (0 : Int32)), (.int (0 : Int32)), (.int (0 : Int32)), (.int (0 : Int32)), (.int (0 : Int32)), (.int (0 : Int32)), (.int (0 : Int32)), (.int (0 : Int32)), (.int (0 : Int32)), (.int (0 : Int32)), (.int (0 : Int32)), (.int (0 : Int32)), (.int (0 : Int32)), (.int (0 : Int32)), (.int (0 : Int32)), (.int (0 : Int32)), (.int (0 : Int32)), (.int (0 : Int32))] (.int (0 : Int32)) := V_b58
  have V_b3 := V_b3.other W68 ne_b3_b58
  have N68 := Fr.snoc X68 N67 gn_b58
  have Z0''''''''''''''''''''''''''''''''''''''' := Nat.le_trans Z0'''''''''''''''''''''''''''''''''''''' (Keep.of_wr W68).1
  have O0 := O0.wr W68 gn_b58
  show Goes p e below s _ _ _ (T68.setTop (mkF m 237 #[.val (.int kk), .val (.int vv), .val (.ref b3), .unset, .unset, .unset, .unset, .unset, .unset, .unset, .unset, .unset, .unset, .unset] [(.ref b58)]))
  refine Goes.st (fun t_ k_ => XS.dup X68.here hx rfl (hb hby at_237) rfl rfl k_) ?_
  show Goes p e below s _ _ _ (T68.setTop (mkF m 238 #[.val (.int kk), .val (.int vv), .val (.ref b3), .unset, .unset, .unset, .unset, .unset, .unset, .unset, .unset, .unset, .unset, .unset] [(.ref b58), (.ref b58)]))
  refine Goes.st (fun t_ k_ => XS.bipush X68.here hx rfl (hb hby at_238) k_) ?_
  show Goes p e below s _ _ _ (T68.setTop (mkF m 240 #[.val (.int kk), .val (.int vv), .val (.ref b3), .unset, .unset, .unset, .unset, .unset, .unset, .unset, .unset, .unset, .unset, .unset] [(.int (10 : Int32)), (.ref b58), (.ref b58)]))
  refine Goes.st (fun t_ k_ => XS.iconst X68.here hx rfl (hb hby at_240) k_) ?_
  show Goes p e below s _ _ _ (T68.setTop (mkF m 241 #[.val (.int kk), .val (.int vv), .val (.ref b3), .unset, .unset, .unset, .unset, .unset, .unset, .unset, .unset, .unset, .unset, .unset] [(.int (0 : Int32)), (.int (10 : Int32)), (.ref b58), (.ref b58)]))
  obtain ⟨cl69, Ar69, q69, S69, M69, H69, G69⟩ := V_b58
  obtain ⟨T69, h69, X69, e69, W69, st69⟩ := stI X68 hx hZ e68 Ar69 (j := (10 : Int32)) (inb_of S69 ⟨by decide, by decide⟩) (g := (mkF m 241 #[.val (.int kk), .val (.int vv), .val (.ref b3), .unset, .unset, .unset, .unset, .unset, .unset, .unset, .unset, .unset, .unset, .unset] [(.int (0 : Int32)), (.int (10 : Int32)), (.ref b58), (.ref b58)])) rfl rfl (hb hby at_241)
  have V_b58 := Arv.set Ar69 q69 S69 M69 H69 G69 rfl W69 10 rfl (Nat.le_of_ble_eq_true rfl)
  refine Goes.st st69 ?_
  have V_b58 : Arv Z h69 b58 k58 .int (27 : Int32) [(.int (0 : Int32)), (.int (4 : Int32)), (.int (1 : Int32)), (.int (0 : Int32)), (.int (1 : Int32)), (.int (1 : Int32)), (.int (0 : Int32)), (.int (0 : Int32)), (.int (0 : Int32)), (.int (0 : Int32)), (.int (0 : Int32)), (.int (0 : Int32)), (.int (0 : Int32)), (.int (0 : Int32)), (.int (0 : Int32)), (.int (0 : Int32)), (.int (0 : Int32)), (.int (0 : Int32)), (.int (0 : Int32)), (.int (0 : Int32)), (.int (0 : Int32)), (.int (0 : Int32)), (.int (0 : Int32)), (.int (0 : Int32)), (.int (0 : Int32)), (.int (0 : Int32)), (.int (0 : Int32))] (.int (0 : Int32)) := V_b58
  have V_b3 := V_b3.other W69 ne_b3_b58
  have N69 := Fr.snoc X69 N68 gn_b58
  have Z0'''''''''''''''''''''''''''''''''''''''' := Nat.le_trans Z0''''''''''''''''''''''''''''''''''''''' (Keep.of_wr W69).1
  have O0 := O0.wr W69 gn_b58
  show Goes p e below s _ _ _ (T69.setTop (mkF m 242 #[.val (.int kk), .val (.int vv), .val (.ref b3), .unset, .unset, .unset, .unset, .unset, .unset, .unset, .unset, .unset, .unset, .unset] [(.ref b58)]))
  refine Goes.st (fun t_ k_ => XS.dup X69.here hx rfl (hb hby at_242) rfl rfl k_) ?_
  show Goes p e below s _ _ _ (T69.setTop (mkF m 243 #[.val (.int kk), .val (.int vv), .val (.ref b3), .unset, .unset, .unset, .unset, .unset, .unset, .unset, .unset, .unset, .unset, .unset] [(.ref b58), (.ref b58)]))
  refine Goes.st (fun t_ k_ => XS.bipush X69.here hx rfl (hb hby at_243) k_) ?_
  show Goes p e below s _ _ _ (T69.setTop (mkF m 245 #[.val (.int kk), .val (.int vv), .val (.ref b3), .unset, .unset, .unset, .unset, .unset, .unset, .unset, .unset, .unset, .unset, .unset] [(.int (11 : Int32)), (.ref b58), (.ref b58)]))
  refine Goes.st (fun t_ k_ => XS.iconst X69.here hx rfl (hb hby at_245) k_) ?_
  show Goes p e below s _ _ _ (T69.setTop (mkF m 246 #[.val (.int kk), .val (.int vv), .val (.ref b3), .unset, .unset, .unset, .unset, .unset, .unset, .unset, .unset, .unset, .unset, .unset] [(.int (0 : Int32)), (.int (11 : Int32)), (.ref b58), (.ref b58)]))
  obtain ⟨cl70, Ar70, q70, S70, M70, H70, G70⟩ := V_b58
  obtain ⟨T70, h70, X70, e70, W70, st70⟩ := stI X69 hx hZ e69 Ar70 (j := (11 : Int32)) (inb_of S70 ⟨by decide, by decide⟩) (g := (mkF m 246 #[.val (.int kk), .val (.int vv), .val (.ref b3), .unset, .unset, .unset, .unset, .unset, .unset, .unset, .unset, .unset, .unset, .unset] [(.int (0 : Int32)), (.int (11 : Int32)), (.ref b58), (.ref b58)])) rfl rfl (hb hby at_246)
  have V_b58 := Arv.set Ar70 q70 S70 M70 H70 G70 rfl W70 11 rfl (Nat.le_of_ble_eq_true rfl)
  refine Goes.st st70 ?_
  have V_b58 : Arv Z h70 b58 k58 .int (27 : Int32) [(.int (0 : Int32)), (.int (4 : Int32)), (.int (1 : Int32)), (.int (0 : Int32)), (.int (1 : Int32)), (.int (1 : Int32)), (.int (0 : Int32)), (.int (0 : Int32)), (.int (0 : Int32)), (.int (0 : Int32)), (.int (0 : Int32)), (.int (0 : Int32)), (.int (0 : Int32)), (.int (0 : Int32)), (.int (0 : Int32)), (.int (0 : Int32)), (.int (0 : Int32)), (.int (0 : Int32)), (.int (0 : Int32)), (.int (0 : Int32)), (.int (0 : Int32)), (.int (0 : Int32)), (.int (0 : Int32)), (.int (0 : Int32)), (.int (0 : Int32)), (.int (0 : Int32)), (.int (0 : Int32))] (.int (0 : Int32)) := V_b58
  have V_b3 := V_b3.other W70 ne_b3_b58
  have N70 := Fr.snoc X70 N69 gn_b58
  have Z0''''''''''''''''''''''''''''''''''''''''' := Nat.le_trans Z0'''''''''''''''''''''''''''''''''''''''' (Keep.of_wr W70).1
  have O0 := O0.wr W70 gn_b58
  show Goes p e below s _ _ _ (T70.setTop (mkF m 247 #[.val (.int kk), .val (.int vv), .val (.ref b3), .unset, .unset, .unset, .unset, .unset, .unset, .unset, .unset, .unset, .unset, .unset] [(.ref b58)]))
  refine Goes.st (fun t_ k_ => XS.dup X70.here hx rfl (hb hby at_247) rfl rfl k_) ?_
  show Goes p e below s _ _ _ (T70.setTop (mkF m 248 #[.val (.int kk), .val (.int vv), .val (.ref b3), .unset, .unset, .unset, .unset, .unset, .unset, .unset, .unset, .unset, .unset, .unset] [(.ref b58), (.ref b58)]))
  refine Goes.st (fun t_ k_ => XS.bipush X70.here hx rfl (hb hby at_248) k_) ?_
  show Goes p e below s _ _ _ (T70.setTop (mkF m 250 #[.val (.int kk), .val (.int vv), .val (.ref b3), .unset, .unset, .unset, .unset, .unset, .unset, .unset, .unset, .unset, .unset, .unset] [(.int (12 : Int32)), (.ref b58), (.ref b58)]))
  refine Goes.st (fun t_ k_ => XS.iconst X70.here hx rfl (hb hby at_250) k_) ?_
  show Goes p e below s _ _ _ (T70.setTop (mkF m 251 #[.val (.int kk), .val (.int vv), .val (.ref b3), .unset, .unset, .unset, .unset, .unset, .unset, .unset, .unset, .unset, .unset, .unset] [(.int (0 : Int32)), (.int (12 : Int32)), (.ref b58), (.ref b58)]))
  obtain ⟨cl71, Ar71, q71, S71, M71, H71, G71⟩ := V_b58
  obtain ⟨T71, h71, X71, e71, W71, st71⟩ := stI X70 hx hZ e70 Ar71 (j := (12 : Int32)) (inb_of S71 ⟨by decide, by decide⟩) (g := (mkF m 251 #[.val (.int kk), .val (.int vv), .val (.ref b3), .unset, .unset, .unset, .unset, .unset, .unset, .unset, .unset, .unset, .unset, .unset] [(.int (0 : Int32)), (.int (12 : Int32)), (.ref b58), (.ref b58)])) rfl rfl (hb hby at_251)
  have V_b58 := Arv.set Ar71 q71 S71 M71 H71 G71 rfl W71 12 rfl (Nat.le_of_ble_eq_true rfl)
  refine Goes.st st71 ?_
  have V_b58 : Arv Z h71 b58 k58 .int (27 : Int32) [(.int (0 : Int32)), (.int (4 : Int32)), (.int (1 : Int32)), (.int (0 : Int32)), (.int (1 : Int32)), (.int (1 : Int32)), (.int (0 : Int32)), (.int (0 : Int32)), (.int (0 : Int32)), (.int (0 : Int32)), (.int (0 : Int32)), (.int (0 : Int32)), (.int (0 : Int32)), (.int (0 : Int32)), (.int (0 : Int32)), (.int (0 : Int32)), (.int (0 : Int32)), (.int (0 : Int32)), (.int (0 : Int32)), (.int (0 : Int32)), (.int (0 : Int32)), (.int (0 : Int32)), (.int (0 : Int32)), (.int (0 : Int32)), (.int (0 : Int32)), (.int (0 : Int32)), (.int (0 : Int32))] (.int (0 : Int32)) := V_b58
  have V_b3 := V_b3.other W71 ne_b3_b58
  have N71 := Fr.snoc X71 N70 gn_b58
  have Z0'''''''''''''''''''''''''''''''''''''''''' := Nat.le_trans Z0''''''''''''''''''''''''''''''''''''''''' (Keep.of_wr W71).1
  have O0 := O0.wr W71 gn_b58
  show Goes p e below s _ _ _ (T71.setTop (mkF m 252 #[.val (.int kk), .val (.int vv), .val (.ref b3), .unset, .unset, .unset, .unset, .unset, .unset, .unset, .unset, .unset, .unset, .unset] [(.ref b58)]))
  refine Goes.st (fun t_ k_ => XS.dup X71.here hx rfl (hb hby at_252) rfl rfl k_) ?_
  show Goes p e below s _ _ _ (T71.setTop (mkF m 253 #[.val (.int kk), .val (.int vv), .val (.ref b3), .unset, .unset, .unset, .unset, .unset, .unset, .unset, .unset, .unset, .unset, .unset] [(.ref b58), (.ref b58)]))
  refine Goes.st (fun t_ k_ => XS.bipush X71.here hx rfl (hb hby at_253) k_) ?_
  show Goes p e below s _ _ _ (T71.setTop (mkF m 255 #[.val (.int kk), .val (.int vv), .val (.ref b3), .unset, .unset, .unset, .unset, .unset, .unset, .unset, .unset, .unset, .unset, .unset] [(.int (13 : Int32)), (.ref b58), (.ref b58)]))
  refine Goes.st (fun t_ k_ => XS.iconst X71.here hx rfl (hb hby at_255) k_) ?_
  show Goes p e below s _ _ _ (T71.setTop (mkF m 256 #[.val (.int kk), .val (.int vv), .val (.ref b3), .unset, .unset, .unset, .unset, .unset, .unset, .unset, .unset, .unset, .unset, .unset] [(.int (0 : Int32)), (.int (13 : Int32)), (.ref b58), (.ref b58)]))
  obtain ⟨cl72, Ar72, q72, S72, M72, H72, G72⟩ := V_b58
  obtain ⟨T72, h72, X72, e72, W72, st72⟩ := stI X71 hx hZ e71 Ar72 (j := (13 : Int32)) (inb_of S72 ⟨by decide, by decide⟩) (g := (mkF m 256 #[.val (.int kk), .val (.int vv), .val (.ref b3), .unset, .unset, .unset, .unset, .unset, .unset, .unset, .unset, .unset, .unset, .unset] [(.int (0 : Int32)), (.int (13 : Int32)), (.ref b58), (.ref b58)])) rfl rfl (hb hby at_256)
  have V_b58 := Arv.set Ar72 q72 S72 M72 H72 G72 rfl W72 13 rfl (Nat.le_of_ble_eq_true rfl)
  refine Goes.st st72 ?_
  have V_b58 : Arv Z h72 b58 k58 .int (27 : Int32) [(.int (0 : Int32)), (.int (4 : Int32)), (.int (1 : Int32)), (.int (0 : Int32)), (.int (1 : Int32)), (.int (1 : Int32)), (.int (0 : Int32)), (.int (0 : Int32)), (.int (0 : Int32)), (.int (0 : Int32)), (.int (0 : Int32)), (.int (0 : Int32)), (.int (0 : Int32)), (.int (0 : Int32)), (.int (0 : Int32)), (.int (0 : Int32)), (.int (0 : Int32)), (.int (0 : Int32)), (.int (0 : Int32)), (.int (0 : Int32)), (.int (0 : Int32)), (.int (0 : Int32)), (.int (0 : Int32)), (.int (0 : Int32)), (.int (0 : Int32)), (.int (0 : Int32)), (.int (0 : Int32))] (.int (0 : Int32)) := V_b58
  have V_b3 := V_b3.other W72 ne_b3_b58
  have N72 := Fr.snoc X72 N71 gn_b58
  have Z0''''''''''''''''''''''''''''''''''''''''''' := Nat.le_trans Z0'''''''''''''''''''''''''''''''''''''''''' (Keep.of_wr W72).1
  have O0 := O0.wr W72 gn_b58
  show Goes p e below s _ _ _ (T72.setTop (mkF m 257 #[.val (.int kk), .val (.int vv), .val (.ref b3), .unset, .unset, .unset, .unset, .unset, .unset, .unset, .unset, .unset, .unset, .unset] [(.ref b58)]))
  refine Goes.st (fun t_ k_ => XS.dup X72.here hx rfl (hb hby at_257) rfl rfl k_) ?_
  show Goes p e below s _ _ _ (T72.setTop (mkF m 258 #[.val (.int kk), .val (.int vv), .val (.ref b3), .unset, .unset, .unset, .unset, .unset, .unset, .unset, .unset, .unset, .unset, .unset] [(.ref b58), (.ref b58)]))
  refine Goes.st (fun t_ k_ => XS.bipush X72.here hx rfl (hb hby at_258) k_) ?_
  show Goes p e below s _ _ _ (T72.setTop (mkF m 260 #[.val (.int kk), .val (.int vv), .val (.ref b3), .unset, .unset, .unset, .unset, .unset, .unset, .unset, .unset, .unset, .unset, .unset] [(.int (14 : Int32)), (.ref b58), (.ref b58)]))
  refine Goes.st (fun t_ k_ => XS.iconst X72.here hx rfl (hb hby at_260) k_) ?_
  show Goes p e below s _ _ _ (T72.setTop (mkF m 261 #[.val (.int kk), .val (.int vv), .val (.ref b3), .unset, .unset, .unset, .unset, .unset, .unset, .unset, .unset, .unset, .unset, .unset] [(.int (2 : Int32)), (.int (14 : Int32)), (.ref b58), (.ref b58)]))
  obtain ⟨cl73, Ar73, q73, S73, M73, H73, G73⟩ := V_b58
  obtain ⟨T73, h73, X73, e73, W73, st73⟩ := stI X72 hx hZ e72 Ar73 (j := (14 : Int32)) (inb_of S73 ⟨by decide, by decide⟩) (g := (mkF m 261 #[.val (.int kk), .val (.int vv), .val (.ref b3), .unset, .unset, .unset, .unset, .unset, .unset, .unset, .unset, .unset, .unset, .unset] [(.int (2 : Int32)), (.int (14 : Int32)), (.ref b58), (.ref b58)])) rfl rfl (hb hby at_261)
  have V_b58 := Arv.set Ar73 q73 S73 M73 H73 G73 rfl W73 14 rfl (Nat.le_of_ble_eq_true rfl)
  refine Goes.st st73 ?_
  have V_b58 : Arv Z h73 b58 k58 .int (27 : Int32) [(.int (0 : Int32)), (.int (4 : Int32)), (.int (1 : Int32)), (.int (0 : Int32)), (.int (1 : Int32)), (.int (1 : Int32)), (.int (0 : Int32)), (.int (0 : Int32)), (.int (0 : Int32)), (.int (0 : Int32)), (.int (0 : Int32)), (.int (0 : Int32)), (.int (0 : Int32)), (.int (0 : Int32)), (.int (2 : Int32)), (.int (0 : Int32)), (.int (0 : Int32)), (.int (0 : Int32)), (.int (0 : Int32)), (.int (0 : Int32)), (.int (0 : Int32)), (.int (0 : Int32)), (.int (0 : Int32)), (.int (0 : Int32)), (.int (0 : Int32)), (.int (0 : Int32)), (.int (0 : Int32))] (.int (0 : Int32)) := V_b58
  have V_b3 := V_b3.other W73 ne_b3_b58
  have N73 := Fr.snoc X73 N72 gn_b58
  have Z0'''''''''''''''''''''''''''''''''''''''''''' := Nat.le_trans Z0''''''''''''''''''''''''''''''''''''''''''' (Keep.of_wr W73).1
  have O0 := O0.wr W73 gn_b58
  show Goes p e below s _ _ _ (T73.setTop (mkF m 262 #[.val (.int kk), .val (.int vv), .val (.ref b3), .unset, .unset, .unset, .unset, .unset, .unset, .unset, .unset, .unset, .unset, .unset] [(.ref b58)]))
  refine Goes.st (fun t_ k_ => XS.dup X73.here hx rfl (hb hby at_262) rfl rfl k_) ?_
  show Goes p e below s _ _ _ (T73.setTop (mkF m 263 #[.val (.int kk), .val (.int vv), .val (.ref b3), .unset, .unset, .unset, .unset, .unset, .unset, .unset, .unset, .unset, .unset, .unset] [(.ref b58), (.ref b58)]))
  refine Goes.st (fun t_ k_ => XS.bipush X73.here hx rfl (hb hby at_263) k_) ?_
  show Goes p e below s _ _ _ (T73.setTop (mkF m 265 #[.val (.int kk), .val (.int vv), .val (.ref b3), .unset, .unset, .unset, .unset, .unset, .unset, .unset, .unset, .unset, .unset, .unset] [(.int (15 : Int32)), (.ref b58), (.ref b58)]))
  refine Goes.st (fun t_ k_ => XS.iconst X73.here hx rfl (hb hby at_265) k_) ?_
  show Goes p e below s _ _ _ (T73.setTop (mkF m 266 #[.val (.int kk), .val (.int vv), .val (.ref b3), .unset, .unset, .unset, .unset, .unset, .unset, .unset, .unset, .unset, .unset, .unset] [(.int (1 : Int32)), (.int (15 : Int32)), (.ref b58), (.ref b58)]))
  obtain ⟨cl74, Ar74, q74, S74, M74, H74, G74⟩ := V_b58
  obtain ⟨T74, h74, X74, e74, W74, st74⟩ := stI X73 hx hZ e73 Ar74 (j := (15 : Int32)) (inb_of S74 ⟨by decide, by decide⟩) (g := (mkF m 266 #[.val (.int kk), .val (.int vv), .val (.ref b3), .unset, .unset, .unset, .unset, .unset, .unset, .unset, .unset, .unset, .unset, .unset] [(.int (1 : Int32)), (.int (15 : Int32)), (.ref b58), (.ref b58)])) rfl rfl (hb hby at_266)
  have V_b58 := Arv.set Ar74 q74 S74 M74 H74 G74 rfl W74 15 rfl (Nat.le_of_ble_eq_true rfl)
  refine Goes.st st74 ?_
  have V_b58 : Arv Z h74 b58 k58 .int (27 : Int32) [(.int (0 : Int32)), (.int (4 : Int32)), (.int (1 : Int32)), (.int (0 : Int32)), (.int (1 : Int32)), (.int (1 : Int32)), (.int (0 : Int32)), (.int (0 : Int32)), (.int (0 : Int32)), (.int (0 : Int32)), (.int (0 : Int32)), (.int (0 : Int32)), (.int (0 : Int32)), (.int (0 : Int32)), (.int (2 : Int32)), (.int (1 : Int32)), (.int (0 : Int32)), (.int (0 : Int32)), (.int (0 : Int32)), (.int (0 : Int32)), (.int (0 : Int32)), (.int (0 : Int32)), (.int (0 : Int32)), (.int (0 : Int32)), (.int (0 : Int32)), (.int (0 : Int32)), (.int (0 : Int32))] (.int (0 : Int32)) := V_b58
  have V_b3 := V_b3.other W74 ne_b3_b58
  have N74 := Fr.snoc X74 N73 gn_b58
  have Z0''''''''''''''''''''''''''''''''''''''''''''' := Nat.le_trans Z0'''''''''''''''''''''''''''''''''''''''''''' (Keep.of_wr W74).1
  have O0 := O0.wr W74 gn_b58
  show Goes p e below s _ _ _ (T74.setTop (mkF m 267 #[.val (.int kk), .val (.int vv), .val (.ref b3), .unset, .unset, .unset, .unset, .unset, .unset, .unset, .unset, .unset, .unset, .unset] [(.ref b58)]))
  refine Goes.st (fun t_ k_ => XS.dup X74.here hx rfl (hb hby at_267) rfl rfl k_) ?_
  show Goes p e below s _ _ _ (T74.setTop (mkF m 268 #[.val (.int kk), .val (.int vv), .val (.ref b3), .unset, .unset, .unset, .unset, .unset, .unset, .unset, .unset, .unset, .unset, .unset] [(.ref b58), (.ref b58)]))
  refine Goes.st (fun t_ k_ => XS.bipush X74.here hx rfl (hb hby at_268) k_) ?_
  show Goes p e below s _ _ _ (T74.setTop (mkF m 270 #[.val (.int kk), .val (.int vv), .val (.ref b3), .unset, .unset, .unset, .unset, .unset, .unset, .unset, .unset, .unset, .unset, .unset] [(.int (16 : Int32)), (.ref b58), (.ref b58)]))
  refine Goes.st (fun t_ k_ => XS.iconst X74.here hx rfl (hb hby at_270) k_) ?_
  show Goes p e below s _ _ _ (T74.setTop (mkF m 271 #[.val (.int kk), .val (.int vv), .val (.ref b3), .unset, .unset, .unset, .unset, .unset, .unset, .unset, .unset, .unset, .unset, .unset] [(.int (0 : Int32)), (.int (16 : Int32)), (.ref b58), (.ref b58)]))
  obtain ⟨cl75, Ar75, q75, S75, M75, H75, G75⟩ := V_b58
  obtain ⟨T75, h75, X75, e75, W75, st75⟩ := stI X74 hx hZ e74 Ar75 (j := (16 : Int32)) (inb_of S75 ⟨by decide, by decide⟩) (g := (mkF m 271 #[.val (.int kk), .val (.int vv), .val (.ref b3), .unset, .unset, .unset, .unset, .unset, .unset, .unset, .unset, .unset, .unset, .unset] [(.int (0 : Int32)), (.int (16 : Int32)), (.ref b58), (.ref b58)])) rfl rfl (hb hby at_271)
  have V_b58 := Arv.set Ar75 q75 S75 M75 H75 G75 rfl W75 16 rfl (Nat.le_of_ble_eq_true rfl)
  refine Goes.st st75 ?_
  have V_b58 : Arv Z h75 b58 k58 .int (27 : Int32) [(.int (0 : Int32)), (.int (4 : Int32)), (.int (1 : Int32)), (.int (0 : Int32)), (.int (1 : Int32)), (.int (1 : Int32)), (.int (0 : Int32)), (.int (0 : Int32)), (.int (0 : Int32)), (.int (0 : Int32)), (.int (0 : Int32)), (.int (0 : Int32)), (.int (0 : Int32)), (.int (0 : Int32)), (.int (2 : Int32)), (.int (1 : Int32)), (.int (0 : Int32)), (.int (0 : Int32)), (.int (0 : Int32)), (.int (0 : Int32)), (.int (0 : Int32)), (.int (0 : Int32)), (.int (0 : Int32)), (.int (0 : Int32)), (.int (0 : Int32)), (.int (0 : Int32)), (.int (0 : Int32))] (.int (0 : Int32)) := V_b58
  have V_b3 := V_b3.other W75 ne_b3_b58
  have N75 := Fr.snoc X75 N74 gn_b58
  have Z0'''''''''''''''''''''''''''''''''''''''''''''' := Nat.le_trans Z0''''''''''''''''''''''''''''''''''''''''''''' (Keep.of_wr W75).1
  have O0 := O0.wr W75 gn_b58
  show Goes p e below s _ _ _ (T75.setTop (mkF m 272 #[.val (.int kk), .val (.int vv), .val (.ref b3), .unset, .unset, .unset, .unset, .unset, .unset, .unset, .unset, .unset, .unset, .unset] [(.ref b58)]))
  refine Goes.st (fun t_ k_ => XS.dup X75.here hx rfl (hb hby at_272) rfl rfl k_) ?_
  show Goes p e below s _ _ _ (T75.setTop (mkF m 273 #[.val (.int kk), .val (.int vv), .val (.ref b3), .unset, .unset, .unset, .unset, .unset, .unset, .unset, .unset, .unset, .unset, .unset] [(.ref b58), (.ref b58)]))
  refine Goes.st (fun t_ k_ => XS.bipush X75.here hx rfl (hb hby at_273) k_) ?_
  show Goes p e below s _ _ _ (T75.setTop (mkF m 275 #[.val (.int kk), .val (.int vv), .val (.ref b3), .unset, .unset, .unset, .unset, .unset, .unset, .unset, .unset, .unset, .unset, .unset] [(.int (17 : Int32)), (.ref b58), (.ref b58)]))
  refine Goes.st (fun t_ k_ => XS.iconst X75.here hx rfl (hb hby at_275) k_) ?_
  show Goes p e below s _ _ _ (T75.setTop (mkF m 276 #[.val (.int kk), .val (.int vv), .val (.ref b3), .unset, .unset, .unset, .unset, .unset, .unset, .unset, .unset, .unset, .unset, .unset] [(.int (1 : Int32)), (.int (17 : Int32)), (.ref b58), (.ref b58)]))
  obtain ⟨cl76, Ar76, q76, S76, M76, H76, G76⟩ := V_b58
  obtain ⟨T76, h76, X76, e76, W76, st76⟩ := stI X75 hx hZ e75 Ar76 (j := (17 : Int32)) (inb_of S76 ⟨by decide, by decide⟩) (g := (mkF m 276 #[.val (.int kk), .val (.int vv), .val (.ref b3), .unset, .unset, .unset, .unset, .unset, .unset, .unset, .unset, .unset, .unset, .unset] [(.int (1 : Int32)), (.int (17 : Int32)), (.ref b58), (.ref b58)])) rfl rfl (hb hby at_276)
  have V_b58 := Arv.set Ar76 q76 S76 M76 H76 G76 rfl W76 17 rfl (Nat.le_of_ble_eq_true rfl)
  refine Goes.st st76 ?_
  have V_b58 : Arv Z h76 b58 k58 .int (27 : Int32) [(.int (0 : Int32)), (.int (4 : Int32)), (.int (1 : Int32)), (.int (0 : Int32)), (.int (1 : Int32)), (.int (1 : Int32)), (.int (0 : Int32)), (.int (0 : Int32)), (.int (0 : Int32)), (.int (0 : Int32)), (.int (0 : Int32)), (.int (0 : Int32)), (.int (0 : Int32)), (.int (0 : Int32)), (.int (2 : Int32)), (.int (1 : Int32)), (.int (0 : Int32)), (.int (1 : Int32)), (.int (0 : Int32)), (.int (0 : Int32)), (.int (0 : Int32)), (.int (0 : Int32)), (.int (0 : Int32)), (.int (0 : Int32)), (.int (0 : Int32)), (.int (0 : Int32)), (.int (0 : Int32))] (.int (0 : Int32)) := V_b58
  have V_b3 := V_b3.other W76 ne_b3_b58
  have N76 := Fr.snoc X76 N75 gn_b58
  have Z0''''''''''''''''''''''''''''''''''''''''''''''' := Nat.le_trans Z0'''''''''''''''''''''''''''''''''''''''''''''' (Keep.of_wr W76).1
  have O0 := O0.wr W76 gn_b58
  show Goes p e below s _ _ _ (T76.setTop (mkF m 277 #[.val (.int kk), .val (.int vv), .val (.ref b3), .unset, .unset, .unset, .unset, .unset, .unset, .unset, .unset, .unset, .unset, .unset] [(.ref b58)]))
  refine Goes.st (fun t_ k_ => XS.dup X76.here hx rfl (hb hby at_277) rfl rfl k_) ?_
  show Goes p e below s _ _ _ (T76.setTop (mkF m 278 #[.val (.int kk), .val (.int vv), .val (.ref b3), .unset, .unset, .unset, .unset, .unset, .unset, .unset, .unset, .unset, .unset, .unset] [(.ref b58), (.ref b58)]))
  refine Goes.st (fun t_ k_ => XS.bipush X76.here hx rfl (hb hby at_278) k_) ?_
  show Goes p e below s _ _ _ (T76.setTop (mkF m 280 #[.val (.int kk), .val (.int vv), .val (.ref b3), .unset, .unset, .unset, .unset, .unset, .unset, .unset, .unset, .unset, .unset, .unset] [(.int (18 : Int32)), (.ref b58), (.ref b58)]))
  refine Goes.st (fun t_ k_ => XS.iconst X76.here hx rfl (hb hby at_280) k_) ?_
  show Goes p e below s _ _ _ (T76.setTop (mkF m 281 #[.val (.int kk), .val (.int vv), .val (.ref b3), .unset, .unset, .unset, .unset, .unset, .unset, .unset, .unset, .unset, .unset, .unset] [(.int (0 : Int32)), (.int (18 : Int32)), (.ref b58), (.ref b58)]))
  obtain ⟨cl77, Ar77, q77, S77, M77, H77, G77⟩ := V_b58
  obtain ⟨T77, h77, X77, e77, W77, st77⟩ := stI X76 hx hZ e76 Ar77 (j := (18 : Int32)) (inb_of S77 ⟨by decide, by decide⟩) (g := (mkF m 281 #[.val (.int kk), .val (.int vv), .val (.ref b3), .unset, .unset, .unset, .unset, .unset, .unset, .unset, .unset, .unset, .unset, .unset] [(.int (0 : Int32)), (.int (18 : Int32)), (.ref b58), (.ref b58)])) rfl rfl (hb hby at_281)
  have V_b58 := Arv.set Ar77 q77 S77 M77 H77 G77 rfl W77 18 rfl (Nat.le_of_ble_eq_true rfl)
  refine Goes.st st77 ?_
  have V_b58 : Arv Z h77 b58 k58 .int (27 : Int32) [(.int (0 : Int32)), (.int (4 : Int32)), (.int (1 : Int32)), (.int (0 : Int32)), (.int (1 : Int32)), (.int (1 : Int32)), (.int (0 : Int32)), (.int (0 : Int32)), (.int (0 : Int32)), (.int (0 : Int32)), (.int (0 : Int32)), (.int (0 : Int32)), (.int (0 : Int32)), (.int (0 : Int32)), (.int (2 : Int32)), (.int (1 : Int32)), (.int (0 : Int32)), (.int (1 : Int32)), (.int (0 : Int32)), (.int (0 : Int32)), (.int (0 : Int32)), (.int (0 : Int32)), (.int (0 : Int32)), (.int (0 : Int32)), (.int (0 : Int32)), (.int (0 : Int32)), (.int (0 : Int32))] (.int (0 : Int32)) := V_b58
  have V_b3 := V_b3.other W77 ne_b3_b58
  have N77 := Fr.snoc X77 N76 gn_b58
  have Z0'''''''''''''''''''''''''''''''''''''''''''''''' := Nat.le_trans Z0''''''''''''''''''''''''''''''''''''''''''''''' (Keep.of_wr W77).1
  have O0 := O0.wr W77 gn_b58
  show Goes p e below s _ _ _ (T77.setTop (mkF m 282 #[.val (.int kk), .val (.int vv), .val (.ref b3), .unset, .unset, .unset, .unset, .unset, .unset, .unset, .unset, .unset, .unset, .unset] [(.ref b58)]))
  refine Goes.st (fun t_ k_ => XS.dup X77.here hx rfl (hb hby at_282) rfl rfl k_) ?_
  show Goes p e below s _ _ _ (T77.setTop (mkF m 283 #[.val (.int kk), .val (.int vv), .val (.ref b3), .unset, .unset, .unset, .unset, .unset, .unset, .unset, .unset, .unset, .unset, .unset] [(.ref b58), (.ref b58)]))
  refine Goes.st (fun t_ k_ => XS.bipush X77.here hx rfl (hb hby at_283) k_) ?_
  show Goes p e below s _ _ _ (T77.setTop (mkF m 285 #[.val (.int kk), .val (.int vv), .val (.ref b3), .unset, .unset, .unset, .unset, .unset, .unset, .unset, .unset, .unset, .unset, .unset] [(.int (19 : Int32)), (.ref b58), (.ref b58)]))
  refine Goes.st (fun t_ k_ => XS.iconst X77.here hx rfl (hb hby at_285) k_) ?_
  show Goes p e below s _ _ _ (T77.setTop (mkF m 286 #[.val (.int kk), .val (.int vv), .val (.ref b3), .unset, .unset, .unset, .unset, .unset, .unset, .unset, .unset, .unset, .unset, .unset] [(.int (0 : Int32)), (.int (19 : Int32)), (.ref b58), (.ref b58)]))
  obtain ⟨cl78, Ar78, q78, S78, M78, H78, G78⟩ := V_b58
  obtain ⟨T78, h78, X78, e78, W78, st78⟩ := stI X77 hx hZ e77 Ar78 (j := (19 : Int32)) (inb_of S78 ⟨by decide, by decide⟩) (g := (mkF m 286 #[.val (.int kk), .val (.int vv), .val (.ref b3), .unset, .unset, .unset, .unset, .unset, .unset, .unset, .unset, .unset, .unset, .unset] [(.int (0 : Int32)), (.int (19 : Int32)), (.ref b58), (.ref b58)])) rfl rfl (hb hby at_286)
  have V_b58 := Arv.set Ar78 q78 S78 M78 H78 G78 rfl W78 19 rfl (Nat.le_of_ble_eq_true rfl)
  refine Goes.st st78 ?_
  have V_b58 : Arv Z h78 b58 k58 .int (27 : Int32) [(.int (0 : Int32)), (.int (4 : Int32)), (.int (1 : Int32)), (.int (0 : Int32)), (.int (1 : Int32)), (.int (1 : Int32)), (.int (0 : Int32)), (.int (0 : Int32)), (.int (0 : Int32)), (.int (0 : Int32)), (.int (0 : Int32)), (.int (0 : Int32)), (.int (0 : Int32)), (.int (0 : Int32)), (.int (2 : Int32)), (.int (1 : Int32)), (.int (0 : Int32)), (.int (1 : Int32)), (.int (0 : Int32)), (.int (0 : Int32)), (.int (0 : Int32)), (.int (0 : Int32)), (.int (0 : Int32)), (.int (0 : Int32)), (.int (0 : Int32)), (.int (0 : Int32)), (.int (0 : Int32))] (.int (0 : Int32)) := V_b58
  have V_b3 := V_b3.other W78 ne_b3_b58
  have N78 := Fr.snoc X78 N77 gn_b58
  have Z0''''''''''''''''''''''''''''''''''''''''''''''''' := Nat.le_trans Z0'''''''''''''''''''''''''''''''''''''''''''''''' (Keep.of_wr W78).1
  have O0 := O0.wr W78 gn_b58
  show Goes p e below s _ _ _ (T78.setTop (mkF m 287 #[.val (.int kk), .val (.int vv), .val (.ref b3), .unset, .unset, .unset, .unset, .unset, .unset, .unset, .unset, .unset, .unset, .unset] [(.ref b58)]))
  refine Goes.st (fun t_ k_ => XS.dup X78.here hx rfl (hb hby at_287) rfl rfl k_) ?_
  show Goes p e below s _ _ _ (T78.setTop (mkF m 288 #[.val (.int kk), .val (.int vv), .val (.ref b3), .unset, .unset, .unset, .unset, .unset, .unset, .unset, .unset, .unset, .unset, .unset] [(.ref b58), (.ref b58)]))
  refine Goes.st (fun t_ k_ => XS.bipush X78.here hx rfl (hb hby at_288) k_) ?_
  show Goes p e below s _ _ _ (T78.setTop (mkF m 290 #[.val (.int kk), .val (.int vv), .val (.ref b3), .unset, .unset, .unset, .unset, .unset, .unset, .unset, .unset, .unset, .unset, .unset] [(.int (20 : Int32)), (.ref b58), (.ref b58)]))
  refine Goes.st (fun t_ k_ => XS.iconst X78.here hx rfl (hb hby at_290) k_) ?_
  show Goes p e below s _ _ _ (T78.setTop (mkF m 291 #[.val (.int kk), .val (.int vv), .val (.ref b3), .unset, .unset, .unset, .unset, .unset, .unset, .unset, .unset, .unset, .unset, .unset] [(.int (0 : Int32)), (.int (20 : Int32)), (.ref b58), (.ref b58)]))
  obtain ⟨cl79, Ar79, q79, S79, M79, H79, G79⟩ := V_b58
  obtain ⟨T79, h79, X79, e79, W79, st79⟩ := stI X78 hx hZ e78 Ar79 (j := (20 : Int32)) (inb_of S79 ⟨by decide, by decide⟩) (g := (mkF m 291 #[.val (.int kk), .val (.int vv), .val (.ref b3), .unset, .unset, .unset, .unset, .unset, .unset, .unset, .unset, .unset, .unset, .unset] [(.int (0 : Int32)), (.int (20 : Int32)), (.ref b58), (.ref b58)])) rfl rfl (hb hby at_291)
  have V_b58 := Arv.set Ar79 q79 S79 M79 H79 G79 rfl W79 20 rfl (Nat.le_of_ble_eq_true rfl)
  refine Goes.st st79 ?_
  have V_b58 : Arv Z h79 b58 k58 .int (27 : Int32) [(.int (0 : Int32)), (.int (4 : Int32)), (.int (1 : Int32)), (.int (0 : Int32)), (.int (1 : Int32)), (.int (1 : Int32)), (.int (0 : Int32)), (.int (0 : Int32)), (.int (0 : Int32)), (.int (0 : Int32)), (.int (0 : Int32)), (.int (0 : Int32)), (.int (0 : Int32)), (.int (0 : Int32)), (.int (2 : Int32)), (.int (1 : Int32)), (.int (0 : Int32)), (.int (1 : Int32)), (.int (0 : Int32)), (.int (0 : Int32)), (.int (0 : Int32)), (.int (0 : Int32)), (.int (0 : Int32)), (.int (0 : Int32)), (.int (0 : Int32)), (.int (0 : Int32)), (.int (0 : Int32))] (.int (0 : Int32)) := V_b58
  have V_b3 := V_b3.other W79 ne_b3_b58
  have N79 := Fr.snoc X79 N78 gn_b58
  have Z0'''''''''''''''''''''''''''''''''''''''''''''''''' := Nat.le_trans Z0''''''''''''''''''''''''''''''''''''''''''''''''' (Keep.of_wr W79).1
  have O0 := O0.wr W79 gn_b58
  show Goes p e below s _ _ _ (T79.setTop (mkF m 292 #[.val (.int kk), .val (.int vv), .val (.ref b3), .unset, .unset, .unset, .unset, .unset, .unset, .unset, .unset, .unset, .unset, .unset] [(.ref b58)]))
  refine Goes.st (fun t_ k_ => XS.dup X79.here hx rfl (hb hby at_292) rfl rfl k_) ?_
  show Goes p e below s _ _ _ (T79.setTop (mkF m 293 #[.val (.int kk), .val (.int vv), .val (.ref b3), .unset, .unset, .unset, .unset, .unset, .unset, .unset, .unset, .unset, .unset, .unset] [(.ref b58), (.ref b58)]))
  refine Goes.st (fun t_ k_ => XS.bipush X79.here hx rfl (hb hby at_293) k_) ?_
  show Goes p e below s _ _ _ (T79.setTop (mkF m 295 #[.val (.int kk), .val (.int vv), .val (.ref b3), .unset, .unset, .unset, .unset, .unset, .unset, .unset, .unset, .unset, .unset, .unset] [(.int (21 : Int32)), (.ref b58), (.ref b58)]))
  refine Goes.st (fun t_ k_ => XS.iconst X79.here hx rfl (hb hby at_295) k_) ?_
  show Goes p e below s _ _ _ (T79.setTop (mkF m 296 #[.val (.int kk), .val (.int vv), .val (.ref b3), .unset, .unset, .unset, .unset, .unset, .unset, .unset, .unset, .unset, .unset, .unset] [(.int (0 : Int32)), (.int (21 : Int32)), (.ref b58), (.ref b58)]))
  obtain ⟨cl80, Ar80, q80, S80, M80, H80, G80⟩ := V_b58
  obtain ⟨T80, h80, X80, e80, W80, st80⟩ := stI X79 hx hZ e79 Ar80 (j := (21 : Int32)) (inb_of S80 ⟨by decide, by decide⟩) (g := (mkF m 296 #[.val (.int kk), .val (.int vv), .val (.ref b3), .unset, .unset, .unset, .unset, .unset, .unset, .unset, .unset, .unset, .unset, .unset] [(.int (0 : Int32)), (.int (21 : Int32)), (.ref b58), (.ref b58)])) rfl rfl (hb hby at_296)
  have V_b58 := Arv.set Ar80 q80 S80 M80 H80 G80 rfl W80 21 rfl (Nat.le_of_ble_eq_true rfl)
  refine Goes.st st80 ?_
  have V_b58 : Arv Z h80 b58 k58 .int (27 : Int32) [(.int (0 : Int32)), (.int (4 : Int32)), (.int (1 : Int32)), (.int (0 : Int32)), (.int (1 : Int32)), (.int (1 : Int32)), (.int (0 : Int32)), (.int (0 : Int32)), (.int (0 : Int32)), (.int (0 : Int32)), (.int (0 : Int32)), (.int (0 : Int32)), (.int (0 : Int32)), (.int (0 : Int32)), (.int (2 : Int32)), (.int (1 : Int32)), (.int (0 : Int32)), (.int (1 : Int32)), (.int (0 : Int32)), (.int (0 : Int32)), (.int (0 : Int32)), (.int (0 : Int32)), (.int (0 : Int32)), (.int (0 : Int32)), (.int (0 : Int32)), (.int (0 : Int32)), (.int (0 : Int32))] (.int (0 : Int32)) := V_b58
  have V_b3 := V_b3.other W80 ne_b3_b58
  have N80 := Fr.snoc X80 N79 gn_b58
  have Z0''''''''''''''''''''''''''''''''''''''''''''''''''' := Nat.le_trans Z0'''''''''''''''''''''''''''''''''''''''''''''''''' (Keep.of_wr W80).1
  have O0 := O0.wr W80 gn_b58
  show Goes p e below s _ _ _ (T80.setTop (mkF m 297 #[.val (.int kk), .val (.int vv), .val (.ref b3), .unset, .unset, .unset, .unset, .unset, .unset, .unset, .unset, .unset, .unset, .unset] [(.ref b58)]))
  refine Goes.st (fun t_ k_ => XS.dup X80.here hx rfl (hb hby at_297) rfl rfl k_) ?_
  show Goes p e below s _ _ _ (T80.setTop (mkF m 298 #[.val (.int kk), .val (.int vv), .val (.ref b3), .unset, .unset, .unset, .unset, .unset, .unset, .unset, .unset, .unset, .unset, .unset] [(.ref b58), (.ref b58)]))
  refine Goes.st (fun t_ k_ => XS.bipush X80.here hx rfl (hb hby at_298) k_) ?_
  show Goes p e below s _ _ _ (T80.setTop (mkF m 300 #[.val (.int kk), .val (.int vv), .val (.ref b3), .unset, .unset, .unset, .unset, .unset, .unset, .unset, .unset, .unset, .unset, .unset] [(.int (22 : Int32)), (.ref b58), (.ref b58)]))
  refine Goes.st (fun t_ k_ => XS.iconst X80.here hx rfl (hb hby at_300) k_) ?_
  show Goes p e below s _ _ _ (T80.setTop (mkF m 301 #[.val (.int kk), .val (.int vv), .val (.ref b3), .unset, .unset, .unset, .unset, .unset, .unset, .unset, .unset, .unset, .unset, .unset] [(.int (0 : Int32)), (.int (22 : Int32)), (.ref b58), (.ref b58)]))
  obtain ⟨cl81, Ar81, q81, S81, M81, H81, G81⟩ := V_b58
  obtain ⟨T81, h81, X81, e81, W81, st81⟩ := stI X80 hx hZ e80 Ar81 (j := (22 : Int32)) (inb_of S81 ⟨by decide, by decide⟩) (g := (mkF m 301 #[.val (.int kk), .val (.int vv), .val (.ref b3), .unset, .unset, .unset, .unset, .unset, .unset, .unset, .unset, .unset, .unset, .unset] [(.int (0 : Int32)), (.int (22 : Int32)), (.ref b58), (.ref b58)])) rfl rfl (hb hby at_301)
  have V_b58 := Arv.set Ar81 q81 S81 M81 H81 G81 rfl W81 22 rfl (Nat.le_of_ble_eq_true rfl)
  refine Goes.st st81 ?_
  have V_b58 : Arv Z h81 b58 k58 .int (27 : Int32) [(.int (0 : Int32)), (.int (4 : Int32)), (.int (1 : Int32)), (.int (0 : Int32)), (.int (1 : Int32)), (.int (1 : Int32)), (.int (0 : Int32)), (.int (0 : Int32)), (.int (0 : Int32)), (.int (0 : Int32)), (.int (0 : Int32)), (.int (0 : Int32)), (.int (0 : Int32)), (.int (0 : Int32)), (.int (2 : Int32)), (.int (1 : Int32)), (.int (0 : Int32)), (.int (1 : Int32)), (.int (0 : Int32)), (.int (0 : Int32)), (.int (0 : Int32)), (.int (0 : Int32)), (.int (0 : Int32)), (.int (0 : Int32)), (.int (0 : Int32)), (.int (0 : Int32)), (.int (0 : Int32))] (.int (0 : Int32)) := V_b58
  have V_b3 := V_b3.other W81 ne_b3_b58
  have N81 := Fr.snoc X81 N80 gn_b58
  have Z0'''''''''''''''''''''''''''''''''''''''''''''''''''' := Nat.le_trans Z0''''''''''''''''''''''''''''''''''''''''''''''''''' (Keep.of_wr W81).1
  have O0 := O0.wr W81 gn_b58
  show Goes p e below s _ _ _ (T81.setTop (mkF m 302 #[.val (.int kk), .val (.int vv), .val (.ref b3), .unset, .unset, .unset, .unset, .unset, .unset, .unset, .unset, .unset, .unset, .unset] [(.ref b58)]))
  refine Goes.st (fun t_ k_ => XS.dup X81.here hx rfl (hb hby at_302) rfl rfl k_) ?_
  show Goes p e below s _ _ _ (T81.setTop (mkF m 303 #[.val (.int kk), .val (.int vv), .val (.ref b3), .unset, .unset, .unset, .unset, .unset, .unset, .unset, .unset, .unset, .unset, .unset] [(.ref b58), (.ref b58)]))
  refine Goes.st (fun t_ k_ => XS.bipush X81.here hx rfl (hb hby at_303) k_) ?_
  show Goes p e below s _ _ _ (T81.setTop (mkF m 305 #[.val (.int kk), .val (.int vv), .val (.ref b3), .unset, .unset, .unset, .unset, .unset, .unset, .unset, .unset, .unset, .unset, .unset] [(.int (23 : Int32)), (.ref b58), (.ref b58)]))
  refine Goes.st (fun t_ k_ => XS.iconst X81.here hx rfl (hb hby at_305) k_) ?_
  show Goes p e below s _ _ _ (T81.setTop (mkF m 306 #[.val (.int kk), .val (.int vv), .val (.ref b3), .unset, .unset, .unset, .unset, .unset, .unset, .unset, .unset, .unset, .unset, .unset] [(.int (1 : Int32)), (.int (23 : Int32)), (.ref b58), (.ref b58)]))
  obtain ⟨cl82, Ar82, q82, S82, M82, H82, G82⟩ := V_b58
  obtain ⟨T82, h82, X82, e82, W82, st82⟩ := stI X81 hx hZ e81 Ar82 (j := (23 : Int32)) (inb_of S82 ⟨by decide, by decide⟩) (g := (mkF m 306 #[.val (.int kk), .val (.int vv), .val (.ref b3), .unset, .unset, .unset, .unset, .unset, .unset, .unset, .unset, .unset, .unset, .unset] [(.int (1 : Int32)), (.int (23 : Int32)), (.ref b58), (.ref b58)])) rfl rfl (hb hby at_306)
  have V_b58 := Arv.set Ar82 q82 S82 M82 H82 G82 rfl W82 23 rfl (Nat.le_of_ble_eq_true rfl)
  refine Goes.st st82 ?_
  have V_b58 : Arv Z h82 b58 k58 .int (27 : Int32) [(.int (0 : Int32)), (.int (4 : Int32)), (.int (1 : Int32)), (.int (0 : Int32)), (.int (1 : Int32)), (.int (1 : Int32)), (.int (0 : Int32)), (.int (0 : Int32)), (.int (0 : Int32)), (.int (0 : Int32)), (.int (0 : Int32)), (.int (0 : Int32)), (.int (0 : Int32)), (.int (0 : Int32)), (.int (2 : Int32)), (.int (1 : Int32)), (.int (0 : Int32)), (.int (1 : Int32)), (.int (0 : Int32)), (.int (0 : Int32)), (.int (0 : Int32)), (.int (0 : Int32)), (.int (0 : Int32)), (.int (1 : Int32)), (.int (0 : Int32)), (.int (0 : Int32)), (.int (0 : Int32))] (.int (0 : Int32)) := V_b58
  have V_b3 := V_b3.other W82 ne_b3_b58
  have N82 := Fr.snoc X82 N81 gn_b58
  have Z0''''''''''''''''''''''''''''''''''''''''''''''''''''' := Nat.le_trans Z0'''''''''''''''''''''''''''''''''''''''''''''''''''' (Keep.of_wr W82).1
  have O0 := O0.wr W82 gn_b58
  show Goes p e below s _ _ _ (T82.setTop (mkF m 307 #[.val (.int kk), .val (.int vv), .val (.ref b3), .unset, .unset, .unset, .unset, .unset, .unset, .unset, .unset, .unset, .unset, .unset] [(.ref b58)]))
  refine Goes.st (fun t_ k_ => XS.dup X82.here hx rfl (hb hby at_307) rfl rfl k_) ?_
  show Goes p e below s _ _ _ (T82.setTop (mkF m 308 #[.val (.int kk), .val (.int vv), .val (.ref b3), .unset, .unset, .unset, .unset, .unset, .unset, .unset, .unset, .unset, .unset, .unset] [(.ref b58), (.ref b58)]))
  refine Goes.st (fun t_ k_ => XS.bipush X82.here hx rfl (hb hby at_308) k_) ?_
  show Goes p e below s _ _ _ (T82.setTop (mkF m 310 #[.val (.int kk), .val (.int vv), .val (.ref b3), .unset, .unset, .unset, .unset, .unset, .unset, .unset, .unset, .unset, .unset, .unset] [(.int (24 : Int32)), (.ref b58), (.ref b58)]))
  refine Goes.st (fun t_ k_ => XS.iconst X82.here hx rfl (hb hby at_310) k_) ?_
  show Goes p e below s _ _ _ (T82.setTop (mkF m 311 #[.val (.int kk), .val (.int vv), .val (.ref b3), .unset, .unset, .unset, .unset, .unset, .unset, .unset, .unset, .unset, .unset, .unset] [(.int (1 : Int32)), (.int (24 : Int32)), (.ref b58), (.ref b58)]))
  obtain ⟨cl83, Ar83, q83, S83, M83, H83, G83⟩ := V_b58
  obtain ⟨T83, h83, X83, e83, W83, st83⟩ := stI X82 hx hZ e82 Ar83 (j := (24 : Int32)) (inb_of S83 ⟨by decide, by decide⟩) (g := (mkF m 311 #[.val (.int kk), .val (.int vv), .val (.ref b3), .unset, .unset, .unset, .unset, .unset, .unset, .unset, .unset, .unset, .unset, .unset] [(.int (1 : Int32)), (.int (24 : Int32)), (.ref b58), (.ref b58)])) rfl rfl (hb hby at_311)
  have V_b58 := Arv.set Ar83 q83 S83 M83 H83 G83 rfl W83 24 rfl (Nat.le_of_ble_eq_true rfl)
  refine Goes.st st83 ?_
  have V_b58 : Arv Z h83 b58 k58 .int (27 : Int32) [(.int (0 : Int32)), (.int (4 : Int32)), (.int (1 : Int32)), (.int (0 : Int32)), (.int (1 : Int32)), (.int (1 : Int32)), (.int (0 : Int32)), (.int (0 : Int32)), (.int (0 : Int32)), (.int (0 : Int32)), (.int (0 : Int32)), (.int (0 : Int32)), (.int (0 : Int32)), (.int (0 : Int32)), (.int (2 : Int32)), (.int (1 : Int32)), (.int (0 : Int32)), (.int (1 : Int32)), (.int (0 : Int32)), (.int (0 : Int32)), (.int (0 : Int32)), (.int (0 : Int32)), (.int (0 : Int32)), (.int (1 : Int32)), (.int (1 : Int32)), (.int (0 : Int32)), (.int (0 : Int32))] (.int (0 : Int32)) := V_b58
  have V_b3 := V_b3.other W83 ne_b3_b58
  have N83 := Fr.snoc X83 N82 gn_b58
  have Z0'''''''''''''''''''''''''''''''''''''''''''''''''''''' := Nat.le_trans Z0''''''''''''''''''''''''''''''''''''''''''''''''''''' (Keep.of_wr W83).1
  have O0 := O0.wr W83 gn_b58
  show Goes p e below s _ _ _ (T83.setTop (mkF m 312 #[.val (.int kk), .val (.int vv), .val (.ref b3), .unset, .unset, .unset, .unset, .unset, .unset, .unset, .unset, .unset, .unset, .unset] [(.ref b58)]))
  refine Goes.st (fun t_ k_ => XS.dup X83.here hx rfl (hb hby at_312) rfl rfl k_) ?_
  show Goes p e below s _ _ _ (T83.setTop (mkF m 313 #[.val (.int kk), .val (.int vv), .val (.ref b3), .unset, .unset, .unset, .unset, .unset, .unset, .unset, .unset, .unset, .unset, .unset] [(.ref b58), (.ref b58)]))
  refine Goes.st (fun t_ k_ => XS.bipush X83.here hx rfl (hb hby at_313) k_) ?_
  show Goes p e below s _ _ _ (T83.setTop (mkF m 315 #[.val (.int kk), .val (.int vv), .val (.ref b3), .unset, .unset, .unset, .unset, .unset, .unset, .unset, .unset, .unset, .unset, .unset] [(.int (25 : Int32)), (.ref b58), (.ref b58)]))
  refine Goes.st (fun t_ k_ => XS.iconst X83.here hx rfl (hb hby at_315) k_) ?_
  show Goes p e below s _ _ _ (T83.setTop (mkF m 316 #[.val (.int kk), .val (.int vv), .val (.ref b3), .unset, .unset, .unset, .unset, .unset, .unset, .unset, .unset, .unset, .unset, .unset] [(.int (1 : Int32)), (.int (25 : Int32)), (.ref b58), (.ref b58)]))
  obtain ⟨cl84, Ar84, q84, S84, M84, H84, G84⟩ := V_b58
  obtain ⟨T84, h84, X84, e84, W84, st84⟩ := stI X83 hx hZ e83 Ar84 (j := (25 : Int32)) (inb_of S84 ⟨by decide, by decide⟩) (g := (mkF m 316 #[.val (.int kk), .val (.int vv), .val (.ref b3), .unset, .unset, .unset, .unset, .unset, .unset, .unset, .unset, .unset, .unset, .unset] [(.int (1 : Int32)), (.int (25 : Int32)), (.ref b58), (.ref b58)])) rfl rfl (hb hby at_316)
  have V_b58 := Arv.set Ar84 q84 S84 M84 H84 G84 rfl W84 25 rfl (Nat.le_of_ble_eq_true rfl)
  refine Goes.st st84 ?_
  have V_b58 : Arv Z h84 b58 k58 .int (27 : Int32) [(.int (0 : Int32)), (.int (4 : Int32)), (.int (1 : Int32)), (.int (0 : Int32)), (.int (1 : Int32)), (.int (1 : Int32)), (.int (0 : Int32)), (.int (0 : Int32)), (.int (0 : Int32)), (.int (0 : Int32)), (.int (0 : Int32)), (.int (0 : Int32)), (.int (0 : Int32)), (.int (0 : Int32)), (.int (2 : Int32)), (.int (1 : Int32)), (.int (0 : Int32)), (.int (1 : Int32)), (.int (0 : Int32)), (.int (0 : Int32)), (.int (0 : Int32)), (.int (0 : Int32)), (.int (0 : Int32)), (.int (1 : Int32)), (.int (1 : Int32)), (.int (1 : Int32)), (.int (0 : Int32))] (.int (0 : Int32)) := V_b58
  have V_b3 := V_b3.other W84 ne_b3_b58
  have N84 := Fr.snoc X84 N83 gn_b58
  have Z0''''''''''''''''''''''''''''''''''''''''''''''''''''''' := Nat.le_trans Z0'''''''''''''''''''''''''''''''''''''''''''''''''''''' (Keep.of_wr W84).1
  have O0 := O0.wr W84 gn_b58
  show Goes p e below s _ _ _ (T84.setTop (mkF m 317 #[.val (.int kk), .val (.int vv), .val (.ref b3), .unset, .unset, .unset, .unset, .unset, .unset, .unset, .unset, .unset, .unset, .unset] [(.ref b58)]))
  refine Goes.st (fun t_ k_ => XS.dup X84.here hx rfl (hb hby at_317) rfl rfl k_) ?_
  show Goes p e below s _ _ _ (T84.setTop (mkF m 318 #[.val (.int kk), .val (.int vv), .val (.ref b3), .unset, .unset, .unset, .unset, .unset, .unset, .unset, .unset, .unset, .unset, .unset] [(.ref b58), (.ref b58)]))
  refine Goes.st (fun t_ k_ => XS.bipush X84.here hx rfl (hb hby at_318) k_) ?_
  show Goes p e below s _ _ _ (T84.setTop (mkF m 320 #[.val (.int kk), .val (.int vv), .val (.ref b3), .unset, .unset, .unset, .unset, .unset, .unset, .unset, .unset, .unset, .unset, .unset] [(.int (26 : Int32)), (.ref b58), (.ref b58)]))
  refine Goes.st (fun t_ k_ => XS.iconst X84.here hx rfl (hb hby at_320) k_) ?_
  show Goes p e below s _ _ _ (T84.setTop (mkF m 321 #[.val (.int kk), .val (.int vv), .val (.ref b3), .unset, .unset, .unset, .unset, .unset, .unset, .unset, .unset, .unset, .unset, .unset] [(.int (1 : Int32)), (.int (26 : Int32)), (.ref b58), (.ref b58)]))
  obtain ⟨cl85, Ar85, q85, S85, M85, H85, G85⟩ := V_b58
  obtain ⟨T85, h85, X85, e85, W85, st85⟩ := stI X84 hx hZ e84 Ar85 (j := (26 : Int32)) (inb_of S85 ⟨by decide, by decide⟩) (g := (mkF m 321 #[.val (.int kk), .val (.int vv), .val (.ref b3), .unset, .unset, .unset, .unset, .unset, .unset, .unset, .unset, .unset, .unset, .unset] [(.int (1 : Int32)), (.int (26 : Int32)), (.ref b58), (.ref b58)])) rfl rfl (hb hby at_321)
  have V_b58 := Arv.set Ar85 q85 S85 M85 H85 G85 rfl W85 26 rfl (Nat.le_of_ble_eq_true rfl)
  refine Goes.st st85 ?_
  have V_b58 : Arv Z h85 b58 k58 .int (27 : Int32) [(.int (0 : Int32)), (.int (4 : Int32)), (.int (1 : Int32)), (.int (0 : Int32)), (.int (1 : Int32)), (.int (1 : Int32)), (.int (0 : Int32)), (.int (0 : Int32)), (.int (0 : Int32)), (.int (0 : Int32)), (.int (0 : Int32)), (.int (0 : Int32)), (.int (0 : Int32)), (.int (0 : Int32)), (.int (2 : Int32)), (.int (1 : Int32)), (.int (0 : Int32)), (.int (1 : Int32)), (.int (0 : Int32)), (.int (0 : Int32)), (.int (0 : Int32)), (.int (0 : Int32)), (.int (0 : Int32)), (.int (1 : Int32)), (.int (1 : Int32)), (.int (1 : Int32)), (.int (1 : Int32))] (.int (0 : Int32)) := V_b58
  have V_b3 := V_b3.other W85 ne_b3_b58
  have N85 := Fr.snoc X85 N84 gn_b58
  have Z0'''''''''''''''''''''''''''''''''''''''''''''''''''''''' := Nat.le_trans Z0''''''''''''''''''''''''''''''''''''''''''''''''''''''' (Keep.of_wr W85).1
  have O0 := O0.wr W85 gn_b58
  show Goes p e below s _ _ _ (T85.setTop (mkF m 322 #[.val (.int kk), .val (.int vv), .val (.ref b3), .unset, .unset, .unset, .unset, .unset, .unset, .unset, .unset, .unset, .unset, .unset] [(.ref b58)]))
  refine Goes.st (fun t_ k_ => XS.astoreN X85.here hx rfl (hb hby at_322) rfl rfl (l' := #[.val (.int kk), .val (.int vv), .val (.ref b3), .val (.ref b58), .unset, .unset, .unset, .unset, .unset, .unset, .unset, .unset, .unset, .unset]) rfl k_) ?_
  show Goes p e below s _ _ _ (T85.setTop (mkF m 323 #[.val (.int kk), .val (.int vv), .val (.ref b3), .val (.ref b58), .unset, .unset, .unset, .unset, .unset, .unset, .unset, .unset, .unset, .unset] []))
  refine Goes.st (fun t_ k_ => XS.bipush X85.here hx rfl (hb hby at_323) k_) ?_
  show Goes p e below s _ _ _ (T85.setTop (mkF m 325 #[.val (.int kk), .val (.int vv), .val (.ref b3), .val (.ref b58), .unset, .unset, .unset, .unset, .unset, .unset, .unset, .unset, .unset, .unset] [(.int (27 : Int32))]))
  obtain ⟨T86, h86, k86, X86, e86, E86, A86, st86⟩ := newP X85 hx hZ (hw _ (List.mem_of_getElem? (i := 58) rfl)) e85 (g := (mkF m 325 #[.val (.int kk), .val (.int vv), .val (.ref b3), .val (.ref b58), .unset, .unset, .unset, .unset, .unset, .unset, .unset, .unset, .unset, .unset] [(.int (27 : Int32))])) rfl (hb hby at_325) rfl (by decide) (cap := 27) (by decide) (by decide) (by decide) (by decide)
  obtain ⟨b86, g86⟩ : ∃ z, z = h85.size := ⟨_, rfl⟩
  rw [← g86] at A86 st86
  have ne_b3_b86 : b3 ≠ b86 := Nat.ne_of_lt (Nat.lt_of_lt_of_le V_b3.lt (Nat.le_of_eq g86.symm))
  have ne_b58_b86 : b58 ≠ b86 := Nat.ne_of_lt (Nat.lt_of_lt_of_le V_b58.lt (Nat.le_of_eq g86.symm))
  have gn_b86 : n0 ≤ b86 := Nat.le_trans Z0'''''''''''''''''''''''''''''''''''''''''''''''''''''''' (Nat.le_of_eq g86.symm)
  refine Goes.st st86 ?_
  have V_b3 := V_b3.ext E86
  have V_b58 := V_b58.ext E86
  have Z0''''''''''''''''''''''''''''''''''''''''''''''''''''''''' := Nat.le_trans Z0'''''''''''''''''''''''''''''''''''''''''''''''''''''''' E86.1
  have O0 := O0.ext E86
  have V_b86 : Arv Z h86 b86 k86 .int (27 : Int32) [(.int (0 : Int32)), (.int (0 : Int32)), (.int (0 : Int32)), (.int (0 : Int32)), (.int (0 : Int32)), (.int (0 : Int32)), (.int (0 : Int32)), (.int (0 : Int32)), (.int (0 : Int32)), (.int (0 : Int32)), (.int (0 : Int32)), (.int (0 : Int32)), (.int (0 : Int32)), (.int (0 : Int32)), (.int (0 : Int32)), (.int (0 : Int32)), (.int (0 : Int32)), (.int (0 : Int32)), (.int (0 : Int32)), (.int (0 : Int32)), (.int (0 : Int32)), (.int (0 : Int32)), (.int (0 : Int32)), (.int (0 : Int32)), (.int (0 : Int32)), (.int (0 : Int32)), (.int (0 : Int32))] (.int (0 : Int32)) := (Arv.new A86 (by decide)).pad (pad_rep [] (.int (0 : Int32)) 27)
  show Goes p e below s _ _ _ (T86.setTop (mkF m 327 #[.val (.int kk), .val (.int vv), .val (.ref b3), .val (.ref b58), .unset, .unset, .unset, .unset, .unset, .unset, .unset, .unset, .unset, .unset] [(.ref b86)]))
  refine Goes.st (fun t_ k_ => XS.dup X86.here hx rfl (hb hby at_327) rfl rfl k_) ?_
  show Goes p e below s _ _ _ (T86.setTop (mkF m 328 #[.val (.int kk), .val (.int vv), .val (.ref b3), .val (.ref b58), .unset, .unset, .unset, .unset, .unset, .unset, .unset, .unset, .unset, .unset] [(.ref b86), (.ref b86)]))
  refine Goes.st (fun t_ k_ => XS.iconst X86.here hx rfl (hb hby at_328) k_) ?_
  show Goes p e below s _ _ _ (T86.setTop (mkF m 329 #[.val (.int kk), .val (.int vv), .val (.ref b3), .val (.ref b58), .unset, .unset, .unset, .unset, .unset, .unset, .unset, .unset, .unset, .unset] [(.int (0 : Int32)), (.ref b86), (.ref b86)]))
  refine Goes.st (fun t_ k_ => XS.bipush X86.here hx rfl (hb hby at_329) k_) ?_
  show Goes p e below s _ _ _ (T86.setTop (mkF m 331 #[.val (.int kk), .val (.int vv), .val (.ref b3), .val (.ref b58), .unset, .unset, .unset, .unset, .unset, .unset, .unset, .unset, .unset, .unset] [(.int (7 : Int32)), (.int (0 : Int32)), (.ref b86), (.ref b86)]))
  obtain ⟨cl87, Ar87, q87, S87, M87, H87, G87⟩ := V_b86
  obtain ⟨T87, h87, X87, e87, W87, st87⟩ := stI X86 hx hZ e86 Ar87 (j := (0 : Int32)) (inb_of S87 ⟨by decide, by decide⟩) (g := (mkF m 331 #[.val (.int kk), .val (.int vv), .val (.ref b3), .val (.ref b58), .unset, .unset, .unset, .unset, .unset, .unset, .unset, .unset, .unset, .unset] [(.int (7 : Int32)), (.int (0 : Int32)), (.ref b86), (.ref b86)])) rfl rfl (hb hby at_331)
  have V_b86 := Arv.set Ar87 q87 S87 M87 H87 G87 rfl W87 0 rfl (Nat.le_of_ble_eq_true rfl)
  refine Goes.st st87 ?_
  have V_b86 : Arv Z h87 b86 k86 .int (27 : Int32) [(.int (7 : Int32)), (.int (0 : Int32)), (.int (0 : Int32)), (.int (0 : Int32)), (.int (0 : Int32)), (.int (0 : Int32)), (.int (0 : Int32)), (.int (0 : Int32)), (.int (0 : Int32)), (.int (0 : Int32)), (.int (0 : Int32)), (.int (0 : Int32)), (.int (0 : Int32)), (.int (0 : Int32)), (.int (0 : Int32)), (.int (0 : Int32)), (.int (0 : Int32)), (.int (0 : Int32)), (.int (0 : Int32)), (.int (0 : Int32)), (.int (0 : Int32)), (.int (0 : Int32)), (.int (0 : Int32)), (.int (0 : Int32)), (.int (0 : Int32)), (.int (0 : Int32)), (.int (0 : Int32))] (.int (0 : Int32)) := V_b86
  have V_b3 := V_b3.other W87 ne_b3_b86
  have V_b58 := V_b58.other W87 ne_b58_b86
  have N87 := Fr.snoc X87 N85 gn_b86
  have Z0'''''''''''''''''''''''''''''''''''''''''''''''''''''''''' := Nat.le_trans Z0''''''''''''''''''''''''''''''''''''''''''''''''''''''''' (Keep.of_wr W87).1
  have O0 := O0.wr W87 gn_b86
  show Goes p e below s _ _ _ (T87.setTop (mkF m 332 #[.val (.int kk), .val (.int vv), .val (.ref b3), .val (.ref b58), .unset, .unset, .unset, .unset, .unset, .unset, .unset, .unset, .unset, .unset] [(.ref b86)]))
  refine Goes.st (fun t_ k_ => XS.dup X87.here hx rfl (hb hby at_332) rfl rfl k_) ?_
  show Goes p e below s _ _ _ (T87.setTop (mkF m 333 #[.val (.int kk), .val (.int vv), .val (.ref b3), .val (.ref b58), .unset, .unset, .unset, .unset, .unset, .unset, .unset, .unset, .unset, .unset] [(.ref b86), (.ref b86)]))
  refine Goes.st (fun t_ k_ => XS.iconst X87.here hx rfl (hb hby at_333) k_) ?_
  show Goes p e below s _ _ _ (T87.setTop (mkF m 334 #[.val (.int kk), .val (.int vv), .val (.ref b3), .val (.ref b58), .unset, .unset, .unset, .unset, .unset, .unset, .unset, .unset, .unset, .unset] [(.int (1 : Int32)), (.ref b86), (.ref b86)]))
  refine Goes.st (fun t_ k_ => XS.bipush X87.here hx rfl (hb hby at_334) k_) ?_
  show Goes p e below s _ _ _ (T87.setTop (mkF m 336 #[.val (.int kk), .val (.int vv), .val (.ref b3), .val (.ref b58), .unset, .unset, .unset, .unset, .unset, .unset, .unset, .unset, .unset, .unset] [(.int (11 : Int32)), (.int (1 : Int32)), (.ref b86), (.ref b86)]))
  obtain ⟨cl88, Ar88, q88, S88, M88, H88, G88⟩ := V_b86
  obtain ⟨T88, h88, X88, e88, W88, st88⟩ := stI X87 hx hZ e87 Ar88 (j := (1 : Int32)) (inb_of S88 ⟨by decide, by decide⟩) (g := (mkF m 336 #[.val (.int kk), .val (.int vv), .val (.ref b3), .val (.ref b58), .unset, .unset, .unset, .unset, .unset, .unset, .unset, .unset, .unset, .unset] [(.int (11 : Int32)), (.int (1 : Int32)), (.ref b86), (.ref b86)])) rfl rfl (hb hby at_336)
  have V_b86 := Arv.set Ar88 q88 S88 M88 H88 G88 rfl W88 1 rfl (Nat.le_of_ble_eq_true rfl)
  refine Goes.st st88 ?_
  have V_b86 : Arv Z h88 b86 k86 .int (27 : Int32) [(.int (7 : Int32)), (.int (11 : Int32)), (.int (0 : Int32)), (.int (0 : Int32)), (.int (0 : Int32)), (.int (0 : Int32)), (.int (0 : Int32)), (.int (0 : Int32)), (.int (0 : Int32)), (.int (0 : Int32)), (.int (0 : Int32)), (.int (0 : Int32)), (.int (0 : Int32)), (.int (0 : Int32)), (.int (0 : Int32)), (.int (0 : Int32)), (.int (0 : Int32)), (.int (0 : Int32)), (.int (0 : Int32)), (.int (0 : Int32)), (.int (0 : Int32)), (.int (0 : Int32)), (.int (0 : Int32)), (.int (0 : Int32)), (.int (0 : Int32)), (.int (0 : Int32)), (.int (0 : Int32))] (.int (0 : Int32)) := V_b86
  have V_b3 := V_b3.other W88 ne_b3_b86
  have V_b58 := V_b58.other W88 ne_b58_b86
  have N88 := Fr.snoc X88 N87 gn_b86
  have Z0''''''''''''''''''''''''''''''''''''''''''''''''''''''''''' := Nat.le_trans Z0'''''''''''''''''''''''''''''''''''''''''''''''''''''''''' (Keep.of_wr W88).1
  have O0 := O0.wr W88 gn_b86
  show Goes p e below s _ _ _ (T88.setTop (mkF m 337 #[.val (.int kk), .val (.int vv), .val (.ref b3), .val (.ref b58), .unset, .unset, .unset, .unset, .unset, .unset, .unset, .unset, .unset, .unset] [(.ref b86)]))
  refine Goes.st (fun t_ k_ => XS.dup X88.here hx rfl (hb hby at_337) rfl rfl k_) ?_
  show Goes p e below s _ _ _ (T88.setTop (mkF m 338 #[.val (.int kk), .val (.int vv), .val (.ref b3), .val (.ref b58), .unset, .unset, .unset, .unset, .unset, .unset, .unset, .unset, .unset, .unset] [(.ref b86), (.ref b86)]))
  refine Goes.st (fun t_ k_ => XS.iconst X88.here hx rfl (hb hby at_338) k_) ?_
  show Goes p e below s _ _ _ (T88.setTop (mkF m 339 #[.val (.int kk), .val (.int vv), .val (.ref b3), .val (.ref b58), .unset, .unset, .unset, .unset, .unset, .unset, .unset, .unset, .unset, .unset] [(.int (2 : Int32)), (.ref b86), (.ref b86)]))
  refine Goes.st (fun t_ k_ => XS.iconst X88.here hx rfl (hb hby at_339) k_) ?_
  show Goes p e below s _ _ _ (T88.setTop (mkF m 340 #[.val (.int kk), .val (.int vv), .val (.ref b3), .val (.ref b58), .unset, .unset, .unset, .unset, .unset, .unset, .unset, .unset, .unset, .unset] [(.int (2 : Int32)), (.int (2 : Int32)), (.ref b86), (.ref b86)]))
  obtain ⟨cl89, Ar89, q89, S89, M89, H89, G89⟩ := V_b86
  obtain ⟨T89, h89, X89, e89, W89, st89⟩ := stI X88 hx hZ e88 Ar89 (j := (2 : Int32)) (inb_of S89 ⟨by decide, by decide⟩) (g := (mkF m 340 #[.val (.int kk), .val (.int vv), .val (.ref b3), .val (.ref b58), .unset, .unset, .unset, .unset, .unset, .unset, .unset, .unset, .unset, .unset] [(.int (2 : Int32)), (.int (2 : Int32)), (.ref b86), (.ref b86)])) rfl rfl (hb hby at_340)
  have V_b86 := Arv.set Ar89 q89 S89 M89 H89 G89 rfl W89 2 rfl (Nat.le_of_ble_eq_true rfl)
  refine Goes.st st89 ?_
  have V_b86 : Arv Z h89 b86 k86 .int (27 : Int32) [(.int (7 : Int32)), (.int (11 : Int32)), (.int (2 : Int32)), (.int (0 : Int32)), (.int (0 : Int32)), (.int (0 : Int32)), (.int (0 : Int32)), (.int (0 : Int32)), (.int (0 : Int32)), (.int (0 : Int32)), (.int (0 : Int32)), (.int (0 : Int32)), (.int (0 : Int32)), (.int (0 : Int32)), (.int (0 : Int32)), (.int (0 : Int32)), (.int (0 : Int32)), (.int (0 : Int32)), (.int (0 : Int32)), (.int (0 : Int32)), (.int (0 : Int32)), (.int (0 : Int32)), (.int (0 : Int32)), (.int (0 : Int32)), (.int (0 : Int32)), (.int (0 : Int32)), (.int (0 : Int32))] (.int (0 : Int32)) := V_b86
  have V_b3 := V_b3.other W89 ne_b3_b86
  have V_b58 := V_b58.other W89 ne_b58_b86
  have N89 := Fr.snoc X89 N88 gn_b86
  have Z0'''''''''''''''''''''''''''''''''''''''''''''''''''''''''''' := Nat.le_trans Z0''''''''''''''''''''''''''''''''''''''''''''''''''''''''''' (Keep.of_wr W89).1
  have O0 := O0.wr W89 gn_b86
  show Goes p e below s _ _ _ (T89.setTop (mkF m 341 #[.val (.int kk), .val (.int vv), .val (.ref b3), .val (.ref b58), .unset, .unset, .unset, .unset, .unset, .unset, .unset, .unset, .unset, .unset] [(.ref b86)]))
  refine Goes.st (fun t_ k_ => XS.dup X89.here hx rfl (hb hby at_341) rfl rfl k_) ?_
  show Goes p e below s _ _ _ (T89.setTop (mkF m 342 #[.val (.int kk), .val (.int vv), .val (.ref b3), .val (.ref b58), .unset, .unset, .unset, .unset, .unset, .unset, .unset, .unset, .unset, .unset] [(.ref b86), (.ref b86)]))
  refine Goes.st (fun t_ k_ => XS.iconst X89.here hx rfl (hb hby at_342) k_) ?_
  show Goes p e below s _ _ _ (T89.setTop (mkF m 343 #[.val (.int kk), .val (.int vv), .val (.ref b3), .val (.ref b58), .unset, .unset, .unset, .unset, .unset, .unset, .unset, .unset, .unset, .unset] [(.int (3 : Int32)), (.ref b86), (.ref b86)]))
  refine Goes.st (fun t_ k_ => XS.bipush X89.here hx rfl (hb hby at_343) k_) ?_
  show Goes p e below s _ _ _ (T89.setTop (mkF m 345 #[.val (.int kk), .val (.int vv), .val (.ref b3), .val (.ref b58), .unset, .unset, .unset, .unset, .unset, .unset, .unset, .unset, .unset, .unset] [(.int (10 : Int32)), (.int (3 : Int32)), (.ref b86), (.ref b86)]))
  obtain ⟨cl90, Ar90, q90, S90, M90, H90, G90⟩ := V_b86
  obtain ⟨T90, h90, X90, e90, W90, st90⟩ := stI X89 hx hZ e89 Ar90 (j := (3 : Int32)) (inb_of S90 ⟨by decide, by decide⟩) (g := (mkF m 345 #[.val (.int kk), .val (.int vv), .val (.ref b3), .val (.ref b58), .unset, .unset, .unset, .unset, .unset, .unset, .unset, .unset, .unset, .unset] [(.int (10 : Int32)), (.int (3 : Int32)), (.ref b86), (.ref b86)])) rfl rfl (hb hby at_345)
  have V_b86 := Arv.set Ar90 q90 S90 M90 H90 G90 rfl W90 3 rfl (Nat.le_of_ble_eq_true rfl)
  refine Goes.st st90 ?_
  have V_b86 : Arv Z h90 b86 k86 .int (27 : Int32) [(.int (7 : Int32)), (.int (11 : Int32)), (.int (2 : Int32)), (.int (10 : Int32)), (.int (0 : Int32)), (.int (0 : Int32)), (.int (0 : Int32)), (.int (0 : Int32)), (.int (0 : Int32)), (.int (0 : Int32)), (.int (0 : Int32)), (.int (0 : Int32)), (.int (0 : Int32)), (.int (0 : Int32)), (.int (0 : Int32)), (.int (0 : Int32)), (.int (0 : Int32)), (.int (0 : Int32)), (.int (0 : Int32)), (.int (0 : Int32)), (.int (0 : Int32)), (.int (0 : Int32)), (.int (0 : Int32)), (.int (0 : Int32)), (.int (0 : Int32)), (.int (0 : Int32)), (.int (0 : Int32))] (.int (0 : Int32)) := V_b86
  have V_b3 := V_b3.other W90 ne_b3_b86
  have V_b58 := V_b58.other W90 ne_b58_b86
  have N90 := Fr.snoc X90 N89 gn_b86
  have Z0''''''''''''''''''''''''''''''''''''''''''''''''''''''''''''' := Nat.le_trans Z0'''''''''''''''''''''''''''''''''''''''''''''''''''''''''''' (Keep.of_wr W90).1
  have O0 := O0.wr W90 gn_b86
  show Goes p e below s _ _ _ (T90.setTop (mkF m 346 #[.val (.int kk), .val (.int vv), .val (.ref b3), .val (.ref b58), .unset, .unset, .unset, .unset, .unset, .unset, .unset, .unset, .unset, .unset] [(.ref b86)]))
  refine Goes.st (fun t_ k_ => XS.dup X90.here hx rfl (hb hby at_346) rfl rfl k_) ?_
  show Goes p e below s _ _ _ (T90.setTop (mkF m 347 #[.val (.int kk), .val (.int vv), .val (.ref b3), .val (.ref b58), .unset, .unset, .unset, .unset, .unset, .unset, .unset, .unset, .unset, .unset] [(.ref b86), (.ref b86)]))
  refine Goes.st (fun t_ k_ => XS.iconst X90.here hx rfl (hb hby at_347) k_) ?_
  show Goes p e below s _ _ _ (T90.setTop (mkF m 348 #[.val (.int kk), .val (.int vv), .val (.ref b3), .val (.ref b58), .unset, .unset, .unset, .unset, .unset, .unset, .unset, .unset, .unset, .unset] [(.int (4 : Int32)), (.ref b86), (.ref b86)]))
  refine Goes.st (fun t_ k_ => XS.bipush X90.here hx rfl (hb hby at_348) k_) ?_
  show Goes p e below s _ _ _ (T90.setTop (mkF m 350 #[.val (.int kk), .val (.int vv), .val (.ref b3), .val (.ref b58), .unset, .unset, .unset, .unset, .unset, .unset, .unset, .unset, .unset, .unset] [(.int (7 : Int32)), (.int (4 : Int32)), (.ref b86), (.ref b86)]))
  obtain ⟨cl91, Ar91, q91, S91, M91, H91, G91⟩ := V_b86
  obtain ⟨T91, h91, X91, e91, W91, st91⟩ := stI X90 hx hZ e90 Ar91 (j := (4 : Int32)) (inb_of S91 ⟨by decide, by decide⟩) (g := (mkF m 350 #[.val (.int kk), .val (.int vv), .val (.ref b3), .val (.ref b58), .unset, .unset, .unset, .unset, .unset, .unset, .unset, .unset, .unset, .unset] [(.int (7 : Int32)), (.int (4 : Int32)), (.ref b86), (.ref b86)])) rfl rfl (hb hby at_350)
  have V_b86 := Arv.set Ar91 q91 S91 M91 H91 G91 rfl W91 4 rfl (Nat.le_of_ble_eq_true rfl)
  refine Goes.st st91 ?_
  have V_b86 : Arv Z h91 b86 k86 .int (27 : Int32) [(.int (7 : Int32)), (.int (11 : Int32)), (.int (2 : Int32)), (.int (10 : Int32)), (.int (7 : Int32)), (.int (0 : Int32)), (.int (0 : Int32)), (.int (0 : Int32)), (.int (0 : Int32)), (.int (0 : Int32)), (.int (0 : Int32)), (.int (0 : Int32)), (.int (0 : Int32)), (.int (0 : Int32)), (.int (0 : Int32)), (.int (0 : Int32)), (.int (0 : Int32)), (.int (0 : Int32)), (.int (0 : Int32)), (.int (0 : Int32)), (.int (0 : Int32)), (.int (0 : Int32)), (.int (0 : Int32)), (.int (0 : Int32)), (.int (0 : Int32)), (.int (0 : Int32)), (.int (0 : Int32))] (.int (0 : Int32)) := V_b86
  have V_b3 := V_b3.other W91 ne_b3_b86
  have V_b58 := V_b58.other W91 ne_b58_b86
  have N91 := Fr.snoc X91 N90 gn_b86
  have Z0'''''''''''''''''''''''''''''''''''''''''''''''''''''''''''''' := Nat.le_trans Z0''''''''''''''''''''''''''''''''''''''''''''''''''''''''''''' (Keep.of_wr W91).1
  have O0 := O0.wr W91 gn_b86
  show Goes p e below s _ _ _ (T91.setTop (mkF m 351 #[.val (.int kk), .val (.int vv), .val (.ref b3), .val (.ref b58), .unset, .unset, .unset, .unset, .unset, .unset, .unset, .unset, .unset, .unset] [(.ref b86)]))
  refine Goes.st (fun t_ k_ => XS.dup X91.here hx rfl (hb hby at_351) rfl rfl k_) ?_
  show Goes p e below s _ _ _ (T91.setTop (mkF m 352 #[.val (.int kk), .val (.int vv), .val (.ref b3), .val (.ref b58), .unset, .unset, .unset, .unset, .unset, .unset, .unset, .unset, .unset, .unset] [(.ref b86), (.ref b86)]))
  refine Goes.st (fun t_ k_ => XS.iconst X91.here hx rfl (hb hby at_352) k_) ?_
  show Goes p e below s _ _ _ (T91.setTop (mkF m 353 #[.val (.int kk), .val (.int vv), .val (.ref b3), .val (.ref b58), .unset, .unset, .unset, .unset, .unset, .unset, .unset, .unset, .unset, .unset] [(.int (5 : Int32)), (.ref b86), (.ref b86)]))
  refine Goes.st (fun t_ k_ => XS.bipush X91.here hx rfl (hb hby at_353) k_) ?_
  show Goes p e below s _ _ _ (T91.setTop (mkF m 355 #[.val (.int kk), .val (.int vv), .val (.ref b3), .val (.ref b58), .unset, .unset, .unset, .unset, .unset, .unset, .unset, .unset, .unset, .unset] [(.int (7 : Int32)), (.int (5 : Int32)), (.ref b86), (.ref b86)]))
  obtain ⟨cl92, Ar92, q92, S92, M92, H92, G92⟩ := V_b86
  obtain ⟨T92, h92, X92, e92, W92, st92⟩ := stI X91 hx hZ e91 Ar92 (j := (5 : Int32)) (inb_of S92 ⟨by decide, by decide⟩) (g := (mkF m 355 #[.val (.int kk), .val (.int vv), .val (.ref b3), .val (.ref b58), .unset, .unset, .unset, .unset, .unset, .unset, .unset, .unset, .unset, .unset] [(.int (7 : Int32)), (.int (5 : Int32)), (.ref b86), (.ref b86)])) rfl rfl (hb hby at_355)
  have V_b86 := Arv.set Ar92 q92 S92 M92 H92 G92 rfl W92 5 rfl (Nat.le_of_ble_eq_true rfl)
  refine Goes.st st92 ?_
  have V_b86 : Arv Z h92 b86 k86 .int (27 : Int32) [(.int (7 : Int32)), (.int (11 : Int32)), (.int (2 : Int32)), (.int (10 : Int32)), (.int (7 : Int32)), (.int (7 : Int32)), (.int (0 : Int32)), (.int (0 : Int32)), (.int (0 : Int32)), (.int (0 : Int32)), (.int (0 : Int32)), (.int (0 : Int32)), (.int (0 : Int32)), (.int (0 : Int32)), (.int (0 : Int32)), (.int (0 : Int32)), (.int (0 : Int32)), (.int (0 : Int32)), (.int (0 : Int32)), (.int (0 : Int32)), (.int (0 : Int32)), (.int (0 : Int32)), (.int (0 : Int32)), (.int (0 : Int32)), (.int (0 : Int32)), (.int (0 : Int32)), (.int (0 : Int32))] (.int (0 : Int32)) := V_b86
  have V_b3 := V_b3.other W92 ne_b3_b86
  have V_b58 := V_b58.other W92 ne_b58_b86
  have N92 := Fr.snoc X92 N91 gn_b86
  have Z0''''''''''''''''''''''''''''''''''''''''''''''''''''''''''''''' := Nat.le_trans Z0'''''''''''''''''''''''''''''''''''''''''''''''''''''''''''''' (Keep.of_wr W92).1
  have O0 := O0.wr W92 gn_b86
  show Goes p e below s _ _ _ (T92.setTop (mkF m 356 #[.val (.int kk), .val (.int vv), .val (.ref b3), .val (.ref b58), .unset, .unset, .unset, .unset, .unset, .unset, .unset, .unset, .unset, .unset] [(.ref b86)]))
  refine Goes.st (fun t_ k_ => XS.dup X92.here hx rfl (hb hby at_356) rfl rfl k_) ?_
  show Goes p e below s _ _ _ (T92.setTop (mkF m 357 #[.val (.int kk), .val (.int vv), .val (.ref b3), .val (.ref b58), .unset, .unset, .unset, .unset, .unset, .unset, .unset, .unset, .unset, .unset] [(.ref b86), (.ref b86)]))
  refine Goes.st (fun t_ k_ => XS.bipush X92.here hx rfl (hb hby at_357) k_) ?_
  show Goes p e below s _ _ _ (T92.setTop (mkF m 359 #[.val (.int kk), .val (.int vv), .val (.ref b3), .val (.ref b58), .unset, .unset, .unset, .unset, .unset, .unset, .unset, .unset, .unset, .unset] [(.int (6 : Int32)), (.ref b86), (.ref b86)]))
  refine Goes.st (fun t_ k_ => XS.iconst X92.here hx rfl (hb hby at_359) k_) ?_
  show Goes p e below s _ _ _ (T92.setTop (mkF m 360 #[.val (.int kk), .val (.int vv), .val (.ref b3), .val (.ref b58), .unset, .unset, .unset, .unset, .unset, .unset, .unset, .unset, .unset, .unset] [(.int (2 : Int32)), (.int (6 : Int32)), (.ref b86), (.ref b86)]))
  obtain ⟨cl93, Ar93, q93, S93, M93, H93, G93⟩ := V_b86
  obtain ⟨T93, h93, X93, e93, W93, st93⟩ := stI X92 hx hZ e92 Ar93 (j := (6 : Int32)) (inb_of S93 ⟨by decide, by decide⟩) (g := (mkF m 360 #[.val (.int kk), .val (.int vv), .val (.ref b3), .val (.ref b58), .unset, .unset, .unset, .unset, .unset, .unset, .unset, .unset, .unset, .unset] [(.int (2 : Int32)), (.int (6 : Int32)), (.ref b86), (.ref b86)])) rfl rfl (hb hby at_360)
  have V_b86 := Arv.set Ar93 q93 S93 M93 H93 G93 rfl W93 6 rfl (Nat.le_of_ble_eq_true rfl)
  refine Goes.st st93 ?_
  have V_b86 : Arv Z h93 b86 k86 .int (27 : Int32) [(.int (7 : Int32)), (.int (11 : Int32)), (.int (2 : Int32)), (.int (10 : Int32)), (.int (7 : Int32)), (.int (7 : Int32)), (.int (2 : Int32)), (.int (0 : Int32)), (.int (0 : Int32)), (.int (0 : Int32)), (.int (0 : Int32)), (.int (0 : Int32)), (.int (0 : Int32)), (.int (0 : Int32)), (.int (0 : Int32)), (.int (0 : Int32)), (.int (0 : Int32)), (.int (0 : Int32)), (.int (0 : Int32)), (.int (0 : Int32)), (.int (0 : Int32)), (.int (0 : Int32)), (.int (0 : Int32)), (.int (0 : Int32)), (.int (0 : Int32)), (.int (0 : Int32)), (.int (0 : Int32))] (.int (0 : Int32)) := V_b86
  have V_b3 := V_b3.other W93 ne_b3_b86
  have V_b58 := V_b58.other W93 ne_b58_b86
  have N93 := Fr.snoc X93 N92 gn_b86
  have Z0'''''''''''''''''''''''''''''''''''''''''''''''''''''''''''''''' := Nat.le_trans Z0''''''''''''''''''''''''''''''''''''''''''''''''''''''''''''''' (Keep.of_wr W93).1
  have O0 := O0.wr W93 gn_b86
  show Goes p e below s _ _ _ (T93.setTop (mkF m 361 #[.val (.int kk), .val (.int vv), .val (.ref b3), .val (.ref b58), .unset, .unset, .unset, .unset, .unset, .unset, .unset, .unset, .unset, .unset] [(.ref b86)]))
  refine Goes.st (fun t_ k_ => XS.dup X93.here hx rfl (hb hby at_361) rfl rfl k_) ?_
  show Goes p e below s _ _ _ (T93.setTop (mkF m 362 #[.val (.int kk), .val (.int vv), .val (.ref b3), .val (.ref b58), .unset, .unset, .unset, .unset, .unset, .unset, .unset, .unset, .unset, .unset] [(.ref b86), (.ref b86)]))
  refine Goes.st (fun t_ k_ => XS.bipush X93.here hx rfl (hb hby at_362) k_) ?_
  show Goes p e below s _ _ _ (T93.setTop (mkF m 364 #[.val (.int kk), .val (.int vv), .val (.ref b3), .val (.ref b58), .unset, .unset, .unset, .unset, .unset, .unset, .unset, .unset, .unset, .unset] [(.int (7 : Int32)), (.ref b86), (.ref b86)]))
  refine Goes.st (fun t_ k_ => XS.iconst X93.here hx rfl (hb hby at_364) k_) ?_
  show Goes p e below s _ _ _ (T93.setTop (mkF m 365 #[.val (.int kk), .val (.int vv), .val (.ref b3), .val (.ref b58), .unset, .unset, .unset, .unset, .unset, .unset, .unset, .unset, .unset, .unset] [(.int (5 : Int32)), (.int (7 : Int32)), (.ref b86), (.ref b86)]))
  obtain ⟨cl94, Ar94, q94, S94, M94, H94, G94⟩ := V_b86
  obtain ⟨T94, h94, X94, e94, W94, st94⟩ := stI X93 hx hZ e93 Ar94 (j := (7 : Int32)) (inb_of S94 ⟨by decide, by decide⟩) (g := (mkF m 365 #[.val (.int kk), .val (.int vv), .val (.ref b3), .val (.ref b58), .unset, .unset, .unset, .unset, .unset, .unset, .unset, .unset, .unset, .unset] [(.int (5 : Int32)), (.int (7 : Int32)), (.ref b86), (.ref b86)])) rfl rfl (hb hby at_365)
  have V_b86 := Arv.set Ar94 q94 S94 M94 H94 G94 rfl W94 7 rfl (Nat.le_of_ble_eq_true rfl)
  refine Goes.st st94 ?_
  have V_b86 : Arv Z h94 b86 k86 .int (27 : Int32) [(.int (7 : Int32)), (.int (11 : Int32)), (.int (2 : Int32)), (.int (10 : Int32)), (.int (7 : Int32)), (.int (7 : Int32)), (.int (2 : Int32)), (.int (5 : Int32)), (.int (0 : Int32)), (.int (0 : Int32)), (.int (0 : Int32)), (.int (0 : Int32)), (.int (0 : Int32)), (.int (0 : Int32)), (.int (0 : Int32)), (.int (0 : Int32)), (.int (0 : Int32)), (.int (0 : Int32)), (.int (0 : Int32)), (.int (0 : Int32)), (.int (0 : Int32)), (.int (0 : Int32)), (.int (0 : Int32)), (.int (0 : Int32)), (.int (0 : Int32)), (.int (0 : Int32)), (.int (0 : Int32))] (.int (0 : Int32)) := V_b86
  have V_b3 := V_b3.other W94 ne_b3_b86
  have V_b58 := V_b58.other W94 ne_b58_b86
  have N94 := Fr.snoc X94 N93 gn_b86
  have Z0''''''''''''''''''''''''''''''''''''''''''''''''''''''''''''''''' := Nat.le_trans Z0'''''''''''''''''''''''''''''''''''''''''''''''''''''''''''''''' (Keep.of_wr W94).1
  have O0 := O0.wr W94 gn_b86
  show Goes p e below s _ _ _ (T94.setTop (mkF m 366 #[.val (.int kk), .val (.int vv), .val (.ref b3), .val (.ref b58), .unset, .unset, .unset, .unset, .unset, .unset, .unset, .unset, .unset, .unset] [(.ref b86)]))
  refine Goes.st (fun t_ k_ => XS.dup X94.here hx rfl (hb hby at_366) rfl rfl k_) ?_
  show Goes p e below s _ _ _ (T94.setTop (mkF m 367 #[.val (.int kk), .val (.int vv), .val (.ref b3), .val (.ref b58), .unset, .unset, .unset, .unset, .unset, .unset, .unset, .unset, .unset, .unset] [(.ref b86), (.ref b86)]))
  refine Goes.st (fun t_ k_ => XS.bipush X94.here hx rfl (hb hby at_367) k_) ?_
  show Goes p e below s _ _ _ (T94.setTop (mkF m 369 #[.val (.int kk), .val (.int vv), .val (.ref b3), .val (.ref b58), .unset, .unset, .unset, .unset, .unset, .unset, .unset, .unset, .unset, .unset] [(.int (8 : Int32)), (.ref b86), (.ref b86)]))
  refine Goes.st (fun t_ k_ => XS.iconst X94.here hx rfl (hb hby at_369) k_) ?_
  show Goes p e below s _ _ _ (T94.setTop (mkF m 370 #[.val (.int kk), .val (.int vv), .val (.ref b3), .val (.ref b58), .unset, .unset, .unset, .unset, .unset, .unset, .unset, .unset, .unset, .unset] [(.int (3 : Int32)), (.int (8 : Int32)), (.ref b86), (.ref b86)]))
  obtain ⟨cl95, Ar95, q95, S95, M95, H95, G95⟩ := V_b86
  obtain ⟨T95, h95, X95, e95, W95, st95⟩ := stI X94 hx hZ e94 Ar95 (j := (8 : Int32)) (inb_of S95 ⟨by decide, by decide⟩) (g := (mkF m 370 #[.val (.int kk), .val (.int vv), .val (.ref b3), .val (.ref b58), .unset, .unset, .unset, .unset, .unset, .unset, .unset, .unset, .unset, .unset] [(.int (3 : Int32)), (.int (8 : Int32)), (.ref b86), (.ref b86)])) rfl rfl (hb hby at_370)
  have V_b86 := Arv.set Ar95 q95 S95 M95 H95 G95 rfl W95 8 rfl (Nat.le_of_ble_eq_true rfl)
  refine Goes.st st95 ?_
  have V_b86 : Arv Z h95 b86 k86 .int (27 : Int32) [(.int (7 : Int32)), (.int (11 : Int32)), (.int (2 : Int32)), (.int (10 : Int32)), (.int (7 : Int32)), (.int (7 : Int32)), (.int (2 : Int32)), (.int (5 : Int32)), (.int (3 : Int32)), (.int (0 : Int32)), (.int (0 : Int32)), (.int (0 : Int32)), (.int (0 : Int32)), (.int (0 : Int32)), (.int (0 : Int32)), (.int (0 : Int32)), (.int (0 : Int32)), (.int (0 : Int32)), (.int (0 : Int32)), (.int (0 : Int32)), (.int (0 : Int32)), (.int (0 : Int32)), (.int (0 : Int32)), (.int (0 : Int32)), (.int (0 : Int32)), (.int (0 : Int32)), (.int (0 : Int32))] (.int (0 : Int32)) := V_b86
  have V_b3 := V_b3.other W95 ne_b3_b86
  have V_b58 := V_b58.other W95 ne_b58_b86
  have N95 := Fr.snoc X95 N94 gn_b86
  have Z0'''''''''''''''''''''''''''''''''''''''''''''''''''''''''''''''''' := Nat.le_trans Z0''''''''''''''''''''''''''''''''''''''''''''''''''''''''''''''''' (Keep.of_wr W95).1
  have O0 := O0.wr W95 gn_b86
  show Goes p e below s _ _ _ (T95.setTop (mkF m 371 #[.val (.int kk), .val (.int vv), .val (.ref b3), .val (.ref b58), .unset, .unset, .unset, .unset, .unset, .unset, .unset, .unset, .unset, .unset] [(.ref b86)]))
  refine Goes.st (fun t_ k_ => XS.dup X95.here hx rfl (hb hby at_371) rfl rfl k_) ?_
  show Goes p e below s _ _ _ (T95.setTop (mkF m 372 #[.val (.int kk), .val (.int vv), .val (.ref b3), .val (.ref b58), .unset, .unset, .unset, .unset, .unset, .unset, .unset, .unset, .unset, .unset] [(.ref b86), (.ref b86)]))
  refine Goes.st (fun t_ k_ => XS.bipush X95.here hx rfl (hb hby at_372) k_) ?_
  show Goes p e below s _ _ _ (T95.setTop (mkF m 374 #[.val (.int kk), .val (.int vv), .val (.ref b3), .val (.ref b58), .unset, .unset, .unset, .unset, .unset, .unset, .unset, .unset, .unset, .unset] [(.int (9 : Int32)), (.ref b86), (.ref b86)]))
  refine Goes.st (fun t_ k_ => XS.iconst X95.here hx rfl (hb hby at_374) k_) ?_
  show Goes p e below s _ _ _ (T95.setTop (mkF m 375 #[.val (.int kk), .val (.int vv), .val (.ref b3), .val (.ref b58), .unset, .unset, .unset, .unset, .unset, .unset, .unset, .unset, .unset, .unset] [(.int (1 : Int32)), (.int (9 : Int32)), (.ref b86), (.ref b86)]))
  obtain ⟨cl96, Ar96, q96, S96, M96, H96, G96⟩ := V_b86
  obtain ⟨T96, h96, X96, e96, W96, st96⟩ := stI X95 hx hZ e95 Ar96 (j := (9 : Int32)) (inb_of S96 ⟨by decide, by decide⟩) (g := (mkF m 375 #[.val (.int kk), .val (.int vv), .val (.ref b3), .val (.ref b58), .unset, .unset, .unset, .unset, .unset, .unset, .unset, .unset, .unset, .unset] [(.int (1 : Int32)), (.int (9 : Int32)), (.ref b86), (.ref b86)])) rfl rfl (hb hby at_375)
  have V_b86 := Arv.set Ar96 q96 S96 M96 H96 G96 rfl W96 9 rfl (Nat.le_of_ble_eq_true rfl)
  refine Goes.st st96 ?_
  have V_b86 : Arv Z h96 b86 k86 .int (27 : Int32) [(.int (7 : Int32)), (.int (11 : Int32)), (.int (2 : Int32)), (.int (10 : Int32)), (.int (7 : Int32)), (.int (7 : Int32)), (.int (2 : Int32)), (.int (5 : Int32)), (.int (3 : Int32)), (.int (1 : Int32)), (.int (0 : Int32)), (.int (0 : Int32)), (.int (0 : Int32)), (.int (0 : Int32)), (.int (0 : Int32)), (.int (0 : Int32)), (.int (0 : Int32)), (.int (0 : Int32)), (.int (0 : Int32)), (.int (0 : Int32)), (.int (0 : Int32)), (.int (0 : Int32)), (.int (0 : Int32)), (.int (0 : Int32)), (.int (0 : Int32)), (.int (0 : Int32)), (.int (0 : Int32))] (.int (0 : Int32)) := V_b86
  have V_b3 := V_b3.other W96 ne_b3_b86
  have V_b58 := V_b58.other W96 ne_b58_b86
  have N96 := Fr.snoc X96 N95 gn_b86
  have Z0''''''''''''''''''''''''''''''''''''''''''''''''''''''''''''''''''' := Nat.le_trans Z0'''''''''''''''''''''''''''''''''''''''''''''''''''''''''''''''''' (Keep.of_wr W96).1
  have O0 := O0.wr W96 gn_b86
  show Goes p e below s _ _ _ (T96.setTop (mkF m 376 #[.val (.int kk), .val (.int vv), .val (.ref b3), .val (.ref b58), .unset, .unset, .unset, .unset, .unset, .unset, .unset, .unset, .unset, .unset] [(.ref b86)]))
  refine Goes.st (fun t_ k_ => XS.dup X96.here hx rfl (hb hby at_376) rfl rfl k_) ?_
  show Goes p e below s _ _ _ (T96.setTop (mkF m 377 #[.val (.int kk), .val (.int vv), .val (.ref b3), .val (.ref b58), .unset, .unset, .unset, .unset, .unset, .unset, .unset, .unset, .unset, .unset] [(.ref b86), (.ref b86)]))
  refine Goes.st (fun t_ k_ => XS.bipush X96.here hx rfl (hb hby at_377) k_) ?_
  show Goes p e below s _ _ _ (T96.setTop (mkF m 379 #[.val (.int kk), .val (.int vv), .val (.ref b3), .val (.ref b58), .unset, .unset, .unset, .unset, .unset, .unset, .unset, .unset, .unset, .unset] [(.int (10 : Int32)), (.ref b86), (.ref b86)]))
  refine Goes.st (fun t_ k_ => XS.iconst X96.here hx rfl (hb hby at_379) k_) ?_
  show Goes p e below s _ _ _ (T96.setTop (mkF m 380 #[.val (.int kk), .val (.int vv), .val (.ref b3), .val (.ref b58), .unset, .unset, .unset, .unset, .unset, .unset, .unset, .unset, .unset, .unset] [(.int (3 : Int32)), (.int (10 : Int32)), (.ref b86), (.ref b86)]))
  obtain ⟨cl97, Ar97, q97, S97, M97, H97, G97⟩ := V_b86
  obtain ⟨T97, h97, X97, e97, W97, st97⟩ := stI X96 hx hZ e96 Ar97 (j := (10 : Int32)) (inb_of S97 ⟨by decide, by decide⟩) (g := (mkF m 380 #[.val (.int kk), .val (.int vv), .val (.ref b3), .val (.ref b58), .unset, .unset, .unset, .unset, .unset, .unset, .unset, .unset, .unset, .unset] [(.int (3 : Int32)), (.int (10 : Int32)), (.ref b86), (.ref b86)])) rfl rfl (hb hby at_380)
  have V_b86 := Arv.set Ar97 q97 S97 M97 H97 G97 rfl W97 10 rfl (Nat.le_of_ble_eq_true rfl)
  refine Goes.st st97 ?_
  have V_b86 : Arv Z h97 b86 k86 .int (27 : Int32) [(.int (7 : Int32)), (.int (11 : Int32)), (.int (2 : Int32)), (.int (10 : Int32)), (.int (7 : Int32)), (.int (7 : Int32)), (.int (2 : Int32)), (.int (5 : Int32)), (.int (3 : Int32)), (.int (1 : Int32)), (.int (3 : Int32)), (.int (0 : Int32)), (.int (0 : Int32)), (.int (0 : Int32)), (.int (0 : Int32)), (.int (0 : Int32)), (.int (0 : Int32)), (.int (0 : Int32)), (.int (0 : Int32)), (.int (0 : Int32)), (.int (0 : Int32)), (.int (0 : Int32)), (.int (0 : Int32)), (.int (0 : Int32)), (.int (0 : Int32)), (.int (0 : Int32)), (.int (0 : Int32))] (.int (0 : Int32)) := V_b86
  have V_b3 := V_b3.other W97 ne_b3_b86
  have V_b58 := V_b58.other W97 ne_b58_b86
  have N97 := Fr.snoc X97 N96 gn_b86
  have Z0'''''''''''''''''''''''''''''''''''''''''''''''''''''''''''''''''''' := Nat.le_trans Z0''''''''''''''''''''''''''''''''''''''''''''''''''''''''''''''''''' (Keep.of_wr W97).1
  have O0 := O0.wr W97 gn_b86
  show Goes p e below s _ _ _ (T97.setTop (mkF m 381 #[.val (.int kk), .val (.int vv), .val (.ref b3), .val (.ref b58), .unset, .unset, .unset, .unset, .unset, .unset, .unset, .unset, .unset, .unset] [(.ref b86)]))
  refine Goes.st (fun t_ k_ => XS.dup X97.here hx rfl (hb hby at_381) rfl rfl k_) ?_
  show Goes p e below s _ _ _ (T97.setTop (mkF m 382 #[.val (.int kk), .val (.int vv), .val (.ref b3), .val (.ref b58), .unset, .unset, .unset, .unset, .unset, .unset, .unset, .unset, .unset, .unset] [(.ref b86), (.ref b86)]))
  refine Goes.st (fun t_ k_ => XS.bipush X97.here hx rfl (hb hby at_382) k_) ?_
  show Goes p e below s _ _ _ (T97.setTop (mkF m 384 #[.val (.int kk), .val (.int vv), .val (.ref b3), .val (.ref b58), .unset, .unset, .unset, .unset, .unset, .unset, .unset, .unset, .unset, .unset] [(.int (11 : Int32)), (.ref b86), (.ref b86)]))
  refine Goes.st (fun t_ k_ => XS.bipush X97.here hx rfl (hb hby at_384) k_) ?_
  show Goes p e below s _ _ _ (T97.setTop (mkF m 386 #[.val (.int kk), .val (.int vv), .val (.ref b3), .val (.ref b58), .unset, .unset, .unset, .unset, .unset, .unset, .unset, .unset, .unset, .unset] [(.int (6 : Int32)), (.int (11 : Int32)), (.ref b86), (.ref b86)]))
  obtain ⟨cl98, Ar98, q98, S98, M98, H98, G98⟩ := V_b86
  obtain ⟨T98, h98, X98, e98, W98, st98⟩ := stI X97 hx hZ e97 Ar98 (j := (11 : Int32)) (inb_of S98 ⟨by decide, by decide⟩) (g := (mkF m 386 #[.val (.int kk), .val (.int vv), .val (.ref b3), .val (.ref b58), .unset, .unset, .unset, .unset, .unset, .unset, .unset, .unset, .unset, .unset] [(.int (6 : Int32)), (.int (11 : Int32)), (.ref b86), (.ref b86)])) rfl rfl (hb hby at_386)
  have V_b86 := Arv.set Ar98 q98 S98 M98 H98 G98 rfl W98 11 rfl (Nat.le_of_ble_eq_true rfl)
  refine Goes.st st98 ?_
  have V_b86 : Arv Z h98 b86 k86 .int (27 : Int32) [(.int (7 : Int32)), (.int (11 : Int32)), (.int (2 : Int32)), (.int (10 : Int32)), (.int (7 : Int32)), (.int (7 : Int32)), (.int (2 : Int32)), (.int (5 : Int32)), (.int (3 : Int32)), (.int (1 : Int32)), (.int (3 : Int32)), (.int (6 : Int32)), (.int (0 : Int32)), (.int (0 : Int32)), (.int (0 : Int32)), (.int (0 : Int32)), (.int (0 : Int32)), (.int (0 : Int32)), (.int (0 : Int32)), (.int (0 : Int32)), (.int (0 : Int32)), (.int (0 : Int32)), (.int (0 : Int32)), (.int (0 : Int32)), (.int (0 : Int32)), (.int (0 : Int32)), (.int (0 : Int32))] (.int (0 : Int32)) := V_b86
  have V_b3 := V_b3.other W98 ne_b3_b86
  have V_b58 := V_b58.other W98 ne_b58_b86
  have N98 := Fr.snoc X98 N97 gn_b86
  have Z0''''''''''''''''''''''''''''''''''''''''''''''''''''''''''''''''''''' := Nat.le_trans Z0'''''''''''''''''''''''''''''''''''''''''''''''''''''''''''''''''''' (Keep.of_wr W98).1
  have O0 := O0.wr W98 gn_b86
  show Goes p e below s _ _ _ (T98.setTop (mkF m 387 #[.val (.int kk), .val (.int vv), .val (.ref b3), .val (.ref b58), .unset, .unset, .unset, .unset, .unset, .unset, .unset, .unset, .unset, .unset] [(.ref b86)]))
  refine Goes.st (fun t_ k_ => XS.dup X98.here hx rfl (hb hby at_387) rfl rfl k_) ?_
  show Goes p e below s _ _ _ (T98.setTop (mkF m 388 #[.val (.int kk), .val (.int vv), .val (.ref b3), .val (.ref b58), .unset, .unset, .unset, .unset, .unset, .unset, .unset, .unset, .unset, .unset] [(.ref b86), (.ref b86)]))
  refine Goes.st (fun t_ k_ => XS.bipush X98.here hx rfl (hb hby at_388) k_) ?_
  show Goes p e below s _ _ _ (T98.setTop (mkF m 390 #[.val (.int kk), .val (.int vv), .val (.ref b3), .val (.ref b58), .unset, .unset, .unset, .unset, .unset, .unset, .unset, .unset, .unset, .unset] [(.int (12 : Int32)), (.ref b86), (.ref b86)]))
  refine Goes.st (fun t_ k_ => XS.iconst X98.here hx rfl (hb hby at_390) k_) ?_
  show Goes p e below s _ _ _ (T98.setTop (mkF m 391 #[.val (.int kk), .val (.int vv), .val (.ref b3), .val (.ref b58), .unset, .unset, .unset, .unset, .unset, .unset, .unset, .unset, .unset, .unset] [(.int (5 : Int32)), (.int (12 : Int32)), (.ref b86), (.ref b86)]))
  obtain ⟨cl99, Ar99, q99, S99, M99, H99, G99⟩ := V_b86
  obtain ⟨T99, h99, X99, e99, W99, st99⟩ := stI X98 hx hZ e98 Ar99 (j := (12 : Int32)) (inb_of S99 ⟨by decide, by decide⟩) (g := (mkF m 391 #[.val (.int kk), .val (.int vv), .val (.ref b3), .val (.ref b58), .unset, .unset, .unset, .unset, .unset, .unset, .unset, .unset, .unset, .unset] [(.int (5 : Int32)), (.int (12 : Int32)), (.ref b86), (.ref b86)])) rfl rfl (hb hby at_391)
  have V_b86 := Arv.set Ar99 q99 S99 M99 H99 G99 rfl W99 12 rfl (Nat.le_of_ble_eq_true rfl)
  refine Goes.st st99 ?_
  have V_b86 : Arv Z h99 b86 k86 .int (27 : Int32) [(.int (7 : Int32)), (.int (11 : Int32)), (.int (2 : Int32)), (.int (10 : Int32)), (.int (7 : Int32)), (.int (7 : Int32)), (.int (2 : Int32)), (.int (5 : Int32)), (.int (3 : Int32)), (.int (1 : Int32)), (.int (3 : Int32)), (.int (6 : Int32)), (.int (5 : Int32)), (.int (0 : Int32)), (.int (0 : Int32)), (.int (0 : Int32)), (.int (0 : Int32)), (.int (0 : Int32)), (.int (0 : Int32)), (.int (0 : Int32)), (.int (0 : Int32)), (.int (0 : Int32)), (.int (0 : Int32)), (.int (0 : Int32)), (.int (0 : Int32)), (.int (0 : Int32)), (.int (0 : Int32))] (.int (0 : Int32)) := V_b86
  have V_b3 := V_b3.other W99 ne_b3_b86
  have V_b58 := V_b58.other W99 ne_b58_b86
  have N99 := Fr.snoc X99 N98 gn_b86
  have Z0'''''''''''''''''''''''''''''''''''''''''''''''''''''''''''''''''''''' := Nat.le_trans Z0''''''''''''''''''''''''''''''''''''''''''''''''''''''''''''''''''''' (Keep.of_wr W99).1
  have O0 := O0.wr W99 gn_b86
  show Goes p e below s _ _ _ (T99.setTop (mkF m 392 #[.val (.int kk), .val (.int vv), .val (.ref b3), .val (.ref b58), .unset, .unset, .unset, .unset, .unset, .unset, .unset, .unset, .unset, .unset] [(.ref b86)]))
  refine Goes.st (fun t_ k_ => XS.dup X99.here hx rfl (hb hby at_392) rfl rfl k_) ?_
  show Goes p e below s _ _ _ (T99.setTop (mkF m 393 #[.val (.int kk), .val (.int vv), .val (.ref b3), .val (.ref b58), .unset, .unset, .unset, .unset, .unset, .unset, .unset, .unset, .unset, .unset] [(.ref b86), (.ref b86)]))
  refine Goes.st (fun t_ k_ => XS.bipush X99.here hx rfl (hb hby at_393) k_) ?_
  show Goes p e below s _ _ _ (T99.setTop (mkF m 395 #[.val (.int kk), .val (.int vv), .val (.ref b3), .val (.ref b58), .unset, .unset, .unset, .unset, .unset, .unset, .unset, .unset, .unset, .unset] [(.int (13 : Int32)), (.ref b86), (.ref b86)]))
  refine Goes.st (fun t_ k_ => XS.iconst X99.here hx rfl (hb hby at_395) k_) ?_
  show Goes p e below s _ _ _ (T99.setTop (mkF m 396 #[.val (.int kk), .val (.int vv), .val (.ref b3), .val (.ref b58), .unset, .unset, .unset, .unset, .unset, .unset, .unset, .unset, .unset, .unset] [(.int (4 : Int32)), (.int (13 : Int32)), (.ref b86), (.ref b86)]))
  obtain ⟨cl100, Ar100, q100, S100, M100, H100, G100⟩ := V_b86
  obtain ⟨T100, h100, X100, e100, W100, st100⟩ := stI X99 hx hZ e99 Ar100 (j := (13 : Int32)) (inb_of S100 ⟨by decide, by decide⟩) (g := (mkF m 396 #[.val (.int kk), .val (.int vv), .val (.ref b3), .val (.ref b58), .unset, .unset, .unset, .unset, .unset, .unset, .unset, .unset, .unset, .unset] [(.int (4 : Int32)), (.int (13 : Int32)), (.ref b86), (.ref b86)])) rfl rfl (hb hby at_396)
  have V_b86 := Arv.set Ar100 q100 S100 M100 H100 G100 rfl W100 13 rfl (Nat.le_of_ble_eq_true rfl)
  refine Goes.st st100 ?_
  have V_b86 : Arv Z h100 b86 k86 .int (27 : Int32) [(.int (7 : Int32)), (.int (11 : Int32)), (.int (2 : Int32)), (.int (10 : Int32)), (.int (7 : Int32)), (.int (7 : Int32)), (.int (2 : Int32)), (.int (5 : Int32)), (.int (3 : Int32)), (.int (1 : Int32)), (.int (3 : Int32)), (.int (6 : Int32)), (.int (5 : Int32)), (.int (4 : Int32)), (.int (0 : Int32)), (.int (0 : Int32)), (.int (0 : Int32)), (.int (0 : Int32)), (.int (0 : Int32)), (.int (0 : Int32)), (.int (0 : Int32)), (.int (0 : Int32)), (.int (0 : Int32)), (.int (0 : Int32)), (.int (0 : Int32)), (.int (0 : Int32)), (.int (0 : Int32))] (.int (0 : Int32)) := V_b86
  have V_b3 := V_b3.other W100 ne_b3_b86
  have V_b58 := V_b58.other W100 ne_b58_b86
  have N100 := Fr.snoc X100 N99 gn_b86
  have Z0''''''''''''''''''''''''''''''''''''''''''''''''''''''''''''''''''''''' := Nat.le_trans Z0'''''''''''''''''''''''''''''''''''''''''''''''''''''''''''''''''''''' (Keep.of_wr W100).1
  have O0 := O0.wr W100 gn_b86
  show Goes p e below s _ _ _ (T100.setTop (mkF m 397 #[.val (.int kk), .val (.int vv), .val (.ref b3), .val (.ref b58), .unset, .unset, .unset, .unset, .unset, .unset, .unset, .unset, .unset, .unset] [(.ref b86)]))
  refine Goes.st (fun t_ k_ => XS.dup X100.here hx rfl (hb hby at_397) rfl rfl k_) ?_
  show Goes p e below s _ _ _ (T100.setTop (mkF m 398 #[.val (.int kk), .val (.int vv), .val (.ref b3), .val (.ref b58), .unset, .unset, .unset, .unset, .unset, .unset, .unset, .unset, .unset, .unset] [(.ref b86), (.ref b86)]))
  refine Goes.st (fun t_ k_ => XS.bipush X100.here hx rfl (hb hby at_398) k_) ?_
  show Goes p e below s _ _ _ (T100.setTop (mkF m 400 #[.val (.int kk), .val (.int vv), .val (.ref b3), .val (.ref b58), .unset, .unset, .unset, .unset, .unset, .unset, .unset, .unset, .unset, .unset] [(.int (14 : Int32)), (.ref b86), (.ref b86)]))
  refine Goes.st (fun t_ k_ => XS.bipush X100.here hx rfl (hb hby at_400) k_) ?_
  show Goes p e below s _ _ _ (T100.setTop (mkF m 402 #[.val (.int kk), .val (.int vv), .val (.ref b3), .val (.ref b58), .unset, .unset, .unset, .unset, .unset, .unset, .unset, .unset, .unset, .unset] [(.int (7 : Int32)), (.int (14 : Int32)), (.ref b86), (.ref b86)]))
  obtain ⟨cl101, Ar101, q101, S101, M101, H101, G101⟩ := V_b86
  obtain ⟨T101, h101, X101, e101, W101, st101⟩ := stI X100 hx hZ e100 Ar101 (j := (14 : Int32)) (inb_of S101 ⟨by decide, by decide⟩) (g := (mkF m 402 #[.val (.int kk), .val (.int vv), .val (.ref b3), .val (.ref b58), .unset, .unset, .unset, .unset, .unset, .unset, .unset, .unset, .unset, .unset] [(.int (7 : Int32)), (.int (14 : Int32)), (.ref b86), (.ref b86)])) rfl rfl (hb hby at_402)
  have V_b86 := Arv.set Ar101 q101 S101 M101 H101 G101 rfl W101 14 rfl (Nat.le_of_ble_eq_true rfl)
  refine Goes.st st101 ?_
  have V_b86 : Arv Z h101 b86 k86 .int (27 : Int32) [(.int (7 : Int32)), (.int (11 : Int32)), (.int (2 : Int32)), (.int (10 : Int32)), (.int (7 : Int32)), (.int (7 : Int32)), (.int (2 : Int32)), (.int (5 : Int32)), (.int (3 : Int32)), (.int (1 : Int32)), (.int (3 : Int32)), (.int (6 : Int32)), (.int (5 : Int32)), (.int (4 : Int32)), (.int (7 : Int32)), (.int (0 : Int32)), (.int (0 : Int32)), (.int (0 : Int32)), (.int (0 : Int32)), (.int (0 : Int32)), (.int (0 : Int32)), (.int (0 : Int32)), (.int (0 : Int32)), (.int (0 : Int32)), (.int (0 : Int32)), (.int (0 : Int32)), (.int (0 : Int32))] (.int (0 : Int32)) := V_b86
  have V_b3 := V_b3.other W101 ne_b3_b86
  have V_b58 := V_b58.other W101 ne_b58_b86
  have N101 := Fr.snoc X101 N100 gn_b86
  have Z0'''''''''''''''''''''''''''''''''''''''''''''''''''''''''''''''''''''''' := Nat.le_trans Z0''''''''''''''''''''''''''''''''''''''''''''''''''''''''''''''''''''''' (Keep.of_wr W101).1
  have O0 := O0.wr W101 gn_b86
  show Goes p e below s _ _ _ (T101.setTop (mkF m 403 #[.val (.int kk), .val (.int vv), .val (.ref b3), .val (.ref b58), .unset, .unset, .unset, .unset, .unset, .unset, .unset, .unset, .unset, .unset] [(.ref b86)]))
  refine Goes.st (fun t_ k_ => XS.dup X101.here hx rfl (hb hby at_403) rfl rfl k_) ?_
  show Goes p e below s _ _ _ (T101.setTop (mkF m 404 #[.val (.int kk), .val (.int vv), .val (.ref b3), .val (.ref b58), .unset, .unset, .unset, .unset, .unset, .unset, .unset, .unset, .unset, .unset] [(.ref b86), (.ref b86)]))
  refine Goes.st (fun t_ k_ => XS.bipush X101.here hx rfl (hb hby at_404) k_) ?_
  show Goes p e below s _ _ _ (T101.setTop (mkF m 406 #[.val (.int kk), .val (.int vv), .val (.ref b3), .val (.ref b58), .unset, .unset, .unset, .unset, .unset, .unset, .unset, .unset, .unset, .unset] [(.int (15 : Int32)), (.ref b86), (.ref b86)]))
  refine Goes.st (fun t_ k_ => XS.bipush X101.here hx rfl (hb hby at_406) k_) ?_
  show Goes p e below s _ _ _ (T101.setTop (mkF m 408 #[.val (.int kk), .val (.int vv), .val (.ref b3), .val (.ref b58), .unset, .unset, .unset, .unset, .unset, .unset, .unset, .unset, .unset, .unset] [(.int (6 : Int32)), (.int (15 : Int32)), (.ref b86), (.ref b86)]))
  obtain ⟨cl102, Ar102, q102, S102, M102, H102, G102⟩ := V_b86
  obtain ⟨T102, h102, X102, e102, W102, st102⟩ := stI X101 hx hZ e101 Ar102 (j := (15 : Int32)) (inb_of S102 ⟨by decide, by decide⟩) (g := (mkF m 408 #[.val (.int kk), .val (.int vv), .val (.ref b3), .val (.ref b58), .unset, .unset, .unset, .unset, .unset, .unset, .unset, .unset, .unset, .unset] [(.int (6 : Int32)), (.int (15 : Int32)), (.ref b86), (.ref b86)])) rfl rfl (hb hby at_408)
  have V_b86 := Arv.set Ar102 q102 S102 M102 H102 G102 rfl W102 15 rfl (Nat.le_of_ble_eq_true rfl)
  refine Goes.st st102 ?_
  have V_b86 : Arv Z h102 b86 k86 .int (27 : Int32) [(.int (7 : Int32)), (.int (11 : Int32)), (.int (2 : Int32)), (.int (10 : Int32)), (.int (7 : Int32)), (.int (7 : Int32)), (.int (2 : Int32)), (.int (5 : Int32)), (.int (3 : Int32)), (.int (1 : Int32)), (.int (3 : Int32)), (.int (6 : Int32)), (.int (5 : Int32)), (.int (4 : Int32)), (.int (7 : Int32)), (.int (6 : Int32)), (.int (0 : Int32)), (.int (0 : Int32)), (.int (0 : Int32)), (.int (0 : Int32)), (.int (0 : Int32)), (.int (0 : Int32)), (.int (0 : Int32)), (.int (0 : Int32)), (.int (0 : Int32)), (.int (0 : Int32)), (.int (0 : Int32))] (.int (0 : Int32)) := V_b86
  have V_b3 := V_b3.other W102 ne_b3_b86
  have V_b58 := V_b58.other W102 ne_b58_b86
  have N102 := Fr.snoc X102 N101 gn_b86
  have Z0''''''''''''''''''''''''''''''''''''''''''''''''''''''''''''''''''''''''' := Nat.le_trans Z0'''''''''''''''''''''''''''''''''''''''''''''''''''''''''''''''''''''''' (Keep.of_wr W102).1
  have O0 := O0.wr W102 gn_b86
  show Goes p e below s _ _ _ (T102.setTop (mkF m 409 #[.val (.int kk), .val (.int vv), .val (.ref b3), .val (.ref b58), .unset, .unset, .unset, .unset, .unset, .unset, .unset, .unset, .unset, .unset] [(.ref b86)]))
  refine Goes.st (fun t_ k_ => XS.dup X102.here hx rfl (hb hby at_409) rfl rfl k_) ?_
  show Goes p e below s _ _ _ (T102.setTop (mkF m 410 #[.val (.int kk), .val (.int vv), .val (.ref b3), .val (.ref b58), .unset, .unset, .unset, .unset, .unset, .unset, .unset, .unset, .unset, .unset] [(.ref b86), (.ref b86)]))
  refine Goes.st (fun t_ k_ => XS.bipush X102.here hx rfl (hb hby at_410) k_) ?_
  show Goes p e below s _ _ _ (T102.setTop (mkF m 412 #[.val (.int kk), .val (.int vv), .val (.ref b3), .val (.ref b58), .unset, .unset, .unset, .unset, .unset, .unset, .unset, .unset, .unset, .unset] [(.int (16 : Int32)), (.ref b86), (.ref b86)]))
  refine Goes.st (fun t_ k_ => XS.iconst X102.here hx rfl (hb hby at_412) k_) ?_
  show Goes p e below s _ _ _ (T102.setTop (mkF m 413 #[.val (.int kk), .val (.int vv), .val (.ref b3), .val (.ref b58), .unset, .unset, .unset, .unset, .unset, .unset, .unset, .unset, .unset, .unset] [(.int (5 : Int32)), (.int (16 : Int32)), (.ref b86), (.ref b86)]))
  obtain ⟨cl103, Ar103, q103, S103, M103, H103, G103⟩ := V_b86
  obtain ⟨T103, h103, X103, e103, W103, st103⟩ := stI X102 hx hZ e102 Ar103 (j := (16 : Int32)) (inb_of S103 ⟨by decide, by decide⟩) (g := (mkF m 413 #[.val (.int kk), .val (.int vv), .val (.ref b3), .val (.ref b58), .unset, .unset, .unset, .unset, .unset, .unset, .unset, .unset, .unset, .unset] [(.int (5 : Int32)), (.int (16 : Int32)), (.ref b86), (.ref b86)])) rfl rfl (hb hby at_413)
  have V_b86 := Arv.set Ar103 q103 S103 M103 H103 G103 rfl W103 16 rfl (Nat.le_of_ble_eq_true rfl)
  refine Goes.st st103 ?_
  have V_b86 : Arv Z h103 b86 k86 .int (27 : Int32) [(.int (7 : Int32)), (.int (11 : Int32)), (.int (2 : Int32)), (.int (10 : Int32)), (.int (7 : Int32)), (.int (7 : Int32)), (.int (2 : Int32)), (.int (5 : Int32)), (.int (3 : Int32)), (.int (1 : Int32)), (.int (3 : Int32)), (.int (6 : Int32)), (.int (5 : Int32)), (.int (4 : Int32)), (.int (7 : Int32)), (.int (6 : Int32)), (.int (5 : Int32)), (.int (0 : Int32)), (.int (0 : Int32)), (.int (0 : Int32)), (.int (0 : Int32)), (.int (0 : Int32)), (.int (0 : Int32)), (.int (0 : Int32)), (.int (0 : Int32)), (.int (0 : Int32)), (.int (0 : Int32))] (.int (0 : Int32)) := V_b86
  have V_b3 := V_b3.other W103 ne_b3_b86
  have V_b58 := V_b58.other W103 ne_b58_b86
  have N103 := Fr.snoc X103 N102 gn_b86
  have Z0'''''''''''''''''''''''''''''''''''''''''''''''''''''''''''''''''''''''''' := Nat.le_trans Z0''''''''''''''''''''''''''''''''''''''''''''''''''''''''''''''''''''''''' (Keep.of_wr W103).1
  have O0 := O0.wr W103 gn_b86
  show Goes p e below s _ _ _ (T103.setTop (mkF m 414 #[.val (.int kk), .val (.int vv), .val (.ref b3), .val (.ref b58), .unset, .unset, .unset, .unset, .unset, .unset, .unset, .unset, .unset, .unset] [(.ref b86)]))
  refine Goes.st (fun t_ k_ => XS.dup X103.here hx rfl (hb hby at_414) rfl rfl k_) ?_
  show Goes p e below s _ _ _ (T103.setTop (mkF m 415 #[.val (.int kk), .val (.int vv), .val (.ref b3), .val (.ref b58), .unset, .unset, .unset, .unset, .unset, .unset, .unset, .unset, .unset, .unset] [(.ref b86), (.ref b86)]))
  refine Goes.st (fun t_ k_ => XS.bipush X103.here hx rfl (hb hby at_415) k_) ?_
  show Goes p e below s _ _ _ (T103.setTop (mkF m 417 #[.val (.int kk), .val (.int vv), .val (.ref b3), .val (.ref b58), .unset, .unset, .unset, .unset, .unset, .unset, .unset, .unset, .unset, .unset] [(.int (17 : Int32)), (.ref b86), (.ref b86)]))
  refine Goes.st (fun t_ k_ => XS.iconst X103.here hx rfl (hb hby at_417) k_) ?_
  show Goes p e below s _ _ _ (T103.setTop (mkF m 418 #[.val (.int kk), .val (.int vv), .val (.ref b3), .val (.ref b58), .unset, .unset, .unset, .unset, .unset, .unset, .unset, .unset, .unset, .unset] [(.int (4 : Int32)), (.int (17 : Int32)), (.ref b86), (.ref b86)]))
  obtain ⟨cl104, Ar104, q104, S104, M104, H104, G104⟩ := V_b86
  obtain ⟨T104, h104, X104, e104, W104, st104⟩ := stI X103 hx hZ e103 Ar104 (j := (17 : Int32)) (inb_of S104 ⟨by decide, by decide⟩) (g := (mkF m 418 #[.val (.int kk), .val (.int vv), .val (.ref b3), .val (.ref b58), .unset, .unset, .unset, .unset, .unset, .unset, .unset, .unset, .unset, .unset] [(.int (4 : Int32)), (.int (17 : Int32)), (.ref b86), (.ref b86)])) rfl rfl (hb hby at_418)
  have V_b86 := Arv.set Ar104 q104 S104 M104 H104 G104 rfl W104 17 rfl (Nat.le_of_ble_eq_true rfl)
  refine Goes.st st104 ?_
  have V_b86 : Arv Z h104 b86 k86 .int (27 : Int32) [(.int (7 : Int32)), (.int (11 : Int32)), (.int (2 : Int32)), (.int (10 : Int32)), (.int (7 : Int32)), (.int (7 : Int32)), (.int (2 : Int32)), (.int (5 : Int32)), (.int (3 : Int32)), (.int (1 : Int32)), (.int (3 : Int32)), (.int (6 : Int32)), (.int (5 : Int32)), (.int (4 : Int32)), (.int (7 : Int32)), (.int (6 : Int32)), (.int (5 : Int32)), (.int (4 : Int32)), (.int (0 : Int32)), (.int (0 : Int32)), (.int (0 : Int32)), (.int (0 : Int32)), (.int (0 : Int32)), (.int (0 : Int32)), (.int (0 : Int32)), (.int (0 : Int32)), (.int (0 : Int32))] (.int (0 : Int32)) := V_b86
  have V_b3 := V_b3.other W104 ne_b3_b86
  have V_b58 := V_b58.other W104 ne_b58_b86
  have N104 := Fr.snoc X104 N103 gn_b86
  have Z0''''''''''''''''''''''''''''''''''''''''''''''''''''''''''''''''''''''''''' := Nat.le_trans Z0'''''''''''''''''''''''''''''''''''''''''''''''''''''''''''''''''''''''''' (Keep.of_wr W104).1
  have O0 := O0.wr W104 gn_b86
  show Goes p e below s _ _ _ (T104.setTop (mkF m 419 #[.val (.int kk), .val (.int vv), .val (.ref b3), .val (.ref b58), .unset, .unset, .unset, .unset, .unset, .unset, .unset, .unset, .unset, .unset] [(.ref b86)]))
  refine Goes.st (fun t_ k_ => XS.dup X104.here hx rfl (hb hby at_419) rfl rfl k_) ?_
  show Goes p e below s _ _ _ (T104.setTop (mkF m 420 #[.val (.int kk), .val (.int vv), .val (.ref b3), .val (.ref b58), .unset, .unset, .unset, .unset, .unset, .unset, .unset, .unset, .unset, .unset] [(.ref b86), (.ref b86)]))
  refine Goes.st (fun t_ k_ => XS.bipush X104.here hx rfl (hb hby at_420) k_) ?_
  show Goes p e below s _ _ _ (T104.setTop (mkF m 422 #[.val (.int kk), .val (.int vv), .val (.ref b3), .val (.ref b58), .unset, .unset, .unset, .unset, .unset, .unset, .unset, .unset, .unset, .unset] [(.int (18 : Int32)), (.ref b86), (.ref b86)]))
  refine Goes.st (fun t_ k_ => XS.iconst X104.here hx rfl (hb hby at_422) k_) ?_
  show Goes p e below s _ _ _ (T104.setTop (mkF m 423 #[.val (.int kk), .val (.int vv), .val (.ref b3), .val (.ref b58), .unset, .unset, .unset, .unset, .unset, .unset, .unset, .unset, .unset, .unset] [(.int (2 : Int32)), (.int (18 : Int32)), (.ref b86), (.ref b86)]))
  obtain ⟨cl105, Ar105, q105, S105, M105, H105, G105⟩ := V_b86
  obtain ⟨T105, h105, X105, e105, W105, st105⟩ := stI X104 hx hZ e104 Ar105 (j := (18 : Int32)) (inb_of S105 ⟨by decide, by decide⟩) (g := (mkF m 423 #[.val (.int kk), .val (.int vv), .val (.ref b3), .val (.ref b58), .unset, .unset, .unset, .unset, .unset, .unset, .unset, .unset, .unset, .unset] [(.int (2 : Int32)), (.int (18 : Int32)), (.ref b86), (.ref b86)])) rfl rfl (hb hby at_423)
  have V_b86 := Arv.set Ar105 q105 S105 M105 H105 G105 rfl W105 18 rfl (Nat.le_of_ble_eq_true rfl)
  refine Goes.st st105 ?_
  have V_b86 : Arv Z h105 b86 k86 .int (27 : Int32) [(.int (7 : Int32)), (.int (11 : Int32)), (.int (2 : Int32)), (.int (10 : Int32)), (.int (7 : Int32)), (.int (7 : Int32)), (.int (2 : Int32)), (.int (5 : Int32)), (.int (3 : Int32)), (.int (1 : Int32)), (.int (3 : Int32)), (.int (6 : Int32)), (.int (5 : Int32)), (.int (4 : Int32)), (.int (7 : Int32)), (.int (6 : Int32)), (.int (5 : Int32)), (.int (4 : Int32)), (.int (2 : Int32)), (.int (0 : Int32)), (.int (0 : Int32)), (.int (0 : Int32)), (.int (0 : Int32)), (.int (0 : Int32)), (.int (0 : Int32)), (.int (0 : Int32)), (.int (0 : Int32))] (.int (0 : Int32)) := V_b86
  have V_b3 := V_b3.other W105 ne_b3_b86
  have V_b58 := V_b58.other W105 ne_b58_b86
  have N105 := Fr.snoc X105 N104 gn_b86
  have Z0'''''''''''''''''''''''''''''''''''''''''''''''''''''''''''''''''''''''''''' := Nat.le_trans Z0''''''''''''''''''''''''''''''''''''''''''''''''''''''''''''''''''''''''''' (Keep.of_wr W105).1
  have O0 := O0.wr W105 gn_b86
  show Goes p e below s _ _ _ (T105.setTop (mkF m 424 #[.val (.int kk), .val (.int vv), .val (.ref b3), .val (.ref b58), .unset, .unset, .unset, .unset, .unset, .unset, .unset, .unset, .unset, .unset] [(.ref b86)]))
  refine Goes.st (fun t_ k_ => XS.dup X105.here hx rfl (hb hby at_424) rfl rfl k_) ?_
  show Goes p e below s _ _ _ (T105.setTop (mkF m 425 #[.val (.int kk), .val (.int vv), .val (.ref b3), .val (.ref b58), .unset, .unset, .unset, .unset, .unset, .unset, .unset, .unset, .unset, .unset] [(.ref b86), (.ref b86)]))
  refine Goes.st (fun t_ k_ => XS.bipush X105.here hx rfl (hb hby at_425) k_) ?_
  show Goes p e below s _ _ _ (T105.setTop (mkF m 427 #[.val (.int kk), .val (.int vv), .val (.ref b3), .val (.ref b58), .unset, .unset, .unset, .unset, .unset, .unset, .unset, .unset, .unset, .unset] [(.int (19 : Int32)), (.ref b86), (.ref b86)]))
  refine Goes.st (fun t_ k_ => XS.iconst X105.here hx rfl (hb hby at_427) k_) ?_
  show Goes p e below s _ _ _ (T105.setTop (mkF m 428 #[.val (.int kk), .val (.int vv), .val (.ref b3), .val (.ref b58), .unset, .unset, .unset, .unset, .unset, .unset, .unset, .unset, .unset, .unset] [(.int (1 : Int32)), (.int (19 : Int32)), (.ref b86), (.ref b86)]))
  obtain ⟨cl106, Ar106, q106, S106, M106, H106, G106⟩ := V_b86
  obtain ⟨T106, h106, X106, e106, W106, st106⟩ := stI X105 hx hZ e105 Ar106 (j := (19 : Int32)) (inb_of S106 ⟨by decide, by decide⟩) (g := (mkF m 428 #[.val (.int kk), .val (.int vv), .val (.ref b3), .val (.ref b58), .unset, .unset, .unset, .unset, .unset, .unset, .unset, .unset, .unset, .unset] [(.int (1 : Int32)), (.int (19 : Int32)), (.ref b86), (.ref b86)])) rfl rfl (hb hby at_428)
  have V_b86 := Arv.set Ar106 q106 S106 M106 H106 G106 rfl W106 19 rfl (Nat.le_of_ble_eq_true rfl)
  refine Goes.st st106 ?_
  have V_b86 : Arv Z h106 b86 k86 .int (27 : Int32) [(.int (7 : Int32)), (.int (11 : Int32)), (.int (2 : Int32)), (.int (10 : Int32)), (.int (7 : Int32)), (.int (7 : Int32)), (.int (2 : Int32)), (.int (5 : Int32)), (.int (3 : Int32)), (.int (1 : Int32)), (.int (3 : Int32)), (.int (6 : Int32)), (.int (5 : Int32)), (.int (4 : Int32)), (.int (7 : Int32)), (.int (6 : Int32)), (.int (5 : Int32)), (.int (4 : Int32)), (.int (2 : Int32)), (.int (1 : Int32)), (.int (0 : Int32)), (.int (0 : Int32)), (.int (0 : Int32)), (.int (0 : Int32)), (.int (0 : Int32)), (.int (0 : Int32)), (.int (0 : Int32))] (.int (0 : Int32)) := V_b86
  have V_b3 := V_b3.other W106 ne_b3_b86
  have V_b58 := V_b58.other W106 ne_b58_b86
  have N106 := Fr.snoc X106 N105 gn_b86
  have Z0''''''''''''''''''''''''''''''''''''''''''''''''''''''''''''''''''''''''''''' := Nat.le_trans Z0'''''''''''''''''''''''''''''''''''''''''''''''''''''''''''''''''''''''''''' (Keep.of_wr W106).1
  have O0 := O0.wr W106 gn_b86
  show Goes p e below s _ _ _ (T106.setTop (mkF m 429 #[.val (.int kk), .val (.int vv), .val (.ref b3), .val (.ref b58), .unset, .unset, .unset, .unset, .unset, .unset, .unset, .unset, .unset, .unset] [(.ref b86)]))
  refine Goes.st (fun t_ k_ => XS.dup X106.here hx rfl (hb hby at_429) rfl rfl k_) ?_
  show Goes p e below s _ _ _ (T106.setTop (mkF m 430 #[.val (.int kk), .val (.int vv), .val (.ref b3), .val (.ref b58), .unset, .unset, .unset, .unset, .unset, .unset, .unset, .unset, .unset, .unset] [(.ref b86), (.ref b86)]))
  refine Goes.st (fun t_ k_ => XS.bipush X106.here hx rfl (hb hby at_430) k_) ?_
  show Goes p e below s _ _ _ (T106.setTop (mkF m 432 #[.val (.int kk), .val (.int vv), .val (.ref b3), .val (.ref b58), .unset, .unset, .unset, .unset, .unset, .unset, .unset, .unset, .unset, .unset] [(.int (20 : Int32)), (.ref b86), (.ref b86)]))
  refine Goes.st (fun t_ k_ => XS.iconst X106.here hx rfl (hb hby at_432) k_) ?_
  show Goes p e below s _ _ _ (T106.setTop (mkF m 433 #[.val (.int kk), .val (.int vv), .val (.ref b3), .val (.ref b58), .unset, .unset, .unset, .unset, .unset, .unset, .unset, .unset, .unset, .unset] [(.int (0 : Int32)), (.int (20 : Int32)), (.ref b86), (.ref b86)]))
  obtain ⟨cl107, Ar107, q107, S107, M107, H107, G107⟩ := V_b86
  obtain ⟨T107, h107, X107, e107, W107, st107⟩ := stI X106 hx hZ e106 Ar107 (j := (20 : Int32)) (inb_of S107 ⟨by decide, by decide⟩) (g := (mkF m 433 #[.val (.int kk), .val (.int vv), .val (.ref b3), .val (.ref b58), .unset, .unset, .unset, .unset, .unset, .unset, .unset, .unset, .unset, .unset] [(.int (0 : Int32)), (.int (20 : Int32)), (.ref b86), (.ref b86)])) rfl rfl (hb hby at_433)
  have V_b86 := Arv.set Ar107 q107 S107 M107 H107 G107 rfl W107 20 rfl (Nat.le_of_ble_eq_true rfl)
  refine Goes.st st107 ?_
  have V_b86 : Arv Z h107 b86 k86 .int (27 : Int32) [(.int (7 : Int32)), (.int (11 : Int32)), (.int (2 : Int32)), (.int (10 : Int32)), (.int (7 : Int32)), (.int (7 : Int32)), (.int (2 : Int32)), (.int (5 : Int32)), (.int (3 : Int32)), (.int (1 : Int32)), (.int (3 : Int32)), (.int (6 : Int32)), (.int (5 : Int32)), (.int (4 : Int32)), (.int (7 : Int32)), (.int (6 : Int32)), (.int (5 : Int32)), (.int (4 : Int32)), (.int (2 : Int32)), (.int (1 : Int32)), (.int (0 : Int32)), (.int (0 : Int32)), (.int (0 : Int32)), (.int (0 : Int32)), (.int (0 : Int32)), (.int (0 : Int32)), (.int (0 : Int32))] (.int (0 : Int32)) := V_b86
  have V_b3 := V_b3.other W107 ne_b3_b86
  have V_b58 := V_b58.other W107 ne_b58_b86
  have N107 := Fr.snoc X107 N106 gn_b86
  have Z0'''''''''''''''''''''''''''''''''''''''''''''''''''''''''''''''''''''''''''''' := Nat.le_trans Z0''''''''''''''''''''''''''''''''''''''''''''''''''''''''''''''''''''''''''''' (Keep.of_wr W107).1
  have O0 := O0.wr W107 gn_b86
  show Goes p e below s _ _ _ (T107.setTop (mkF m 434 #[.val (.int kk), .val (.int vv), .val (.ref b3), .val (.ref b58), .unset, .unset, .unset, .unset, .unset, .unset, .unset, .unset, .unset, .unset] [(.ref b86)]))
  refine Goes.st (fun t_ k_ => XS.dup X107.here hx rfl (hb hby at_434) rfl rfl k_) ?_
  show Goes p e below s _ _ _ (T107.setTop (mkF m 435 #[.val (.int kk), .val (.int vv), .val (.ref b3), .val (.ref b58), .unset, .unset, .unset, .unset, .unset, .unset, .unset, .unset, .unset, .unset] [(.ref b86), (.ref b86)]))
  refine Goes.st (fun t_ k_ => XS.bipush X107.here hx rfl (hb hby at_435) k_) ?_
  show Goes p e below s _ _ _ (T107.setTop (mkF m 437 #[.val (.int kk), .val (.int vv), .val (.ref b3), .val (.ref b58), .unset, .unset, .unset, .unset, .unset, .unset, .unset, .unset, .unset, .unset] [(.int (21 : Int32)), (.ref b86), (.ref b86)]))
  refine Goes.st (fun t_ k_ => XS.iconst X107.here hx rfl (hb hby at_437) k_) ?_
  show Goes p e below s _ _ _ (T107.setTop (mkF m 438 #[.val (.int kk), .val (.int vv), .val (.ref b3), .val (.ref b58), .unset, .unset, .unset, .unset, .unset, .unset, .unset, .unset, .unset, .unset] [(.int (0 : Int32)), (.int (21 : Int32)), (.ref b86), (.ref b86)]))
  obtain ⟨cl108, Ar108, q108, S108, M108, H108, G108⟩ := V_b86
  obtain ⟨T108, h108, X108, e108, W108, st108⟩ := stI X107 hx hZ e107 Ar108 (j := (21 : Int32)) (inb_of S108 ⟨by decide, by decide⟩) (g := (mkF m 438 #[.val (.int kk), .val (.int vv), .val (.ref b3), .val (.ref b58), .unset, .unset, .unset, .unset, .unset, .unset, .unset, .unset, .unset, .unset] [(.int (0 : Int32)), (.int (21 : Int32)), (.ref b86), (.ref b86)])) rfl rfl (hb hby at_438)
  have V_b86 := Arv.set Ar108 q108 S108 M108 H108 G108 rfl W108 21 rfl (Nat.le_of_ble_eq_true rfl)
  refine Goes.st st108 ?_
  have V_b86 : Arv Z h108 b86 k86 .int (27 : Int32) [(.int (7 : Int32)), (.int (11 : Int32)), (.int (2 : Int32)), (.int (10 : Int32)), (.int (7 : Int32)), (.int (7 : Int32)), (.int (2 : Int32)), (.int (5 : Int32)), (.int (3 : Int32)), (.int (1 : Int32)), (.int (3 : Int32)), (.int (6 : Int32)), (.int (5 : Int32)), (.int (4 : Int32)), (.int (7 : Int32)), (.int (6 : Int32)), (.int (5 : Int32)), (.int (4 : Int32)), (.int (2 : Int32)), (.int (1 : Int32)), (.int (0 : Int32)), (.int (0 : Int32)), (.int (0 : Int32)), (.int (0 : Int32)), (.int (0 : Int32)), (.int (0 : Int32)), (.int (0 : Int32))] (.int (0 : Int32)) := V_b86
  have V_b3 := V_b3.other W108 ne_b3_b86
  have V_b58 := V_b58.other W108 ne_b58_b86
  have N108 := Fr.snoc X108 N107 gn_b86
  have Z0''''''''''''''''''''''''''''''''''''''''''''''''''''''''''''''''''''''''''''''' := Nat.le_trans Z0'''''''''''''''''''''''''''''''''''''''''''''''''''''''''''''''''''''''''''''' (Keep.of_wr W108).1
  have O0 := O0.wr W108 gn_b86
  show Goes p e below s _ _ _ (T108.setTop (mkF m 439 #[.val (.int kk), .val (.int vv), .val (.ref b3), .val (.ref b58), .unset, .unset, .unset, .unset, .unset, .unset, .unset, .unset, .unset, .unset] [(.ref b86)]))
  refine Goes.st (fun t_ k_ => XS.dup X108.here hx rfl (hb hby at_439) rfl rfl k_) ?_
  show Goes p e below s _ _ _ (T108.setTop (mkF m 440 #[.val (.int kk), .val (.int vv), .val (.ref b3), .val (.ref b58), .unset, .unset, .unset, .unset, .unset, .unset, .unset, .unset, .unset, .unset] [(.ref b86), (.ref b86)]))
  refine Goes.st (fun t_ k_ => XS.bipush X108.here hx rfl (hb hby at_440) k_) ?_
  show Goes p e below s _ _ _ (T108.setTop (mkF m 442 #[.val (.int kk), .val (.int vv), .val (.ref b3), .val (.ref b58), .unset, .unset, .unset, .unset, .unset, .unset, .unset, .unset, .unset, .unset] [(.int (22 : Int32)), (.ref b86), (.ref b86)]))
  refine Goes.st (fun t_ k_ => XS.iconst X108.here hx rfl (hb hby at_442) k_) ?_
  show Goes p e below s _ _ _ (T108.setTop (mkF m 443 #[.val (.int kk), .val (.int vv), .val (.ref b3), .val (.ref b58), .unset, .unset, .unset, .unset, .unset, .unset, .unset, .unset, .unset, .unset] [(.int (1 : Int32)), (.int (22 : Int32)), (.ref b86), (.ref b86)]))
  obtain ⟨cl109, Ar109, q109, S109, M109, H109, G109⟩ := V_b86
  obtain ⟨T109, h109, X109, e109, W109, st109⟩ := stI X108 hx hZ e108 Ar109 (j := (22 : Int32)) (inb_of S109 ⟨by decide, by decide⟩) (g := (mkF m 443 #[.val (.int kk), .val (.int vv), .val (.ref b3), .val (.ref b58), .unset, .unset, .unset, .unset, .unset, .unset, .unset, .unset, .unset, .unset] [(.int (1 : Int32)), (.int (22 : Int32)), (.ref b86), (.ref b86)])) rfl rfl (hb hby at_443)
  have V_b86 := Arv.set Ar109 q109 S109 M109 H109 G109 rfl W109 22 rfl (Nat.le_of_ble_eq_true rfl)
  refine Goes.st st109 ?_
  have V_b86 : Arv Z h109 b86 k86 .int (27 : Int32) [(.int (7 : Int32)), (.int (11 : Int32)), (.int (2 : Int32)), (.int (10 : Int32)), (.int (7 : Int32)), (.int (7 : Int32)), (.int (2 : Int32)), (.int (5 : Int32)), (.int (3 : Int32)), (.int (1 : Int32)), (.int (3 : Int32)), (.int (6 : Int32)), (.int (5 : Int32)), (.int (4 : Int32)), (.int (7 : Int32)), (.int (6 : Int32)), (.int (5 : Int32)), (.int (4 : Int32)), (.int (2 : Int32)), (.int (1 : Int32)), (.int (0 : Int32)), (.int (0 : Int32)), (.int (1 : Int32)), (.int (0 : Int32)), (.int (0 : Int32)), (.int (0 : Int32)), (.int (0 : Int32))] (.int (0 : Int32)) := V_b86
  have V_b3 := V_b3.other W109 ne_b3_b86
  have V_b58 := V_b58.other W109 ne_b58_b86
  have N109 := Fr.snoc X109 N108 gn_b86
  have Z0'''''''''''''''''''''''''''''''''''''''''''''''''''''''''''''''''''''''''''''''' := Nat.le_trans Z0''''''''''''''''''''''''''''''''''''''''''''''''''''''''''''''''''''''''''''''' (Keep.of_wr W109).1
  have O0 := O0.wr W109 gn_b86
  show Goes p e below s _ _ _ (T109.setTop (mkF m 444 #[.val (.int kk), .val (.int vv), .val (.ref b3), .val (.ref b58), .unset, .unset, .unset, .unset, .unset, .unset, .unset, .unset, .unset, .unset] [(.ref b86)]))
  refine Goes.st (fun t_ k_ => XS.dup X109.here hx rfl (hb hby at_444) rfl rfl k_) ?_
  show Goes p e below s _ _ _ (T109.setTop (mkF m 445 #[.val (.int kk), .val (.int vv), .val (.ref b3), .val (.ref b58), .unset, .unset, .unset, .unset, .unset, .unset, .unset, .unset, .unset, .unset] [(.ref b86), (.ref b86)]))
  refine Goes.st (fun t_ k_ => XS.bipush X109.here hx rfl (hb hby at_445) k_) ?_
  show Goes p e below s _ _ _ (T109.setTop (mkF m 447 #[.val (.int kk), .val (.int vv), .val (.ref b3), .val (.ref b58), .unset, .unset, .unset, .unset, .unset, .unset, .unset, .unset, .unset, .unset] [(.int (23 : Int32)), (.ref b86), (.ref b86)]))
  refine Goes.st (fun t_ k_ => XS.iconst X109.here hx rfl (hb hby at_447) k_) ?_
  show Goes p e below s _ _ _ (T109.setTop (mkF m 448 #[.val (.int kk), .val (.int vv), .val (.ref b3), .val (.ref b58), .unset, .unset, .unset, .unset, .unset, .unset, .unset, .unset, .unset, .unset] [(.int (1 : Int32)), (.int (23 : Int32)), (.ref b86), (.ref b86)]))
  obtain ⟨cl110, Ar110, q110, S110, M110, H110, G110⟩ := V_b86
  obtain ⟨T110, h110, X110, e110, W110, st110⟩ := stI X109 hx hZ e109 Ar110 (j := (23 : Int32)) (inb_of S110 ⟨by decide, by decide⟩) (g := (mkF m 448 #[.val (.int kk), .val (.int vv), .val (.ref b3), .val (.ref b58), .unset, .unset, .unset, .unset, .unset, .unset, .unset, .unset, .unset, .unset] [(.int (1 : Int32)), (.int (23 : Int32)), (.ref b86), (.ref b86)])) rfl rfl (hb hby at_448)
  have V_b86 := Arv.set Ar110 q110 S110 M110 H110 G110 rfl W110 23 rfl (Nat.le_of_ble_eq_true rfl)
  refine Goes.st st110 ?_
  have V_b86 : Arv Z h110 b86 k86 .int (27 : Int32) [(.int (7 : Int32)), (.int (11 : Int32)), (.int (2 : Int32)), (.int (10 : Int32)), (.int (7 : Int32)), (.int (7 : Int32)), (.int (2 : Int32)), (.int (5 : Int32)), (.int (3 : Int32)), (.int (1 : Int32)), (.int (3 : Int32)), (.int (6 : Int32)), (.int (5 : Int32)), (.int (4 : Int32)), (.int (7 : Int32)), (.int (6 : Int32)), (.int (5 : Int32)), (.int (4 : Int32)), (.int (2 : Int32)), (.int (1 : Int32)), (.int (0 : Int32)), (.int (0 : Int32)), (.int (1 : Int32)), (.int (1 : Int32)), (.int (0 : Int32)), (.int (0 : Int32)), (.int (0 : Int32))] (.int (0 : Int32)) := V_b86
  have V_b3 := V_b3.other W110 ne_b3_b86
  have V_b58 := V_b58.other W110 ne_b58_b86
  have N110 := Fr.snoc X110 N109 gn_b86
  have Z0''''''''''''''''''''''''''''''''''''''''''''''''''''''''''''''''''''''''''''''''' := Nat.le_trans Z0'''''''''''''''''''''''''''''''''''''''''''''''''''''''''''''''''''''''''''''''' (Keep.of_wr W110).1
  have O0 := O0.wr W110 gn_b86
  show Goes p e below s _ _ _ (T110.setTop (mkF m 449 #[.val (.int kk), .val (.int vv), .val (.ref b3), .val (.ref b58), .unset, .unset, .unset, .unset, .unset, .unset, .unset, .unset, .unset, .unset] [(.ref b86)]))
  refine Goes.st (fun t_ k_ => XS.dup X110.here hx rfl (hb hby at_449) rfl rfl k_) ?_
  show Goes p e below s _ _ _ (T110.setTop (mkF m 450 #[.val (.int kk), .val (.int vv), .val (.ref b3), .val (.ref b58), .unset, .unset, .unset, .unset, .unset, .unset, .unset, .unset, .unset, .unset] [(.ref b86), (.ref b86)]))
  refine Goes.st (fun t_ k_ => XS.bipush X110.here hx rfl (hb hby at_450) k_) ?_
  show Goes p e below s _ _ _ (T110.setTop (mkF m 452 #[.val (.int kk), .val (.int vv), .val (.ref b3), .val (.ref b58), .unset, .unset, .unset, .unset, .unset, .unset, .unset, .unset, .unset, .unset] [(.int (24 : Int32)), (.ref b86), (.ref b86)]))
  refine Goes.st (fun t_ k_ => XS.iconst X110.here hx rfl (hb hby at_452) k_) ?_
  show Goes p e below s _ _ _ (T110.setTop (mkF m 453 #[.val (.int kk), .val (.int vv), .val (.ref b3), .val (.ref b58), .unset, .unset, .unset, .unset, .unset, .unset, .unset, .unset, .unset, .unset] [(.int (1 : Int32)), (.int (24 : Int32)), (.ref b86), (.ref b86)]))
  obtain ⟨cl111, Ar111, q111, S111, M111, H111, G111⟩ := V_b86
  obtain ⟨T111, h111, X111, e111, W111, st111⟩ := stI X110 hx hZ e110 Ar111 (j := (24 : Int32)) (inb_of S111 ⟨by decide, by decide⟩) (g := (mkF m 453 #[.val (.int kk), .val (.int vv), .val (.ref b3), .val (.ref b58), .unset, .unset, .unset, .unset, .unset, .unset, .unset, .unset, .unset, .unset] [(.int (1 : Int32)), (.int (24 : Int32)), (.ref b86), (.ref b86)])) rfl rfl (hb hby at_453)
  have V_b86 := Arv.set Ar111 q111 S111 M111 H111 G111 rfl W111 24 rfl (Nat.le_of_ble_eq_true rfl)
  refine Goes.st st111 ?_
  have V_b86 : Arv Z h111 b86 k86 .int (27 : Int32) [(.int (7 : Int32)), (.int (11 : Int32)), (.int (2 : Int32)), (.int (10 : Int32)), (.int (7 : Int32)), (.int (7 : Int32)), (.int (2 : Int32)), (.int (5 : Int32)), (.int (3 : Int32)), (.int (1 : Int32)), (.int (3 : Int32)), (.int (6 : Int32)), (.int (5 : Int32)), (.int (4 : Int32)), (.int (7 : Int32)), (.int (6 : Int32)), (.int (5 : Int32)), (.int (4 : Int32)), (.int (2 : Int32)), (.int (1 : Int32)), (.int (0 : Int32)), (.int (0 : Int32)), (.int (1 : Int32)), (.int (1 : Int32)), (.int (1 : Int32)), (.int (0 : Int32)), (.int (0 : Int32))] (.int (0 : Int32)) := V_b86
  have V_b3 := V_b3.other W111 ne_b3_b86
  have V_b58 := V_b58.other W111 ne_b58_b86
  have N111 := Fr.snoc X111 N110 gn_b86
  have Z0'''''''''''''''''''''''''''''''''''''''''''''''''''''''''''''''''''''''''''''''''' := Nat.le_trans Z0''''''''''''''''''''''''''''''''''''''''''''''''''''''''''''''''''''''''''''''''' (Keep.of_wr W111).1
  have O0 := O0.wr W111 gn_b86
  show Goes p e below s _ _ _ (T111.setTop (mkF m 454 #[.val (.int kk), .val (.int vv), .val (.ref b3), .val (.ref b58), .unset, .unset, .unset, .unset, .unset, .unset, .unset, .unset, .unset, .unset] [(.ref b86)]))
  refine Goes.st (fun t_ k_ => XS.dup X111.here hx rfl (hb hby at_454) rfl rfl k_) ?_
  show Goes p e below s _ _ _ (T111.setTop (mkF m 455 #[.val (.int kk), .val (.int vv), .val (.ref b3), .val (.ref b58), .unset, .unset, .unset, .unset, .unset, .unset, .unset, .unset, .unset, .unset] [(.ref b86), (.ref b86)]))
  refine Goes.st (fun t_ k_ => XS.bipush X111.here hx rfl (hb hby at_455) k_) ?_
  show Goes p e below s _ _ _ (T111.setTop (mkF m 457 #[.val (.int kk), .val (.int vv), .val (.ref b3), .val (.ref b58), .unset, .unset, .unset, .unset, .unset, .unset, .unset, .unset, .unset, .unset] [(.int (25 : Int32)), (.ref b86), (.ref b86)]))
  refine Goes.st (fun t_ k_ => XS.iconst X111.here hx rfl (hb hby at_457) k_) ?_
  show Goes p e below s _ _ _ (T111.setTop (mkF m 458 #[.val (.int kk), .val (.int vv), .val (.ref b3), .val (.ref b58), .unset, .unset, .unset, .unset, .unset, .unset, .unset, .unset, .unset, .unset] [(.int (2 : Int32)), (.int (25 : Int32)), (.ref b86), (.ref b86)]))
  obtain ⟨cl112, Ar112, q112, S112, M112, H112, G112⟩ := V_b86
  obtain ⟨T112, h112, X112, e112, W112, st112⟩ := stI X111 hx hZ e111 Ar112 (j := (25 : Int32)) (inb_of S112 ⟨by decide, by decide⟩) (g := (mkF m 458 #[.val (.int kk), .val (.int vv), .val (.ref b3), .val (.ref b58), .unset, .unset, .unset, .unset, .unset, .unset, .unset, .unset, .unset, .unset] [(.int (2 : Int32)), (.int (25 : Int32)), (.ref b86), (.ref b86)])) rfl rfl (hb hby at_458)
  have V_b86 := Arv.set Ar112 q112 S112 M112 H112 G112 rfl W112 25 rfl (Nat.le_of_ble_eq_true rfl)
  refine Goes.st st112 ?_
  have V_b86 : Arv Z h112 b86 k86 .int (27 : Int32) [(.int (7 : Int32)), (.int (11 : Int32)), (.int (2 : Int32)), (.int (10 : Int32)), (.int (7 : Int32)), (.int (7 : Int32)), (.int (2 : Int32)), (.int (5 : Int32)), (.int (3 : Int32)), (.int (1 : Int32)), (.int (3 : Int32)), (.int (6 : Int32)), (.int (5 : Int32)), (.int (4 : Int32)), (.int (7 : Int32)), (.int (6 : Int32)), (.int (5 : Int32)), (.int (4 : Int32)), (.int (2 : Int32)), (.int (1 : Int32)), (.int (0 : Int32)), (.int (0 : Int32)), (.int (1 : Int32)), (.int (1 : Int32)), (.int (1 : Int32)), (.int (2 : Int32)), (.int (0 : Int32))] (.int (0 : Int32)) := V_b86
  have V_b3 := V_b3.other W112 ne_b3_b86
  have V_b58 := V_b58.other W112 ne_b58_b86
  have N112 := Fr.snoc X112 N111 gn_b86
  have Z0''''''''''''''''''''''''''''''''''''''''''''''''''''''''''''''''''''''''''''''''''' := Nat.le_trans Z0'''''''''''''''''''''''''''''''''''''''''''''''''''''''''''''''''''''''''''''''''' (Keep.of_wr W112).1
  have O0 := O0.wr W112 gn_b86
  show Goes p e below s _ _ _ (T112.setTop (mkF m 459 #[.val (.int kk), .val (.int vv), .val (.ref b3), .val (.ref b58), .unset, .unset, .unset, .unset, .unset, .unset, .unset, .unset, .unset, .unset] [(.ref b86)]))
  refine Goes.st (fun t_ k_ => XS.dup X112.here hx rfl (hb hby at_459) rfl rfl k_) ?_
  show Goes p e below s _ _ _ (T112.setTop (mkF m 460 #[.val (.int kk), .val (.int vv), .val (.ref b3), .val (.ref b58), .unset, .unset, .unset, .unset, .unset, .unset, .unset, .unset, .unset, .unset] [(.ref b86), (.ref b86)]))
  refine Goes.st (fun t_ k_ => XS.bipush X112.here hx rfl (hb hby at_460) k_) ?_
  show Goes p e below s _ _ _ (T112.setTop (mkF m 462 #[.val (.int kk), .val (.int vv), .val (.ref b3), .val (.ref b58), .unset, .unset, .unset, .unset, .unset, .unset, .unset, .unset, .unset, .unset] [(.int (26 : Int32)), (.ref b86), (.ref b86)]))
  refine Goes.st (fun t_ k_ => XS.iconst X112.here hx rfl (hb hby at_462) k_) ?_
  show Goes p e below s _ _ _ (T112.setTop (mkF m 463 #[.val (.int kk), .val (.int vv), .val (.ref b3), .val (.ref b58), .unset, .unset, .unset, .unset, .unset, .unset, .unset, .unset, .unset, .unset] [(.int (2 : Int32)), (.int (26 : Int32)), (.ref b86), (.ref b86)]))
  obtain ⟨cl113, Ar113, q113, S113, M113, H113, G113⟩ := V_b86
  obtain ⟨T113, h113, X113, e113, W113, st113⟩ := stI X112 hx hZ e112 Ar113 (j := (26 : Int32)) (inb_of S113 ⟨by decide, by decide⟩) (g := (mkF m 463 #[.val (.int kk), .val (.int vv), .val (.ref b3), .val (.ref b58), .unset, .unset, .unset, .unset, .unset, .unset, .unset, .unset, .unset, .unset] [(.int (2 : Int32)), (.int (26 : Int32)), (.ref b86), (.ref b86)])) rfl rfl (hb hby at_463)
  have V_b86 := Arv.set Ar113 q113 S113 M113 H113 G113 rfl W113 26 rfl (Nat.le_of_ble_eq_true rfl)
  refine Goes.st st113 ?_
  have V_b86 : Arv Z h113 b86 k86 .int (27 : Int32) [(.int (7 : Int32)), (.int (11 : Int32)), (.int (2 : Int32)), (.int (10 : Int32)), (.int (7 : Int32)), (.int (7 : Int32)), (.int (2 : Int32)), (.int (5 : Int32)), (.int (3 : Int32)), (.int (1 : Int32)), (.int (3 : Int32)), (.int (6 : Int32)), (.int (5 : Int32)), (.int (4 : Int32)), (.int (7 : Int32)), (.int (6 : Int32)), (.int (5 : Int32)), (.int (4 : Int32)), (.int (2 : Int32)), (.int (1 : Int32)), (.int (0 : Int32)), (.int (0 : Int32)), (.int (1 : Int32)), (.int (1 : Int32)), (.int (1 : Int32)), (.int (2 : Int32)), (.int (2 : Int32))] (.int (0 : Int32)) := V_b86
  have V_b3 := V_b3.other W113 ne_b3_b86
  have V_b58 := V_b58.other W113 ne_b58_b86
  have N113 := Fr.snoc X113 N112 gn_b86
  have Z0'''''''''''''''''''''''''''''''''''''''''''''''''''''''''''''''''''''''''''''''''''' := Nat.le_trans Z0''''''''''''''''''''''''''''''''''''''''''''''''''''''''''''''''''''''''''''''''''' (Keep.of_wr W113).1
  have O0 := O0.wr W113 gn_b86
  show Goes p e below s _ _ _ (T113.setTop (mkF m 464 #[.val (.int kk), .val (.int vv), .val (.ref b3), .val (.ref b58), .unset, .unset, .unset, .unset, .unset, .unset, .unset, .unset, .unset, .unset] [(.ref b86)]))
  refine Goes.st (fun t_ k_ => XS.astore X113.here hx rfl (hb hby at_464) rfl rfl (l' := #[.val (.int kk), .val (.int vv), .val (.ref b3), .val (.ref b58), .val (.ref b86), .unset, .unset, .unset, .unset, .unset, .unset, .unset, .unset, .unset]) rfl k_) ?_
  show Goes p e below s _ _ _ (T113.setTop (mkF m 466 #[.val (.int kk), .val (.int vv), .val (.ref b3), .val (.ref b58), .val (.ref b86), .unset, .unset, .unset, .unset, .unset, .unset, .unset, .unset, .unset] []))
  refine Goes.st (fun t_ k_ => XS.iloadN X113.here hx rfl (hb hby at_466) rfl  k_) ?_
  show Goes p e below s _ _ _ (T113.setTop (mkF m 467 #[.val (.int kk), .val (.int vv), .val (.ref b3), .val (.ref b58), .val (.ref b86), .unset, .unset, .unset, .unset, .unset, .unset, .unset, .unset, .unset] [(.int kk)]))
  refine Goes.st (fun t_ k_ => X113.ldcInt hx hown (mvT hZ (hw _ (List.mem_of_getElem? (i := 59) rfl))) (g := (mkF m 467 #[.val (.int kk), .val (.int vv), .val (.ref b3), .val (.ref b58), .val (.ref b86), .unset, .unset, .unset, .unset, .unset, .unset, .unset, .unset, .unset] [(.int kk)])) rfl (hb hby at_467) _ k_) ?_
  show Goes p e below s _ _ _ (T113.setTop (mkF m 469 #[.val (.int kk), .val (.int vv), .val (.ref b3), .val (.ref b58), .val (.ref b86), .unset, .unset, .unset, .unset, .unset, .unset, .unset, .unset, .unset] [(.int (2147483647 : Int32)), (.int kk)]))
  refine Goes.st (fun t_ k_ => XS.iand X113.here hx rfl (hb hby at_469) rfl k_) ?_
  show Goes p e below s _ _ _ (T113.setTop (mkF m 470 #[.val (.int kk), .val (.int vv), .val (.ref b3), .val (.ref b58), .val (.ref b86), .unset, .unset, .unset, .unset, .unset, .unset, .unset, .unset, .unset] [(.int (kk &&& (2147483647 : Int32)))]))
  refine Goes.st (fun t_ k_ => XS.bipush X113.here hx rfl (hb hby at_470) k_) ?_
  show Goes p e below s _ _ _ (T113.setTop (mkF m 472 #[.val (.int kk), .val (.int vv), .val (.ref b3), .val (.ref b58), .val (.ref b86), .unset, .unset, .unset, .unset, .unset, .unset, .unset, .unset, .unset] [(.int (27 : Int32)), (.int (kk &&& (2147483647 : Int32)))]))
  refine Goes.st (fun t_ k_ => iremM (g := (mkF m 472 #[.val (.int kk), .val (.int vv), .val (.ref b3), .val (.ref b58), .val (.ref b86), .unset, .unset, .unset, .unset, .unset, .unset, .unset, .unset, .unset] [(.int (27 : Int32)), (.int (kk &&& (2147483647 : Int32)))])) X113 hx rfl (hb hby at_472) rfl (by decide) k_) ?_
  show Goes p e below s _ _ _ (T113.setTop (mkF m 473 #[.val (.int kk), .val (.int vv), .val (.ref b3), .val (.ref b58), .val (.ref b86), .unset, .unset, .unset, .unset, .unset, .unset, .unset, .unset, .unset] [(.int ((kk &&& (2147483647 : Int32)) % (27 : Int32)))]))
  refine Goes.st (fun t_ k_ => XS.istore X113.here hx rfl (hb hby at_473) rfl  (l' := #[.val (.int kk), .val (.int vv), .val (.ref b3), .val (.ref b58), .val (.ref b86), .val (.int ((kk &&& (2147483647 : Int32)) % (27 : Int32))), .unset, .unset, .unset, .unset, .unset, .unset, .unset, .unset]) rfl k_) ?_
  show Goes p e below s _ _ _ (T113.setTop (mkF m 475 #[.val (.int kk), .val (.int vv), .val (.ref b3), .val (.ref b58), .val (.ref b86), .val (.int ((kk &&& (2147483647 : Int32)) % (27 : Int32))), .unset, .unset, .unset, .unset, .unset, .unset, .unset, .unset] []))
  have hjA : ∀ (T114 : State) (h114 : Heap) (L114 : List Loc)  (X114 : Stand p l e room_1 s m #[(.int kk), (.int vv)] below meth c T114 L114 3 81) (e114 : T114.heap = h114) (N114 : Fr n0 L114) (Z114 : n0 ≤ h114.size) (V_b3 : Arv Z h114 b3 k3 (.object "com/example/nestor/nestor/protocol/ApiKey") (27 : Int32) [(.ref a_0), (.ref a_1), (.ref a_2), (.ref a_3), (.ref a_4), (.ref a_5), (.ref a_6), (.ref a_7), (.ref a_8), (.ref a_9), (.ref a_10), (.ref a_11), (.ref a_12), (.ref a_13), (.ref a_14), (.ref a_15), (.ref a_16), (.ref a_17), (.ref a_18), (.ref a_19), (.ref a_20), (.ref a_21), (.ref a_22), (.ref a_23), (.ref a_24), (.ref a_25), (.ref a_26)] .null) (V_b58 : Arv Z h114 b58 k58 .int (27 : Int32) [(.int (0 : Int32)), (.int (4 : Int32)), (.int (1 : Int32)), (.int (0 : Int32)), (.int (1 : Int32)), (.int (1 : Int32)), (.int (0 : Int32)), (.int (0 : Int32)), (.int (0 : Int32)), (.int (0 : Int32)), (.int (0 : Int32)), (.int (0 : Int32)), (.int (0 : Int32)), (.int (0 : Int32)), (.int (2 : Int32)), (.int (1 : Int32)), (.int (0 : Int32)), (.int (1 : Int32)), (.int (0 : Int32)), (.int (0 : Int32)), (.int (0 : Int32)), (.int (0 : Int32)), (.int (0 : Int32)), (.int (1 : Int32)), (.int (1 : Int32)), (.int (1 : Int32)), (.int (1 : Int32))] (.int (0 : Int32))) (V_b86 : Arv Z h114 b86 k86 .int (27 : Int32) [(.int (7 : Int32)), (.int (11 : Int32)), (.int (2 : Int32)), (.int (10 : Int32)), (.int (7 : Int32)), (.int (7 : Int32)), (.int (2 : Int32)), (.int (5 : Int32)), (.int (3 : Int32)), (.int (1 : Int32)), (.int (3 : Int32)), (.int (6 : Int32)), (.int (5 : Int32)), (.int (4 : Int32)), (.int (7 : Int32)), (.int (6 : Int32)), (.int (5 : Int32)), (.int (4 : Int32)), (.int (2 : Int32)), (.int (1 : Int32)), (.int (0 : Int32)), (.int (0 : Int32)), (.int (1 : Int32)), (.int (1 : Int32)), (.int (1 : Int32)), (.int (2 : Int32)), (.int (2 : Int32))] (.int (0 : Int32))) (O0 : Old Z n0 h114), Goes p e below s (own_Q0 Z  h0 n0) (3) (81) (T114.setTop (mkF m 475 #[.val (.int kk), .val (.int vv), .val (.ref b3), .val (.ref b58), .val (.ref b86), .val (.int ((kk &&& (2147483647 : Int32)) % (27 : Int32))), .unset, .unset, .unset, .unset, .unset, .unset, .unset, .unset] [])) := by
    intro T114 h114 L114  X114 e114 N114 Z114 V_b3 V_b58 V_b86 O0   
    obtain ⟨ix, hd_ix⟩ : ∃ z : Int32, z = ((kk &&& (2147483647 : Int32)) % (27 : Int32)) := ⟨_, rfl⟩
    rw [← hd_ix]
    show Goes p e below s _ _ _ (T114.setTop (mkF m 475 #[.val (.int kk), .val (.int vv), .val (.ref b3), .val (.ref b58), .val (.ref b86), .val (.int ix), .unset, .unset, .unset, .unset, .unset, .unset, .unset, .unset] []))
    have hi : 0 ≤ ix.toInt ∧ ix.toInt < 27 := by rw [hd_ix]; exact own_i27 _
    clear hd_ix
    have hn := own_nat hi.1 hi.2
    have hlh := own_lohi _ hn
    obtain ⟨Ek, Fl, Fh⟩ := HK _ hn
    have hin := own_in (z := 27) (n := 27) rfl hi.1 hi.2
    have rk := own_mapR [a_0, a_1, a_2, a_3, a_4, a_5, a_6, a_7, a_8, a_9, a_10, a_11, a_12, a_13, a_14, a_15, a_16, a_17, a_18, a_19, a_20, a_21, a_22, a_23, a_24, a_25, a_26] ix.toNatClampNeg hn
    have rl := own_mapI own_los ix.toNatClampNeg
    have rh := own_mapI own_his ix.toNatClampNeg
    generalize hka : [a_0, a_1, a_2, a_3, a_4, a_5, a_6, a_7, a_8, a_9, a_10, a_11, a_12, a_13, a_14, a_15, a_16, a_17, a_18, a_19, a_20, a_21, a_22, a_23, a_24, a_25, a_26].getD ix.toNatClampNeg 0 = ka at Ek Fl Fh rk
    generalize hla : own_los.getD ix.toNatClampNeg 0 = la at Fl rl hlh
    generalize hha : own_his.getD ix.toNatClampNeg 0 = ha at Fh rh hlh
    clear hka hla hha HK
    have Fl' := Fl.ext O0.2
    have Fh' := Fh.ext O0.2
    show Goes p e below s _ _ _ (T114.setTop (mkF m 475 #[.val (.int kk), .val (.int vv), .val (.ref b3), .val (.ref b58), .val (.ref b86), .val (.int ix), .unset, .unset, .unset, .unset, .unset, .unset, .unset, .unset] []))
    refine Goes.st (fun t_ k_ => XS.aloadN X114.here hx rfl (hb hby at_475) rfl rfl k_) ?_
    show Goes p e below s _ _ _ (T114.setTop (mkF m 476 #[.val (.int kk), .val (.int vv), .val (.ref b3), .val (.ref b58), .val (.ref b86), .val (.int ix), .unset, .unset, .unset, .unset, .unset, .unset, .unset, .unset] [(.ref b3)]))
    refine Goes.st (fun t_ k_ => XS.iload X114.here hx rfl (hb hby at_476) rfl  k_) ?_
    show Goes p e below s _ _ _ (T114.setTop (mkF m 478 #[.val (.int kk), .val (.int vv), .val (.ref b3), .val (.ref b58), .val (.ref b86), .val (.int ix), .unset, .unset, .unset, .unset, .unset, .unset, .unset, .unset] [(.int ix), (.ref b3)]))
    have VV115 := V_b3
    obtain ⟨cl115, Ar115, -, S115, M115, H115, -⟩ := VV115
    have hin115 := inb_of S115 (j := ix) hin
    refine Goes.st (fun t_ k_ => X114.aaload hx (j := ix) (v := (.ref ka)) (by rw [e114]; exact Ar115.1) (State.isArrayOf_alike hZ.alike Ar115.2.1) rfl Ar115.2.2 hin115 (Has.at H115 hin115 rk) (g := (mkF m 478 #[.val (.int kk), .val (.int vv), .val (.ref b3), .val (.ref b58), .val (.ref b86), .val (.int ix), .unset, .unset, .unset, .unset, .unset, .unset, .unset, .unset] [(.int ix), (.ref b3)])) rfl rfl (hb hby at_478) _ k_) ?_
    show Goes p e below s _ _ _ (T114.setTop (mkF m 479 #[.val (.int kk), .val (.int vv), .val (.ref b3), .val (.ref b58), .val (.ref b86), .val (.int ix), .unset, .unset, .unset, .unset, .unset, .unset, .unset, .unset] [(.ref ka)]))
    refine Goes.st (fun t_ k_ => XS.astore X114.here hx rfl (hb hby at_479) rfl rfl (l' := #[.val (.int kk), .val (.int vv), .val (.ref b3), .val (.ref b58), .val (.ref b86), .val (.int ix), .val (.ref ka), .unset, .unset, .unset, .unset, .unset, .unset, .unset]) rfl k_) ?_
    show Goes p e below s _ _ _ (T114.setTop (mkF m 481 #[.val (.int kk), .val (.int vv), .val (.ref b3), .val (.ref b58), .val (.ref b86), .val (.int ix), .val (.ref ka), .unset, .unset, .unset, .unset, .unset, .unset, .unset] []))
    refine Goes.st (fun t_ k_ => XS.iloadN X114.here hx rfl (hb hby at_481) rfl  k_) ?_
    show Goes p e below s _ _ _ (T114.setTop (mkF m 482 #[.val (.int kk), .val (.int vv), .val (.ref b3), .val (.ref b58), .val (.ref b86), .val (.int ix), .val (.ref ka), .unset, .unset, .unset, .unset, .unset, .unset, .unset] [(.int vv)]))
    refine Goes.st (fun t_ k_ => XS.i2s X114.here hx rfl (hb hby at_482) rfl k_) ?_
    show Goes p e below s _ _ _ (T114.setTop (mkF m 483 #[.val (.int kk), .val (.int vv), .val (.ref b3), .val (.ref b58), .val (.ref b86), .val (.int ix), .val (.ref ka), .unset, .unset, .unset, .unset, .unset, .unset, .unset] [(.int (vv.toInt16.toInt32))]))
    refine Goes.st (fun t_ k_ => XS.istore X114.here hx rfl (hb hby at_483) rfl  (l' := #[.val (.int kk), .val (.int vv), .val (.ref b3), .val (.ref b58), .val (.ref b86), .val (.int ix), .val (.ref ka), .val (.int (vv.toInt16.toInt32)), .unset, .unset, .unset, .unset, .unset, .unset]) rfl k_) ?_
    show Goes p e below s _ _ _ (T114.setTop (mkF m 485 #[.val (.int kk), .val (.int vv), .val (.ref b3), .val (.ref b58), .val (.ref b86), .val (.int ix), .val (.ref ka), .val (.int (vv.toInt16.toInt32)), .unset, .unset, .unset, .unset, .unset, .unset] []))
    obtain ⟨sv, hd_sv⟩ : ∃ z : Int32, z = (vv.toInt16.toInt32) := ⟨_, rfl⟩
    rw [← hd_sv]
    show Goes p e below s _ _ _ (T114.setTop (mkF m 485 #[.val (.int kk), .val (.int vv), .val (.ref b3), .val (.ref b58), .val (.ref b86), .val (.int ix), .val (.ref ka), .val (.int sv), .unset, .unset, .unset, .unset, .unset, .unset] []))
    clear hd_sv
    show Goes p e below s _ _ _ (T114.setTop (mkF m 485 #[.val (.int kk), .val (.int vv), .val (.ref b3), .val (.ref b58), .val (.ref b86), .val (.int ix), .val (.ref ka), .val (.int sv), .unset, .unset, .unset, .unset, .unset, .unset] []))
    refine Goes.st (fun t_ k_ => XS.iload X114.here hx rfl (hb hby at_485) rfl  k_) ?_
    show Goes p e below s _ _ _ (T114.setTop (mkF m 487 #[.val (.int kk), .val (.int vv), .val (.ref b3), .val (.ref b58), .val (.ref b86), .val (.int ix), .val (.ref ka), .val (.int sv), .unset, .unset, .unset, .unset, .unset, .unset] [(.int sv)]))
    refine Goes.st (fun t_ k_ => XS.aloadN X114.here hx rfl (hb hby at_487) rfl rfl k_) ?_
    show Goes p e below s _ _ _ (T114.setTop (mkF m 488 #[.val (.int kk), .val (.int vv), .val (.ref b3), .val (.ref b58), .val (.ref b86), .val (.int ix), .val (.ref ka), .val (.int sv), .unset, .unset, .unset, .unset, .unset, .unset] [(.ref b58), (.int sv)]))
    refine Goes.st (fun t_ k_ => XS.iload X114.here hx rfl (hb hby at_488) rfl  k_) ?_
    show Goes p e below s _ _ _ (T114.setTop (mkF m 490 #[.val (.int kk), .val (.int vv), .val (.ref b3), .val (.ref b58), .val (.ref b86), .val (.int ix), .val (.ref ka), .val (.int sv), .unset, .unset, .unset, .unset, .unset, .unset] [(.int ix), (.ref b58), (.int sv)]))
    have VV116 := V_b58
    obtain ⟨cl116, Ar116, -, S116, M116, H116, -⟩ := VV116
    have hin116 := inb_of S116 (j := ix) hin
    refine Goes.st (fun t_ k_ => X114.iaload hx (j := ix) (v := (.int la)) (by rw [e114]; exact Ar116.1) (State.isArrayOf_alike hZ.alike Ar116.2.1) Ar116.2.2 hin116 (Has.at H116 hin116 rl) (g := (mkF m 490 #[.val (.int kk), .val (.int vv), .val (.ref b3), .val (.ref b58), .val (.ref b86), .val (.int ix), .val (.ref ka), .val (.int sv), .unset, .unset, .unset, .unset, .unset, .unset] [(.int ix), (.ref b58), (.int sv)])) rfl rfl (hb hby at_490) _ k_) ?_
    show Goes p e below s _ _ _ (T114.setTop (mkF m 491 #[.val (.int kk), .val (.int vv), .val (.ref b3), .val (.ref b58), .val (.ref b86), .val (.int ix), .val (.ref ka), .val (.int sv), .unset, .unset, .unset, .unset, .unset, .unset] [(.int la), (.int sv)]))
    have hj1 : Goes p e below s (own_Q0 Z h0 n0) (3) (81) (T114.setTop (mkF m 509 #[.val (.int kk), .val (.int vv), .val (.ref b3), .val (.ref b58), .val (.ref b86), .val (.int ix), .val (.ref ka), .val (.int sv), .unset, .unset, .unset, .unset, .unset, .unset] [(.int (own_bI (own_ok sv la ha)))])) := by
      show Goes p e below s _ _ _ (T114.setTop (mkF m 509 #[.val (.int kk), .val (.int vv), .val (.ref b3), .val (.ref b58), .val (.ref b86), .val (.int ix), .val (.ref ka), .val (.int sv), .unset, .unset, .unset, .unset, .unset, .unset] [(.int (own_bI (own_ok sv la ha)))]))
      refine Goes.st (fun t_ k_ => XS.istore X114.here hx rfl (hb hby at_509) rfl  (l' := #[.val (.int kk), .val (.int vv), .val (.ref b3), .val (.ref b58), .val (.ref b86), .val (.int ix), .val (.ref ka), .val (.int sv), .val (.int (own_bI (own_ok sv la ha))), .unset, .unset, .unset, .unset, .unset]) rfl k_) ?_
      show Goes p e below s _ _ _ (T114.setTop (mkF m 511 #[.val (.int kk), .val (.int vv), .val (.ref b3), .val (.ref b58), .val (.ref b86), .val (.int ix), .val (.ref ka), .val (.int sv), .val (.int (own_bI (own_ok sv la ha))), .unset, .unset, .unset, .unset, .unset] []))
      refine Goes.st (fun t_ k_ => XS.aload X114.here hx rfl (hb hby at_511) rfl rfl k_) ?_
      show Goes p e below s _ _ _ (T114.setTop (mkF m 513 #[.val (.int kk), .val (.int vv), .val (.ref b3), .val (.ref b58), .val (.ref b86), .val (.int ix), .val (.ref ka), .val (.int sv), .val (.int (own_bI (own_ok sv la ha))), .unset, .unset, .unset, .unset, .unset] [(.ref ka)]))
      refine Goes.st (fun t_ k_ => XS.iload X114.here hx rfl (hb hby at_513) rfl  k_) ?_
      show Goes p e below s _ _ _ (T114.setTop (mkF m 515 #[.val (.int kk), .val (.int vv), .val (.ref b3), .val (.ref b58), .val (.ref b86), .val (.int ix), .val (.ref ka), .val (.int sv), .val (.int (own_bI (own_ok sv la ha))), .unset, .unset, .unset, .unset, .unset] [(.int sv), (.ref ka)]))
      obtain ⟨cq117, kq117, q117a, q117b, q117c⟩ := isOf hZ e114 (Ek.ext O0.2)
      obtain ⟨_, _, ⟨T117, L117, k117, n117⟩, -, X117, ⟨Lc117, hQ117, l117, y117, z117⟩, st117⟩ := X114.virtualBack hx (y := (⟨"com/example/nestor/nestor/protocol/ApiKey", "supports", "(S)Z"⟩ : MethodName)) (z := (⟨"com/example/nestor/nestor/protocol/ApiKey", "supports", "(S)Z"⟩ : MethodName)) hown (mvT hZ (hw _ (List.mem_of_getElem? (i := 60) rfl))) (mvT hZ (hw _ (List.mem_of_getElem? (i := 61) rfl))) (notFace_of_selects (args := #[]) (mvT hZ (hw _ (List.mem_of_getElem? (i := 63) rfl)))) (mvT hZ (hw _ (List.mem_of_getElem? (i := 63) rfl))) (mvT hZ (hw _ (List.mem_of_getElem? (i := 62) rfl))) (by decide) (backOf (W := 0) (own_rmS l Z a0 hw [] ka sv la ha (own_ok sv la ha) h114 n0 Z114 Fl' Fh' (by rfl)) hZ (hw _ (List.mem_of_getElem? (i := 64) rfl)) (hw _ (List.mem_of_getElem? (i := 3) rfl)) (by decide) (by decide)) q117a q117c (g := (mkF m 515 #[.val (.int kk), .val (.int vv), .val (.ref b3), .val (.ref b58), .val (.ref b86), .val (.int ix), .val (.ref ka), .val (.int sv), .val (.int (own_bI (own_ok sv la ha))), .unset, .unset, .unset, .unset, .unset] [(.int sv), (.ref ka)])) rfl (by rw [hml]; rfl) (Steps.refl _) (argsL := [(.int sv)]) (rest := []) (lenOf own_pd13 rfl) rfl (by show 2 * 0 + _ ≤ _; exact Nat.le_of_eq rfl) (hb hby at_515) (fun _ _ => ⟨rfl, e114, (by decide : 3 + 0 ≤ _), (by decide : 81 + 0 ≤ _)⟩)
      dsimp only [Pt.U, Pt.locs, Pt.cells, Pt.slots] at X117 l117 y117 z117 st117 hQ117
      subst l117 y117 z117
      obtain ⟨rfl, N117q, EQ1⟩ := hQ117
      have N117 := Fr.app N114 N117q
      refine Goes.tr st117 ?_
      show Goes p e below s _ _ _ (T117.setTop (mkF m 518 #[.val (.int kk), .val (.int vv), .val (.ref b3), .val (.ref b58), .val (.ref b86), .val (.int ix), .val (.ref ka), .val (.int sv), .val (.int (own_bI (own_ok sv la ha))), .unset, .unset, .unset, .unset, .unset] [(.int (own_bI (own_ok sv la ha)))]))
      refine Goes.st (fun t_ k_ => XS.iload X117.here hx rfl (hb hby at_518) rfl  k_) ?_
      show Goes p e below s _ _ _ (T117.setTop (mkF m 520 #[.val (.int kk), .val (.int vv), .val (.ref b3), .val (.ref b58), .val (.ref b86), .val (.int ix), .val (.ref ka), .val (.int sv), .val (.int (own_bI (own_ok sv la ha))), .unset, .unset, .unset, .unset, .unset] [(.int (own_bI (own_ok sv la ha))), (.int (own_bI (own_ok sv la ha)))]))
      refine Goes.st (fun t_ k_ => XS.icmpNo X117.here hx rfl (hb hby at_520) rfl (teq (rfl : own_bI (own_ok sv la ha) = own_bI (own_ok sv la ha))).2 k_) ?_
      show Goes p e below s _ _ _ (T117.setTop (mkF m 523 #[.val (.int kk), .val (.int vv), .val (.ref b3), .val (.ref b58), .val (.ref b86), .val (.int ix), .val (.ref ka), .val (.int sv), .val (.int (own_bI (own_ok sv la ha))), .unset, .unset, .unset, .unset, .unset] []))
      refine Goes.st (fun t_ k_ => XS.iconst X117.here hx rfl (hb hby at_523) k_) ?_
      show Goes p e below s _ _ _ (T117.setTop (mkF m 524 #[.val (.int kk), .val (.int vv), .val (.ref b3), .val (.ref b58), .val (.ref b86), .val (.int ix), .val (.ref ka), .val (.int sv), .val (.int (own_bI (own_ok sv la ha))), .unset, .unset, .unset, .unset, .unset] [(.int (1 : Int32))]))
      refine Goes.st (fun t_ k_ => XS.goto X117.here hx rfl (pc0 := 524) (pc' := 528) rfl (hb hby at_524) (by decide) (by decide) k_) ?_
      show Goes p e below s _ _ _ (T117.setTop (mkF m 528 #[.val (.int kk), .val (.int vv), .val (.ref b3), .val (.ref b58), .val (.ref b86), .val (.int ix), .val (.ref ka), .val (.int sv), .val (.int (own_bI (own_ok sv la ha))), .unset, .unset, .unset, .unset, .unset] [(.int (1 : Int32))]))
      refine Goes.st (fun t_ k_ => XS.istore X117.here hx rfl (hb hby at_528) rfl  (l' := #[.val (.int kk), .val (.int vv), .val (.ref b3), .val (.ref b58), .val (.ref b86), .val (.int ix), .val (.ref ka), .val (.int sv), .val (.int (own_bI (own_ok sv la ha))), .val (.int (1 : Int32)), .unset, .unset, .unset, .unset]) rfl k_) ?_
      show Goes p e below s _ _ _ (T117.setTop (mkF m 530 #[.val (.int kk), .val (.int vv), .val (.ref b3), .val (.ref b58), .val (.ref b86), .val (.int ix), .val (.ref ka), .val (.int sv), .val (.int (own_bI (own_ok sv la ha))), .val (.int (1 : Int32)), .unset, .unset, .unset, .unset] []))
      refine Goes.st (fun t_ k_ => XS.aload X117.here hx rfl (hb hby at_530) rfl rfl k_) ?_
      show Goes p e below s _ _ _ (T117.setTop (mkF m 532 #[.val (.int kk), .val (.int vv), .val (.ref b3), .val (.ref b58), .val (.ref b86), .val (.int ix), .val (.ref ka), .val (.int sv), .val (.int (own_bI (own_ok sv la ha))), .val (.int (1 : Int32)), .unset, .unset, .unset, .unset] [(.ref ka)]))
      refine Goes.st (fun t_ k_ => XS.aloadN X117.here hx rfl (hb hby at_532) rfl rfl k_) ?_
      show Goes p e below s _ _ _ (T117.setTop (mkF m 533 #[.val (.int kk), .val (.int vv), .val (.ref b3), .val (.ref b58), .val (.ref b86), .val (.int ix), .val (.ref ka), .val (.int sv), .val (.int (own_bI (own_ok sv la ha))), .val (.int (1 : Int32)), .unset, .unset, .unset, .unset] [(.ref b58), (.ref ka)]))
      refine Goes.st (fun t_ k_ => XS.iload X117.here hx rfl (hb hby at_533) rfl  k_) ?_
      show Goes p e below s _ _ _ (T117.setTop (mkF m 535 #[.val (.int kk), .val (.int vv), .val (.ref b3), .val (.ref b58), .val (.ref b86), .val (.int ix), .val (.ref ka), .val (.int sv), .val (.int (own_bI (own_ok sv la ha))), .val (.int (1 : Int32)), .unset, .unset, .unset, .unset] [(.int ix), (.ref b58), (.ref ka)]))
      have VV118 := V_b58
      obtain ⟨cl118, Ar118, -, S118, M118, H118, -⟩ := VV118
      have hin118 := inb_of S118 (j := ix) hin
      refine Goes.st (fun t_ k_ => X117.iaload hx (j := ix) (v := (.int la)) (by rw [EQ1]; exact Ar118.1) (State.isArrayOf_alike hZ.alike Ar118.2.1) Ar118.2.2 hin118 (Has.at H118 hin118 rl) (g := (mkF m 535 #[.val (.int kk), .val (.int vv), .val (.ref b3), .val (.ref b58), .val (.ref b86), .val (.int ix), .val (.ref ka), .val (.int sv), .val (.int (own_bI (own_ok sv la ha))), .val (.int (1 : Int32)), .unset, .unset, .unset, .unset] [(.int ix), (.ref b58), (.ref ka)])) rfl rfl (hb hby at_535) _ k_) ?_
      show Goes p e below s _ _ _ (T117.setTop (mkF m 536 #[.val (.int kk), .val (.int vv), .val (.ref b3), .val (.ref b58), .val (.ref b86), .val (.int ix), .val (.ref ka), .val (.int sv), .val (.int (own_bI (own_ok sv la ha))), .val (.int (1 : Int32)), .unset, .unset, .unset, .unset] [(.int la), (.ref ka)]))
      refine Goes.st (fun t_ k_ => XS.i2s X117.here hx rfl (hb hby at_536) rfl k_) ?_
      show Goes p e below s _ _ _ (T117.setTop (mkF m 537 #[.val (.int kk), .val (.int vv), .val (.ref b3), .val (.ref b58), .val (.ref b86), .val (.int ix), .val (.ref ka), .val (.int sv), .val (.int (own_bI (own_ok sv la ha))), .val (.int (1 : Int32)), .unset, .unset, .unset, .unset] [(.int (la.toInt16.toInt32)), (.ref ka)]))
      obtain ⟨cq119, kq119, q119a, q119b, q119c⟩ := isOf hZ EQ1 (Ek.ext O0.2)
      obtain ⟨_, _, ⟨T119, L119, k119, n119⟩, -, X119, ⟨Lc119, hQ119, l119, y119, z119⟩, st119⟩ := X117.virtualBack hx (y := (⟨"com/example/nestor/nestor/protocol/ApiKey", "supports", "(S)Z"⟩ : MethodName)) (z := (⟨"com/example/nestor/nestor/protocol/ApiKey", "supports", "(S)Z"⟩ : MethodName)) hown (mvT hZ (hw _ (List.mem_of_getElem? (i := 60) rfl))) (mvT hZ (hw _ (List.mem_of_getElem? (i := 61) rfl))) (notFace_of_selects (args := #[]) (mvT hZ (hw _ (List.mem_of_getElem? (i := 63) rfl)))) (mvT hZ (hw _ (List.mem_of_getElem? (i := 63) rfl))) (mvT hZ (hw _ (List.mem_of_getElem? (i := 62) rfl))) (by decide) (backOf (W := 0) (own_rmS l Z a0 hw [] ka (la.toInt16.toInt32) la ha true h114 n0 Z114 Fl' Fh' (by have := own_s (x := la) (by omega) (by omega); simp only [own_ok, own_lt, this]; simp; omega)) hZ (hw _ (List.mem_of_getElem? (i := 64) rfl)) (hw _ (List.mem_of_getElem? (i := 3) rfl)) (by decide) (by decide)) q119a q119c (g := (mkF m 537 #[.val (.int kk), .val (.int vv), .val (.ref b3), .val (.ref b58), .val (.ref b86), .val (.int ix), .val (.ref ka), .val (.int sv), .val (.int (own_bI (own_ok sv la ha))), .val (.int (1 : Int32)), .unset, .unset, .unset, .unset] [(.int (la.toInt16.toInt32)), (.ref ka)])) rfl (by rw [hml]; rfl) (Steps.refl _) (argsL := [(.int (la.toInt16.toInt32))]) (rest := []) (lenOf own_pd13 rfl) rfl (by show 2 * 0 + _ ≤ _; exact Nat.le_of_eq rfl) (hb hby at_537) (fun _ _ => ⟨rfl, EQ1, (by decide : 3 + 0 ≤ _), (by decide : 81 + 0 ≤ _)⟩)
      dsimp only [Pt.U, Pt.locs, Pt.cells, Pt.slots] at X119 l119 y119 z119 st119 hQ119
      subst l119 y119 z119
      obtain ⟨rfl, N119q, EQ2⟩ := hQ119
      have N119 := Fr.app N117 N119q
      refine Goes.tr st119 ?_
      show Goes p e below s _ _ _ (T119.setTop (mkF m 540 #[.val (.int kk), .val (.int vv), .val (.ref b3), .val (.ref b58), .val (.ref b86), .val (.int ix), .val (.ref ka), .val (.int sv), .val (.int (own_bI (own_ok sv la ha))), .val (.int (1 : Int32)), .unset, .unset, .unset, .unset] [(.int (own_bI true))]))
      refine Goes.st (fun t_ k_ => XS.istore X119.here hx rfl (hb hby at_540) rfl  (l' := #[.val (.int kk), .val (.int vv), .val (.ref b3), .val (.ref b58), .val (.ref b86), .val (.int ix), .val (.ref ka), .val (.int sv), .val (.int (own_bI (own_ok sv la ha))), .val (.int (1 : Int32)), .val (.int (own_bI true)), .unset, .unset, .unset]) rfl k_) ?_
      show Goes p e below s _ _ _ (T119.setTop (mkF m 542 #[.val (.int kk), .val (.int vv), .val (.ref b3), .val (.ref b58), .val (.ref b86), .val (.int ix), .val (.ref ka), .val (.int sv), .val (.int (own_bI (own_ok sv la ha))), .val (.int (1 : Int32)), .val (.int (own_bI true)), .unset, .unset, .unset] []))
      refine Goes.st (fun t_ k_ => XS.aload X119.here hx rfl (hb hby at_542) rfl rfl k_) ?_
      show Goes p e below s _ _ _ (T119.setTop (mkF m 544 #[.val (.int kk), .val (.int vv), .val (.ref b3), .val (.ref b58), .val (.ref b86), .val (.int ix), .val (.ref ka), .val (.int sv), .val (.int (own_bI (own_ok sv la ha))), .val (.int (1 : Int32)), .val (.int (own_bI true)), .unset, .unset, .unset] [(.ref ka)]))
      refine Goes.st (fun t_ k_ => XS.aload X119.here hx rfl (hb hby at_544) rfl rfl k_) ?_
      show Goes p e below s _ _ _ (T119.setTop (mkF m 546 #[.val (.int kk), .val (.int vv), .val (.ref b3), .val (.ref b58), .val (.ref b86), .val (.int ix), .val (.ref ka), .val (.int sv), .val (.int (own_bI (own_ok sv la ha))), .val (.int (1 : Int32)), .val (.int (own_bI true)), .unset, .unset, .unset] [(.ref b86), (.ref ka)]))
      refine Goes.st (fun t_ k_ => XS.iload X119.here hx rfl (hb hby at_546) rfl  k_) ?_
      show Goes p e below s _ _ _ (T119.setTop (mkF m 548 #[.val (.int kk), .val (.int vv), .val (.ref b3), .val (.ref b58), .val (.ref b86), .val (.int ix), .val (.ref ka), .val (.int sv), .val (.int (own_bI (own_ok sv la ha))), .val (.int (1 : Int32)), .val (.int (own_bI true)), .unset, .unset, .unset] [(.int ix), (.ref b86), (.ref ka)]))
      have VV120 := V_b86
      obtain ⟨cl120, Ar120, -, S120, M120, H120, -⟩ := VV120
      have hin120 := inb_of S120 (j := ix) hin
      refine Goes.st (fun t_ k_ => X119.iaload hx (j := ix) (v := (.int ha)) (by rw [EQ2]; exact Ar120.1) (State.isArrayOf_alike hZ.alike Ar120.2.1) Ar120.2.2 hin120 (Has.at H120 hin120 rh) (g := (mkF m 548 #[.val (.int kk), .val (.int vv), .val (.ref b3), .val (.ref b58), .val (.ref b86), .val (.int ix), .val (.ref ka), .val (.int sv), .val (.int (own_bI (own_ok sv la ha))), .val (.int (1 : Int32)), .val (.int (own_bI true)), .unset, .unset, .unset] [(.int ix), (.ref b86), (.ref ka)])) rfl rfl (hb hby at_548) _ k_) ?_
      show Goes p e below s _ _ _ (T119.setTop (mkF m 549 #[.val (.int kk), .val (.int vv), .val (.ref b3), .val (.ref b58), .val (.ref b86), .val (.int ix), .val (.ref ka), .val (.int sv), .val (.int (own_bI (own_ok sv la ha))), .val (.int (1 : Int32)), .val (.int (own_bI true)), .unset, .unset, .unset] [(.int ha), (.ref ka)]))
      refine Goes.st (fun t_ k_ => XS.i2s X119.here hx rfl (hb hby at_549) rfl k_) ?_
      show Goes p e below s _ _ _ (T119.setTop (mkF m 550 #[.val (.int kk), .val (.int vv), .val (.ref b3), .val (.ref b58), .val (.ref b86), .val (.int ix), .val (.ref ka), .val (.int sv), .val (.int (own_bI (own_ok sv la ha))), .val (.int (1 : Int32)), .val (.int (own_bI true)), .unset, .unset, .unset] [(.int (ha.toInt16.toInt32)), (.ref ka)]))
      obtain ⟨cq121, kq121, q121a, q121b, q121c⟩ := isOf hZ EQ2 (Ek.ext O0.2)
      obtain ⟨_, _, ⟨T121, L121, k121, n121⟩, -, X121, ⟨Lc121, hQ121, l121, y121, z121⟩, st121⟩ := X119.virtualBack hx (y := (⟨"com/example/nestor/nestor/protocol/ApiKey", "supports", "(S)Z"⟩ : MethodName)) (z := (⟨"com/example/nestor/nestor/protocol/ApiKey", "supports", "(S)Z"⟩ : MethodName)) hown (mvT hZ (hw _ (List.mem_of_getElem? (i := 60) rfl))) (mvT hZ (hw _ (List.mem_of_getElem? (i := 61) rfl))) (notFace_of_selects (args := #[]) (mvT hZ (hw _ (List.mem_of_getElem? (i := 63) rfl)))) (mvT hZ (hw _ (List.mem_of_getElem? (i := 63) rfl))) (mvT hZ (hw _ (List.mem_of_getElem? (i := 62) rfl))) (by decide) (backOf (W := 0) (own_rmS l Z a0 hw [] ka (ha.toInt16.toInt32) la ha true h114 n0 Z114 Fl' Fh' (by have := own_s (x := ha) (by omega) (by omega); simp only [own_ok, own_lt, this]; simp; omega)) hZ (hw _ (List.mem_of_getElem? (i := 64) rfl)) (hw _ (List.mem_of_getElem? (i := 3) rfl)) (by decide) (by decide)) q121a q121c (g := (mkF m 550 #[.val (.int kk), .val (.int vv), .val (.ref b3), .val (.ref b58), .val (.ref b86), .val (.int ix), .val (.ref ka), .val (.int sv), .val (.int (own_bI (own_ok sv la ha))), .val (.int (1 : Int32)), .val (.int (own_bI true)), .unset, .unset, .unset] [(.int (ha.toInt16.toInt32)), (.ref ka)])) rfl (by rw [hml]; rfl) (Steps.refl _) (argsL := [(.int (ha.toInt16.toInt32))]) (rest := []) (lenOf own_pd13 rfl) rfl (by show 2 * 0 + _ ≤ _; exact Nat.le_of_eq rfl) (hb hby at_550) (fun _ _ => ⟨rfl, EQ2, (by decide : 3 + 0 ≤ _), (by decide : 81 + 0 ≤ _)⟩)
      dsimp only [Pt.U, Pt.locs, Pt.cells, Pt.slots] at X121 l121 y121 z121 st121 hQ121
      subst l121 y121 z121
      obtain ⟨rfl, N121q, EQ3⟩ := hQ121
      have N121 := Fr.app N119 N121q
      refine Goes.tr st121 ?_
      show Goes p e below s _ _ _ (T121.setTop (mkF m 553 #[.val (.int kk), .val (.int vv), .val (.ref b3), .val (.ref b58), .val (.ref b86), .val (.int ix), .val (.ref ka), .val (.int sv), .val (.int (own_bI (own_ok sv la ha))), .val (.int (1 : Int32)), .val (.int (own_bI true)), .unset, .unset, .unset] [(.int (own_bI true))]))
      refine Goes.st (fun t_ k_ => XS.istore X121.here hx rfl (hb hby at_553) rfl  (l' := #[.val (.int kk), .val (.int vv), .val (.ref b3), .val (.ref b58), .val (.ref b86), .val (.int ix), .val (.ref ka), .val (.int sv), .val (.int (own_bI (own_ok sv la ha))), .val (.int (1 : Int32)), .val (.int (own_bI true)), .val (.int (own_bI true)), .unset, .unset]) rfl k_) ?_
      show Goes p e below s _ _ _ (T121.setTop (mkF m 555 #[.val (.int kk), .val (.int vv), .val (.ref b3), .val (.ref b58), .val (.ref b86), .val (.int ix), .val (.ref ka), .val (.int sv), .val (.int (own_bI (own_ok sv la ha))), .val (.int (1 : Int32)), .val (.int (own_bI true)), .val (.int (own_bI true)), .unset, .unset] []))
      refine Goes.st (fun t_ k_ => XS.aload X121.here hx rfl (hb hby at_555) rfl rfl k_) ?_
      show Goes p e below s _ _ _ (T121.setTop (mkF m 557 #[.val (.int kk), .val (.int vv), .val (.ref b3), .val (.ref b58), .val (.ref b86), .val (.int ix), .val (.ref ka), .val (.int sv), .val (.int (own_bI (own_ok sv la ha))), .val (.int (1 : Int32)), .val (.int (own_bI true)), .val (.int (own_bI true)), .unset, .unset] [(.ref ka)]))
      refine Goes.st (fun t_ k_ => XS.aloadN X121.here hx rfl (hb hby at_557) rfl rfl k_) ?_
      show Goes p e below s _ _ _ (T121.setTop (mkF m 558 #[.val (.int kk), .val (.int vv), .val (.ref b3), .val (.ref b58), .val (.ref b86), .val (.int ix), .val (.ref ka), .val (.int sv), .val (.int (own_bI (own_ok sv la ha))), .val (.int (1 : Int32)), .val (.int (own_bI true)), .val (.int (own_bI true)), .unset, .unset] [(.ref b58), (.ref ka)]))
      refine Goes.st (fun t_ k_ => XS.iload X121.here hx rfl (hb hby at_558) rfl  k_) ?_
      show Goes p e below s _ _ _ (T121.setTop (mkF m 560 #[.val (.int kk), .val (.int vv), .val (.ref b3), .val (.ref b58), .val (.ref b86), .val (.int ix), .val (.ref ka), .val (.int sv), .val (.int (own_bI (own_ok sv la ha))), .val (.int (1 : Int32)), .val (.int (own_bI true)), .val (.int (own_bI true)), .unset, .unset] [(.int ix), (.ref b58), (.ref ka)]))
      have VV122 := V_b58
      obtain ⟨cl122, Ar122, -, S122, M122, H122, -⟩ := VV122
      have hin122 := inb_of S122 (j := ix) hin
      refine Goes.st (fun t_ k_ => X121.iaload hx (j := ix) (v := (.int la)) (by rw [EQ3]; exact Ar122.1) (State.isArrayOf_alike hZ.alike Ar122.2.1) Ar122.2.2 hin122 (Has.at H122 hin122 rl) (g := (mkF m 560 #[.val (.int kk), .val (.int vv), .val (.ref b3), .val (.ref b58), .val (.ref b86), .val (.int ix), .val (.ref ka), .val (.int sv), .val (.int (own_bI (own_ok sv la ha))), .val (.int (1 : Int32)), .val (.int (own_bI true)), .val (.int (own_bI true)), .unset, .unset] [(.int ix), (.ref b58), (.ref ka)])) rfl rfl (hb hby at_560) _ k_) ?_
      show Goes p e below s _ _ _ (T121.setTop (mkF m 561 #[.val (.int kk), .val (.int vv), .val (.ref b3), .val (.ref b58), .val (.ref b86), .val (.int ix), .val (.ref ka), .val (.int sv), .val (.int (own_bI (own_ok sv la ha))), .val (.int (1 : Int32)), .val (.int (own_bI true)), .val (.int (own_bI true)), .unset, .unset] [(.int la), (.ref ka)]))
      refine Goes.st (fun t_ k_ => XS.iconst X121.here hx rfl (hb hby at_561) k_) ?_
      show Goes p e below s _ _ _ (T121.setTop (mkF m 562 #[.val (.int kk), .val (.int vv), .val (.ref b3), .val (.ref b58), .val (.ref b86), .val (.int ix), .val (.ref ka), .val (.int sv), .val (.int (own_bI (own_ok sv la ha))), .val (.int (1 : Int32)), .val (.int (own_bI true)), .val (.int (own_bI true)), .unset, .unset] [(.int (1 : Int32)), (.int la), (.ref ka)]))
      refine Goes.st (fun t_ k_ => XS.isub X121.here hx rfl (hb hby at_562) rfl k_) ?_
      show Goes p e below s _ _ _ (T121.setTop (mkF m 563 #[.val (.int kk), .val (.int vv), .val (.ref b3), .val (.ref b58), .val (.ref b86), .val (.int ix), .val (.ref ka), .val (.int sv), .val (.int (own_bI (own_ok sv la ha))), .val (.int (1 : Int32)), .val (.int (own_bI true)), .val (.int (own_bI true)), .unset, .unset] [(.int (la - (1 : Int32))), (.ref ka)]))
      refine Goes.st (fun t_ k_ => XS.i2s X121.here hx rfl (hb hby at_563) rfl k_) ?_
      show Goes p e below s _ _ _ (T121.setTop (mkF m 564 #[.val (.int kk), .val (.int vv), .val (.ref b3), .val (.ref b58), .val (.ref b86), .val (.int ix), .val (.ref ka), .val (.int sv), .val (.int (own_bI (own_ok sv la ha))), .val (.int (1 : Int32)), .val (.int (own_bI true)), .val (.int (own_bI true)), .unset, .unset] [(.int ((la - (1 : Int32)).toInt16.toInt32)), (.ref ka)]))
      obtain ⟨cq123, kq123, q123a, q123b, q123c⟩ := isOf hZ EQ3 (Ek.ext O0.2)
      obtain ⟨_, _, ⟨T123, L123, k123, n123⟩, -, X123, ⟨Lc123, hQ123, l123, y123, z123⟩, st123⟩ := X121.virtualBack hx (y := (⟨"com/example/nestor/nestor/protocol/ApiKey", "supports", "(S)Z"⟩ : MethodName)) (z := (⟨"com/example/nestor/nestor/protocol/ApiKey", "supports", "(S)Z"⟩ : MethodName)) hown (mvT hZ (hw _ (List.mem_of_getElem? (i := 60) rfl))) (mvT hZ (hw _ (List.mem_of_getElem? (i := 61) rfl))) (notFace_of_selects (args := #[]) (mvT hZ (hw _ (List.mem_of_getElem? (i := 63) rfl)))) (mvT hZ (hw _ (List.mem_of_getElem? (i := 63) rfl))) (mvT hZ (hw _ (List.mem_of_getElem? (i := 62) rfl))) (by decide) (backOf (W := 0) (own_rmS l Z a0 hw [] ka ((la - (1 : Int32)).toInt16.toInt32) la ha false h114 n0 Z114 Fl' Fh' (by have h1 := own_m1 (x := la) (by omega) (by omega); have := own_s (x := la - 1) (by omega) (by omega); simp only [own_ok, own_lt, this, h1]; simp; omega)) hZ (hw _ (List.mem_of_getElem? (i := 64) rfl)) (hw _ (List.mem_of_getElem? (i := 3) rfl)) (by decide) (by decide)) q123a q123c (g := (mkF m 564 #[.val (.int kk), .val (.int vv), .val (.ref b3), .val (.ref b58), .val (.ref b86), .val (.int ix), .val (.ref ka), .val (.int sv), .val (.int (own_bI (own_ok sv la ha))), .val (.int (1 : Int32)), .val (.int (own_bI true)), .val (.int (own_bI true)), .unset, .unset] [(.int ((la - (1 : Int32)).toInt16.toInt32)), (.ref ka)])) rfl (by rw [hml]; rfl) (Steps.refl _) (argsL := [(.int ((la - (1 : Int32)).toInt16.toInt32))]) (rest := []) (lenOf own_pd13 rfl) rfl (by show 2 * 0 + _ ≤ _; exact Nat.le_of_eq rfl) (hb hby at_564) (fun _ _ => ⟨rfl, EQ3, (by decide : 3 + 0 ≤ _), (by decide : 81 + 0 ≤ _)⟩)
      dsimp only [Pt.U, Pt.locs, Pt.cells, Pt.slots] at X123 l123 y123 z123 st123 hQ123
      subst l123 y123 z123
      obtain ⟨rfl, N123q, EQ4⟩ := hQ123
      have N123 := Fr.app N121 N123q
      refine Goes.tr st123 ?_
      show Goes p e below s _ _ _ (T123.setTop (mkF m 567 #[.val (.int kk), .val (.int vv), .val (.ref b3), .val (.ref b58), .val (.ref b86), .val (.int ix), .val (.ref ka), .val (.int sv), .val (.int (own_bI (own_ok sv la ha))), .val (.int (1 : Int32)), .val (.int (own_bI true)), .val (.int (own_bI true)), .unset, .unset] [(.int (own_bI false))]))
      refine Goes.st (fun t_ k_ => XS.ifNo X123.here hx rfl (hb hby at_567) rfl ((if0 _ _).trans (teq (rfl : own_bI false = 0)).2) k_) ?_
      show Goes p e below s _ _ _ (T123.setTop (mkF m 570 #[.val (.int kk), .val (.int vv), .val (.ref b3), .val (.ref b58), .val (.ref b86), .val (.int ix), .val (.ref ka), .val (.int sv), .val (.int (own_bI (own_ok sv la ha))), .val (.int (1 : Int32)), .val (.int (own_bI true)), .val (.int (own_bI true)), .unset, .unset] []))
      refine Goes.st (fun t_ k_ => XS.iconst X123.here hx rfl (hb hby at_570) k_) ?_
      show Goes p e below s _ _ _ (T123.setTop (mkF m 571 #[.val (.int kk), .val (.int vv), .val (.ref b3), .val (.ref b58), .val (.ref b86), .val (.int ix), .val (.ref ka), .val (.int sv), .val (.int (own_bI (own_ok sv la ha))), .val (.int (1 : Int32)), .val (.int (own_bI true)), .val (.int (own_bI true)), .unset, .unset] [(.int (1 : Int32))]))
      refine Goes.st (fun t_ k_ => XS.goto X123.here hx rfl (pc0 := 571) (pc' := 575) rfl (hb hby at_571) (by decide) (by decide) k_) ?_
      show Goes p e below s _ _ _ (T123.setTop (mkF m 575 #[.val (.int kk), .val (.int vv), .val (.ref b3), .val (.ref b58), .val (.ref b86), .val (.int ix), .val (.ref ka), .val (.int sv), .val (.int (own_bI (own_ok sv la ha))), .val (.int (1 : Int32)), .val (.int (own_bI true)), .val (.int (own_bI true)), .unset, .unset] [(.int (1 : Int32))]))
      refine Goes.st (fun t_ k_ => XS.istore X123.here hx rfl (hb hby at_575) rfl  (l' := #[.val (.int kk), .val (.int vv), .val (.ref b3), .val (.ref b58), .val (.ref b86), .val (.int ix), .val (.ref ka), .val (.int sv), .val (.int (own_bI (own_ok sv la ha))), .val (.int (1 : Int32)), .val (.int (own_bI true)), .val (.int (own_bI true)), .val (.int (1 : Int32)), .unset]) rfl k_) ?_
      show Goes p e below s _ _ _ (T123.setTop (mkF m 577 #[.val (.int kk), .val (.int vv), .val (.ref b3), .val (.ref b58), .val (.ref b86), .val (.int ix), .val (.ref ka), .val (.int sv), .val (.int (own_bI (own_ok sv la ha))), .val (.int (1 : Int32)), .val (.int (own_bI true)), .val (.int (own_bI true)), .val (.int (1 : Int32)), .unset] []))
      refine Goes.st (fun t_ k_ => XS.aload X123.here hx rfl (hb hby at_577) rfl rfl k_) ?_
      show Goes p e below s _ _ _ (T123.setTop (mkF m 579 #[.val (.int kk), .val (.int vv), .val (.ref b3), .val (.ref b58), .val (.ref b86), .val (.int ix), .val (.ref ka), .val (.int sv), .val (.int (own_bI (own_ok sv la ha))), .val (.int (1 : Int32)), .val (.int (own_bI true)), .val (.int (own_bI true)), .val (.int (1 : Int32)), .unset] [(.ref ka)]))
      refine Goes.st (fun t_ k_ => XS.aload X123.here hx rfl (hb hby at_579) rfl rfl k_) ?_
      show Goes p e below s _ _ _ (T123.setTop (mkF m 581 #[.val (.int kk), .val (.int vv), .val (.ref b3), .val (.ref b58), .val (.ref b86), .val (.int ix), .val (.ref ka), .val (.int sv), .val (.int (own_bI (own_ok sv la ha))), .val (.int (1 : Int32)), .val (.int (own_bI true)), .val (.int (own_bI true)), .val (.int (1 : Int32)), .unset] [(.ref b86), (.ref ka)]))
      refine Goes.st (fun t_ k_ => XS.iload X123.here hx rfl (hb hby at_581) rfl  k_) ?_
      show Goes p e below s _ _ _ (T123.setTop (mkF m 583 #[.val (.int kk), .val (.int vv), .val (.ref b3), .val (.ref b58), .val (.ref b86), .val (.int ix), .val (.ref ka), .val (.int sv), .val (.int (own_bI (own_ok sv la ha))), .val (.int (1 : Int32)), .val (.int (own_bI true)), .val (.int (own_bI true)), .val (.int (1 : Int32)), .unset] [(.int ix), (.ref b86), (.ref ka)]))
      have VV124 := V_b86
      obtain ⟨cl124, Ar124, -, S124, M124, H124, -⟩ := VV124
      have hin124 := inb_of S124 (j := ix) hin
      refine Goes.st (fun t_ k_ => X123.iaload hx (j := ix) (v := (.int ha)) (by rw [EQ4]; exact Ar124.1) (State.isArrayOf_alike hZ.alike Ar124.2.1) Ar124.2.2 hin124 (Has.at H124 hin124 rh) (g := (mkF m 583 #[.val (.int kk), .val (.int vv), .val (.ref b3), .val (.ref b58), .val (.ref b86), .val (.int ix), .val (.ref ka), .val (.int sv), .val (.int (own_bI (own_ok sv la ha))), .val (.int (1 : Int32)), .val (.int (own_bI true)), .val (.int (own_bI true)), .val (.int (1 : Int32)), .unset] [(.int ix), (.ref b86), (.ref ka)])) rfl rfl (hb hby at_583) _ k_) ?_
      show Goes p e below s _ _ _ (T123.setTop (mkF m 584 #[.val (.int kk), .val (.int vv), .val (.ref b3), .val (.ref b58), .val (.ref b86), .val (.int ix), .val (.ref ka), .val (.int sv), .val (.int (own_bI (own_ok sv la ha))), .val (.int (1 : Int32)), .val (.int (own_bI true)), .val (.int (own_bI true)), .val (.int (1 : Int32)), .unset] [(.int ha), (.ref ka)]))
      refine Goes.st (fun t_ k_ => XS.iconst X123.here hx rfl (hb hby at_584) k_) ?_
      show Goes p e below s _ _ _ (T123.setTop (mkF m 585 #[.val (.int kk), .val (.int vv), .val (.ref b3), .val (.ref b58), .val (.ref b86), .val (.int ix), .val (.ref ka), .val (.int sv), .val (.int (own_bI (own_ok sv la ha))), .val (.int (1 : Int32)), .val (.int (own_bI true)), .val (.int (own_bI true)), .val (.int (1 : Int32)), .unset] [(.int (1 : Int32)), (.int ha), (.ref ka)]))
      refine Goes.st (fun t_ k_ => XS.iadd X123.here hx rfl (hb hby at_585) rfl k_) ?_
      show Goes p e below s _ _ _ (T123.setTop (mkF m 586 #[.val (.int kk), .val (.int vv), .val (.ref b3), .val (.ref b58), .val (.ref b86), .val (.int ix), .val (.ref ka), .val (.int sv), .val (.int (own_bI (own_ok sv la ha))), .val (.int (1 : Int32)), .val (.int (own_bI true)), .val (.int (own_bI true)), .val (.int (1 : Int32)), .unset] [(.int (ha + (1 : Int32))), (.ref ka)]))
      refine Goes.st (fun t_ k_ => XS.i2s X123.here hx rfl (hb hby at_586) rfl k_) ?_
      show Goes p e below s _ _ _ (T123.setTop (mkF m 587 #[.val (.int kk), .val (.int vv), .val (.ref b3), .val (.ref b58), .val (.ref b86), .val (.int ix), .val (.ref ka), .val (.int sv), .val (.int (own_bI (own_ok sv la ha))), .val (.int (1 : Int32)), .val (.int (own_bI true)), .val (.int (own_bI true)), .val (.int (1 : Int32)), .unset] [(.int ((ha + (1 : Int32)).toInt16.toInt32)), (.ref ka)]))
      obtain ⟨cq125, kq125, q125a, q125b, q125c⟩ := isOf hZ EQ4 (Ek.ext O0.2)
      obtain ⟨_, _, ⟨T125, L125, k125, n125⟩, -, X125, ⟨Lc125, hQ125, l125, y125, z125⟩, st125⟩ := X123.virtualBack hx (y := (⟨"com/example/nestor/nestor/protocol/ApiKey", "supports", "(S)Z"⟩ : MethodName)) (z := (⟨"com/example/nestor/nestor/protocol/ApiKey", "supports", "(S)Z"⟩ : MethodName)) hown (mvT hZ (hw _ (List.mem_of_getElem? (i := 60) rfl))) (mvT hZ (hw _ (List.mem_of_getElem? (i := 61) rfl))) (notFace_of_selects (args := #[]) (mvT hZ (hw _ (List.mem_of_getElem? (i := 63) rfl)))) (mvT hZ (hw _ (List.mem_of_getElem? (i := 63) rfl))) (mvT hZ (hw _ (List.mem_of_getElem? (i := 62) rfl))) (by decide) (backOf (W := 0) (own_rmS l Z a0 hw [] ka ((ha + (1 : Int32)).toInt16.toInt32) la ha false h114 n0 Z114 Fl' Fh' (by have h1 := own_p1 (x := ha) (by omega) (by omega); have := own_s (x := ha + 1) (by omega) (by omega); simp only [own_ok, own_lt, this, h1]; simp; omega)) hZ (hw _ (List.mem_of_getElem? (i := 64) rfl)) (hw _ (List.mem_of_getElem? (i := 3) rfl)) (by decide) (by decide)) q125a q125c (g := (mkF m 587 #[.val (.int kk), .val (.int vv), .val (.ref b3), .val (.ref b58), .val (.ref b86), .val (.int ix), .val (.ref ka), .val (.int sv), .val (.int (own_bI (own_ok sv la ha))), .val (.int (1 : Int32)), .val (.int (own_bI true)), .val (.int (own_bI true)), .val (.int (1 : Int32)), .unset] [(.int ((ha + (1 : Int32)).toInt16.toInt32)), (.ref ka)])) rfl (by rw [hml]; rfl) (Steps.refl _) (argsL := [(.int ((ha + (1 : Int32)).toInt16.toInt32))]) (rest := []) (lenOf own_pd13 rfl) rfl (by show 2 * 0 + _ ≤ _; exact Nat.le_of_eq rfl) (hb hby at_587) (fun _ _ => ⟨rfl, EQ4, (by decide : 3 + 0 ≤ _), (by decide : 81 + 0 ≤ _)⟩)
      dsimp only [Pt.U, Pt.locs, Pt.cells, Pt.slots] at X125 l125 y125 z125 st125 hQ125
      subst l125 y125 z125
      obtain ⟨rfl, N125q, EQ5⟩ := hQ125
      have N125 := Fr.app N123 N125q
      refine Goes.tr st125 ?_
      show Goes p e below s _ _ _ (T125.setTop (mkF m 590 #[.val (.int kk), .val (.int vv), .val (.ref b3), .val (.ref b58), .val (.ref b86), .val (.int ix), .val (.ref ka), .val (.int sv), .val (.int (own_bI (own_ok sv la ha))), .val (.int (1 : Int32)), .val (.int (own_bI true)), .val (.int (own_bI true)), .val (.int (1 : Int32)), .unset] [(.int (own_bI false))]))
      refine Goes.st (fun t_ k_ => XS.ifNo X125.here hx rfl (hb hby at_590) rfl ((if0 _ _).trans (teq (rfl : own_bI false = 0)).2) k_) ?_
      show Goes p e below s _ _ _ (T125.setTop (mkF m 593 #[.val (.int kk), .val (.int vv), .val (.ref b3), .val (.ref b58), .val (.ref b86), .val (.int ix), .val (.ref ka), .val (.int sv), .val (.int (own_bI (own_ok sv la ha))), .val (.int (1 : Int32)), .val (.int (own_bI true)), .val (.int (own_bI true)), .val (.int (1 : Int32)), .unset] []))
      refine Goes.st (fun t_ k_ => XS.iconst X125.here hx rfl (hb hby at_593) k_) ?_
      show Goes p e below s _ _ _ (T125.setTop (mkF m 594 #[.val (.int kk), .val (.int vv), .val (.ref b3), .val (.ref b58), .val (.ref b86), .val (.int ix), .val (.ref ka), .val (.int sv), .val (.int (own_bI (own_ok sv la ha))), .val (.int (1 : Int32)), .val (.int (own_bI true)), .val (.int (own_bI true)), .val (.int (1 : Int32)), .unset] [(.int (1 : Int32))]))
      refine Goes.st (fun t_ k_ => XS.goto X125.here hx rfl (pc0 := 594) (pc' := 598) rfl (hb hby at_594) (by decide) (by decide) k_) ?_
      show Goes p e below s _ _ _ (T125.setTop (mkF m 598 #[.val (.int kk), .val (.int vv), .val (.ref b3), .val (.ref b58), .val (.ref b86), .val (.int ix), .val (.ref ka), .val (.int sv), .val (.int (own_bI (own_ok sv la ha))), .val (.int (1 : Int32)), .val (.int (own_bI true)), .val (.int (own_bI true)), .val (.int (1 : Int32)), .unset] [(.int (1 : Int32))]))
      refine Goes.st (fun t_ k_ => XS.istore X125.here hx rfl (hb hby at_598) rfl  (l' := #[.val (.int kk), .val (.int vv), .val (.ref b3), .val (.ref b58), .val (.ref b86), .val (.int ix), .val (.ref ka), .val (.int sv), .val (.int (own_bI (own_ok sv la ha))), .val (.int (1 : Int32)), .val (.int (own_bI true)), .val (.int (own_bI true)), .val (.int (1 : Int32)), .val (.int (1 : Int32))]) rfl k_) ?_
      show Goes p e below s _ _ _ (T125.setTop (mkF m 600 #[.val (.int kk), .val (.int vv), .val (.ref b3), .val (.ref b58), .val (.ref b86), .val (.int ix), .val (.ref ka), .val (.int sv), .val (.int (own_bI (own_ok sv la ha))), .val (.int (1 : Int32)), .val (.int (own_bI true)), .val (.int (own_bI true)), .val (.int (1 : Int32)), .val (.int (1 : Int32))] []))
      refine Goes.st (fun t_ k_ => XS.iload X125.here hx rfl (hb hby at_600) rfl  k_) ?_
      show Goes p e below s _ _ _ (T125.setTop (mkF m 602 #[.val (.int kk), .val (.int vv), .val (.ref b3), .val (.ref b58), .val (.ref b86), .val (.int ix), .val (.ref ka), .val (.int sv), .val (.int (own_bI (own_ok sv la ha))), .val (.int (1 : Int32)), .val (.int (own_bI true)), .val (.int (own_bI true)), .val (.int (1 : Int32)), .val (.int (1 : Int32))] [(.int (1 : Int32))]))
      refine Goes.st (fun t_ k_ => XS.ifNo X125.here hx rfl (hb hby at_602) rfl ((if0 _ _).trans (feq (by decide : ¬ (1 : Int32) = 0)).1) k_) ?_
      show Goes p e below s _ _ _ (T125.setTop (mkF m 605 #[.val (.int kk), .val (.int vv), .val (.ref b3), .val (.ref b58), .val (.ref b86), .val (.int ix), .val (.ref ka), .val (.int sv), .val (.int (own_bI (own_ok sv la ha))), .val (.int (1 : Int32)), .val (.int (own_bI true)), .val (.int (own_bI true)), .val (.int (1 : Int32)), .val (.int (1 : Int32))] []))
      refine Goes.st (fun t_ k_ => XS.iload X125.here hx rfl (hb hby at_605) rfl  k_) ?_
      show Goes p e below s _ _ _ (T125.setTop (mkF m 607 #[.val (.int kk), .val (.int vv), .val (.ref b3), .val (.ref b58), .val (.ref b86), .val (.int ix), .val (.ref ka), .val (.int sv), .val (.int (own_bI (own_ok sv la ha))), .val (.int (1 : Int32)), .val (.int (own_bI true)), .val (.int (own_bI true)), .val (.int (1 : Int32)), .val (.int (1 : Int32))] [(.int (own_bI true))]))
      refine Goes.st (fun t_ k_ => XS.ifNo X125.here hx rfl (hb hby at_607) rfl ((if0 _ _).trans (feq (by decide : ¬ (own_bI true) = 0)).1) k_) ?_
      show Goes p e below s _ _ _ (T125.setTop (mkF m 610 #[.val (.int kk), .val (.int vv), .val (.ref b3), .val (.ref b58), .val (.ref b86), .val (.int ix), .val (.ref ka), .val (.int sv), .val (.int (own_bI (own_ok sv la ha))), .val (.int (1 : Int32)), .val (.int (own_bI true)), .val (.int (own_bI true)), .val (.int (1 : Int32)), .val (.int (1 : Int32))] []))
      refine Goes.st (fun t_ k_ => XS.iload X125.here hx rfl (hb hby at_610) rfl  k_) ?_
      show Goes p e below s _ _ _ (T125.setTop (mkF m 612 #[.val (.int kk), .val (.int vv), .val (.ref b3), .val (.ref b58), .val (.ref b86), .val (.int ix), .val (.ref ka), .val (.int sv), .val (.int (own_bI (own_ok sv la ha))), .val (.int (1 : Int32)), .val (.int (own_bI true)), .val (.int (own_bI true)), .val (.int (1 : Int32)), .val (.int (1 : Int32))] [(.int (own_bI true))]))
      refine Goes.st (fun t_ k_ => XS.ifNo X125.here hx rfl (hb hby at_612) rfl ((if0 _ _).trans (feq (by decide : ¬ (own_bI true) = 0)).1) k_) ?_
      show Goes p e below s _ _ _ (T125.setTop (mkF m 615 #[.val (.int kk), .val (.int vv), .val (.ref b3), .val (.ref b58), .val (.ref b86), .val (.int ix), .val (.ref ka), .val (.int sv), .val (.int (own_bI (own_ok sv la ha))), .val (.int (1 : Int32)), .val (.int (own_bI true)), .val (.int (own_bI true)), .val (.int (1 : Int32)), .val (.int (1 : Int32))] []))
      refine Goes.st (fun t_ k_ => XS.iload X125.here hx rfl (hb hby at_615) rfl  k_) ?_
      show Goes p e below s _ _ _ (T125.setTop (mkF m 617 #[.val (.int kk), .val (.int vv), .val (.ref b3), .val (.ref b58), .val (.ref b86), .val (.int ix), .val (.ref ka), .val (.int sv), .val (.int (own_bI (own_ok sv la ha))), .val (.int (1 : Int32)), .val (.int (own_bI true)), .val (.int (own_bI true)), .val (.int (1 : Int32)), .val (.int (1 : Int32))] [(.int (1 : Int32))]))
      refine Goes.st (fun t_ k_ => XS.ifNo X125.here hx rfl (hb hby at_617) rfl ((if0 _ _).trans (feq (by decide : ¬ (1 : Int32) = 0)).1) k_) ?_
      show Goes p e below s _ _ _ (T125.setTop (mkF m 620 #[.val (.int kk), .val (.int vv), .val (.ref b3), .val (.ref b58), .val (.ref b86), .val (.int ix), .val (.ref ka), .val (.int sv), .val (.int (own_bI (own_ok sv la ha))), .val (.int (1 : Int32)), .val (.int (own_bI true)), .val (.int (own_bI true)), .val (.int (1 : Int32)), .val (.int (1 : Int32))] []))
      refine Goes.st (fun t_ k_ => XS.iload X125.here hx rfl (hb hby at_620) rfl  k_) ?_
      show Goes p e below s _ _ _ (T125.setTop (mkF m 622 #[.val (.int kk), .val (.int vv), .val (.ref b3), .val (.ref b58), .val (.ref b86), .val (.int ix), .val (.ref ka), .val (.int sv), .val (.int (own_bI (own_ok sv la ha))), .val (.int (1 : Int32)), .val (.int (own_bI true)), .val (.int (own_bI true)), .val (.int (1 : Int32)), .val (.int (1 : Int32))] [(.int (1 : Int32))]))
      refine Goes.st (fun t_ k_ => XS.ifNo X125.here hx rfl (hb hby at_622) rfl ((if0 _ _).trans (feq (by decide : ¬ (1 : Int32) = 0)).1) k_) ?_
      show Goes p e below s _ _ _ (T125.setTop (mkF m 625 #[.val (.int kk), .val (.int vv), .val (.ref b3), .val (.ref b58), .val (.ref b86), .val (.int ix), .val (.ref ka), .val (.int sv), .val (.int (own_bI (own_ok sv la ha))), .val (.int (1 : Int32)), .val (.int (own_bI true)), .val (.int (own_bI true)), .val (.int (1 : Int32)), .val (.int (1 : Int32))] []))
      refine Goes.st (fun t_ k_ => XS.iconst X125.here hx rfl (hb hby at_625) k_) ?_
      show Goes p e below s _ _ _ (T125.setTop (mkF m 626 #[.val (.int kk), .val (.int vv), .val (.ref b3), .val (.ref b58), .val (.ref b86), .val (.int ix), .val (.ref ka), .val (.int sv), .val (.int (own_bI (own_ok sv la ha))), .val (.int (1 : Int32)), .val (.int (own_bI true)), .val (.int (own_bI true)), .val (.int (1 : Int32)), .val (.int (1 : Int32))] [(.int (1 : Int32))]))
      refine Goes.st (fun t_ k_ => XS.goto X125.here hx rfl (pc0 := 626) (pc' := 630) rfl (hb hby at_626) (by decide) (by decide) k_) ?_
      show Goes p e below s _ _ _ (T125.setTop (mkF m 630 #[.val (.int kk), .val (.int vv), .val (.ref b3), .val (.ref b58), .val (.ref b86), .val (.int ix), .val (.ref ka), .val (.int sv), .val (.int (own_bI (own_ok sv la ha))), .val (.int (1 : Int32)), .val (.int (own_bI true)), .val (.int (own_bI true)), .val (.int (1 : Int32)), .val (.int (1 : Int32))] [(.int (1 : Int32))]))
      exact Goes.retN X125 hx (t := .boolean) hret hlk (by simp) (hb hby at_630) (by decide) (by decide) (⟨rfl, N125⟩)
    by_cases hc1 : sv < la
    · refine Goes.st (fun t_ k_ => XS.icmpYes X114.here hx rfl (pc0 := 491) (pc' := 508) rfl (hb hby at_491) rfl (tlt hc1).1 (by decide) (by decide) k_) ?_
      show Goes p e below s _ _ _ (T114.setTop (mkF m 508 #[.val (.int kk), .val (.int vv), .val (.ref b3), .val (.ref b58), .val (.ref b86), .val (.int ix), .val (.ref ka), .val (.int sv), .unset, .unset, .unset, .unset, .unset, .unset] []))
      refine Goes.st (fun t_ k_ => XS.iconst X114.here hx rfl (hb hby at_508) k_) ?_
      show Goes p e below s _ _ _ (T114.setTop (mkF m 509 #[.val (.int kk), .val (.int vv), .val (.ref b3), .val (.ref b58), .val (.ref b86), .val (.int ix), .val (.ref ka), .val (.int sv), .unset, .unset, .unset, .unset, .unset, .unset] [(.int (0 : Int32))]))
      have q : own_ok sv la ha = false := by simp [own_ok, hc1]
      rw [q] at hj1
      exact hj1
    · refine Goes.st (fun t_ k_ => XS.icmpNo X114.here hx rfl (hb hby at_491) rfl (flt hc1).1 k_) ?_
      show Goes p e below s _ _ _ (T114.setTop (mkF m 494 #[.val (.int kk), .val (.int vv), .val (.ref b3), .val (.ref b58), .val (.ref b86), .val (.int ix), .val (.ref ka), .val (.int sv), .unset, .unset, .unset, .unset, .unset, .unset] []))
      refine Goes.st (fun t_ k_ => XS.iload X114.here hx rfl (hb hby at_494) rfl  k_) ?_
      show Goes p e below s _ _ _ (T114.setTop (mkF m 496 #[.val (.int kk), .val (.int vv), .val (.ref b3), .val (.ref b58), .val (.ref b86), .val (.int ix), .val (.ref ka), .val (.int sv), .unset, .unset, .unset, .unset, .unset, .unset] [(.int sv)]))
      refine Goes.st (fun t_ k_ => XS.aload X114.here hx rfl (hb hby at_496) rfl rfl k_) ?_
      show Goes p e below s _ _ _ (T114.setTop (mkF m 498 #[.val (.int kk), .val (.int vv), .val (.ref b3), .val (.ref b58), .val (.ref b86), .val (.int ix), .val (.ref ka), .val (.int sv), .unset, .unset, .unset, .unset, .unset, .unset] [(.ref b86), (.int sv)]))
      refine Goes.st (fun t_ k_ => XS.iload X114.here hx rfl (hb hby at_498) rfl  k_) ?_
      show Goes p e below s _ _ _ (T114.setTop (mkF m 500 #[.val (.int kk), .val (.int vv), .val (.ref b3), .val (.ref b58), .val (.ref b86), .val (.int ix), .val (.ref ka), .val (.int sv), .unset, .unset, .unset, .unset, .unset, .unset] [(.int ix), (.ref b86), (.int sv)]))
      have VV126 := V_b86
      obtain ⟨cl126, Ar126, -, S126, M126, H126, -⟩ := VV126
      have hin126 := inb_of S126 (j := ix) hin
      refine Goes.st (fun t_ k_ => X114.iaload hx (j := ix) (v := (.int ha)) (by rw [e114]; exact Ar126.1) (State.isArrayOf_alike hZ.alike Ar126.2.1) Ar126.2.2 hin126 (Has.at H126 hin126 rh) (g := (mkF m 500 #[.val (.int kk), .val (.int vv), .val (.ref b3), .val (.ref b58), .val (.ref b86), .val (.int ix), .val (.ref ka), .val (.int sv), .unset, .unset, .unset, .unset, .unset, .unset] [(.int ix), (.ref b86), (.int sv)])) rfl rfl (hb hby at_500) _ k_) ?_
      show Goes p e below s _ _ _ (T114.setTop (mkF m 501 #[.val (.int kk), .val (.int vv), .val (.ref b3), .val (.ref b58), .val (.ref b86), .val (.int ix), .val (.ref ka), .val (.int sv), .unset, .unset, .unset, .unset, .unset, .unset] [(.int ha), (.int sv)]))
      by_cases hc2 : ha < sv
      · refine Goes.st (fun t_ k_ => XS.icmpYes X114.here hx rfl (pc0 := 501) (pc' := 508) rfl (hb hby at_501) rfl (tlt hc2).2.2.1 (by decide) (by decide) k_) ?_
        show Goes p e below s _ _ _ (T114.setTop (mkF m 508 #[.val (.int kk), .val (.int vv), .val (.ref b3), .val (.ref b58), .val (.ref b86), .val (.int ix), .val (.ref ka), .val (.int sv), .unset, .unset, .unset, .unset, .unset, .unset] []))
        refine Goes.st (fun t_ k_ => XS.iconst X114.here hx rfl (hb hby at_508) k_) ?_
        show Goes p e below s _ _ _ (T114.setTop (mkF m 509 #[.val (.int kk), .val (.int vv), .val (.ref b3), .val (.ref b58), .val (.ref b86), .val (.int ix), .val (.ref ka), .val (.int sv), .unset, .unset, .unset, .unset, .unset, .unset] [(.int (0 : Int32))]))
        have q : own_ok sv la ha = false := by simp [own_ok, hc1, hc2]
        rw [q] at hj1
        exact hj1
      · refine Goes.st (fun t_ k_ => XS.icmpNo X114.here hx rfl (hb hby at_501) rfl (flt hc2).2.2.1 k_) ?_
        show Goes p e below s _ _ _ (T114.setTop (mkF m 504 #[.val (.int kk), .val (.int vv), .val (.ref b3), .val (.ref b58), .val (.ref b86), .val (.int ix), .val (.ref ka), .val (.int sv), .unset, .unset, .unset, .unset, .unset, .unset] []))
        refine Goes.st (fun t_ k_ => XS.iconst X114.here hx rfl (hb hby at_504) k_) ?_
        show Goes p e below s _ _ _ (T114.setTop (mkF m 505 #[.val (.int kk), .val (.int vv), .val (.ref b3), .val (.ref b58), .val (.ref b86), .val (.int ix), .val (.ref ka), .val (.int sv), .unset, .unset, .unset, .unset, .unset, .unset] [(.int (1 : Int32))]))
        refine Goes.st (fun t_ k_ => XS.goto X114.here hx rfl (pc0 := 505) (pc' := 509) rfl (hb hby at_505) (by decide) (by decide) k_) ?_
        show Goes p e below s _ _ _ (T114.setTop (mkF m 509 #[.val (.int kk), .val (.int vv), .val (.ref b3), .val (.ref b58), .val (.ref b86), .val (.int ix), .val (.ref ka), .val (.int sv), .unset, .unset, .unset, .unset, .unset, .unset] [(.int (1 : Int32))]))
        have q : own_ok sv la ha = true := by simp [own_ok, hc1, hc2]
        rw [q] at hj1
        exact hj1
  exact hjA _ _ _  X113 e113 N113 Z0'''''''''''''''''''''''''''''''''''''''''''''''''''''''''''''''''''''''''''''''''''' V_b3 V_b58 V_b86 O0   
set_option maxRecDepth 65536 in
set_option maxHeartbeats 40000000 in
theorem comes_1 {Post : Tables → Env → Array Value → State → Outcome → State → Prop} (hpost : ∀ tb e args s v u, (limb_1_1.after args s (.returned v) u = true ∧ limb_1_2.after args s (.returned v) u = true ∧ True) → FrameEnd s (.returned v) u (Jvm.fieldLocs frame_1_writes args s ++ Jvm.arrayLocs frame_1_arrays args s ++ Jvm.staticLocs frame_1_statics s) 16 256 → Post tb e args s (.returned v) u) :
    ArmFor flags0 classFile x code maxLocals ret World_1 tables_1 room_1 Calls_1 rest_1 Pre_1 Post := by
  intro l hfl _ _ p e ha hc hk s m args below hf hA hF happ hP
  obtain ⟨hcalls, hrest, hpre⟩ := hP
  obtain ⟨-, -, -, hnamed, -, -, -, hat⟩ := (Spec.applies_iff hf).mp happ
  obtain ⟨hg, hn⟩ := and_e (Cond.before_iff.mp (show (Jvm.Cond.and given_1 narrow_1).before args s = true from hpre))
  obtain ⟨g0, gr0⟩ := and_e hg
  obtain ⟨ga0, gr1⟩ := and_e gr0
  have ga1 := gr1
  obtain ⟨w0, w1, rfl⟩ : ∃ w0 w1 : Value, args = #[w0, w1] := by
    have hs : args.size = 2 := by simpa [Cond.value, given_1] using g0
    obtain ⟨L⟩ := args
    match L, hs with
    | [w0, w1], _ => exact ⟨w0, w1, rfl⟩
  have hw := fun d (hd : d ∈ tables_1) => atoms_spec (ws := Jvm.Cond.code x code maxLocals ret :: tables_1) hat d (List.mem_cons_of_mem _ hd)
  have hfit : Fit s := fun {y c} hc i hi => by
    obtain ⟨ha, rfl⟩ := Array.getElem?_eq_some_iff.mp hc
    have q := List.all_eq_true.mp ((Array.all_eq_true_iff_forall_mem.mp hF) _ (Array.getElem_mem ha)) i (List.mem_range.mpr hi)
    simpa [Array.getElem?_eq_getElem hi] using q
  obtain ⟨i0, ei0⟩ := is_v ga0
  obtain rfl : w0 = (.int i0) := Option.some.inj ei0
  obtain ⟨i1, ei1⟩ := is_v ga1
  obtain rfl : w1 = (.int i1) := Option.some.inj ei1
  have hn' : narrow_1.value _ s none s [] = some true := hn
  unfold narrow_1 at hn'
  obtain ⟨nn0, hn'⟩ := and_e hn'
  obtain ⟨nn1, hn'⟩ := and_e hn'
  obtain ⟨nn2, hn'⟩ := and_e hn'
  obtain ⟨nn3, hn'⟩ := and_e hn'
  obtain ⟨nn4, hn'⟩ := and_e hn'
  obtain ⟨nn5, hn'⟩ := and_e hn'
  obtain ⟨nn6, hn'⟩ := and_e hn'
  obtain ⟨nn7, hn'⟩ := and_e hn'
  obtain ⟨nn8, hn'⟩ := and_e hn'
  obtain ⟨nn9, hn'⟩ := and_e hn'
  obtain ⟨nn10, hn'⟩ := and_e hn'
  obtain ⟨nn11, hn'⟩ := and_e hn'
  obtain ⟨nn12, hn'⟩ := and_e hn'
  obtain ⟨nn13, hn'⟩ := and_e hn'
  obtain ⟨nn14, hn'⟩ := and_e hn'
  obtain ⟨nn15, hn'⟩ := and_e hn'
  obtain ⟨nn16, hn'⟩ := and_e hn'
  obtain ⟨nn17, hn'⟩ := and_e hn'
  obtain ⟨nn18, hn'⟩ := and_e hn'
  obtain ⟨nn19, hn'⟩ := and_e hn'
  obtain ⟨nn20, hn'⟩ := and_e hn'
  obtain ⟨nn21, hn'⟩ := and_e hn'
  obtain ⟨nn22, hn'⟩ := and_e hn'
  obtain ⟨nn23, hn'⟩ := and_e hn'
  obtain ⟨nn24, hn'⟩ := and_e hn'
  obtain ⟨nn25, hn'⟩ := and_e hn'
  obtain ⟨nn26, hn'⟩ := and_e hn'
  obtain ⟨nn27, hn'⟩ := and_e hn'
  obtain ⟨nn28, hn'⟩ := and_e hn'
  obtain ⟨nn29, hn'⟩ := and_e hn'
  obtain ⟨nn30, hn'⟩ := and_e hn'
  obtain ⟨nn31, hn'⟩ := and_e hn'
  obtain ⟨nn32, hn'⟩ := and_e hn'
  obtain ⟨nn33, hn'⟩ := and_e hn'
  obtain ⟨nn34, hn'⟩ := and_e hn'
  obtain ⟨nn35, hn'⟩ := and_e hn'
  obtain ⟨nn36, hn'⟩ := and_e hn'
  obtain ⟨nn37, hn'⟩ := and_e hn'
  obtain ⟨nn38, hn'⟩ := and_e hn'
  obtain ⟨nn39, hn'⟩ := and_e hn'
  obtain ⟨nn40, hn'⟩ := and_e hn'
  obtain ⟨nn41, hn'⟩ := and_e hn'
  obtain ⟨nn42, hn'⟩ := and_e hn'
  obtain ⟨nn43, hn'⟩ := and_e hn'
  obtain ⟨nn44, hn'⟩ := and_e hn'
  obtain ⟨nn45, hn'⟩ := and_e hn'
  obtain ⟨nn46, hn'⟩ := and_e hn'
  obtain ⟨nn47, hn'⟩ := and_e hn'
  obtain ⟨nn48, hn'⟩ := and_e hn'
  obtain ⟨nn49, hn'⟩ := and_e hn'
  obtain ⟨nn50, hn'⟩ := and_e hn'
  obtain ⟨nn51, hn'⟩ := and_e hn'
  obtain ⟨nn52, hn'⟩ := and_e hn'
  obtain ⟨nn53, hn'⟩ := and_e hn'
  obtain ⟨nn54, hn'⟩ := and_e hn'
  obtain ⟨nn55, hn'⟩ := and_e hn'
  obtain ⟨nn56, hn'⟩ := and_e hn'
  obtain ⟨nn57, hn'⟩ := and_e hn'
  obtain ⟨nn58, hn'⟩ := and_e hn'
  obtain ⟨nn59, hn'⟩ := and_e hn'
  obtain ⟨nn60, hn'⟩ := and_e hn'
  obtain ⟨nn61, hn'⟩ := and_e hn'
  obtain ⟨nn62, hn'⟩ := and_e hn'
  obtain ⟨nn63, hn'⟩ := and_e hn'
  obtain ⟨nn64, hn'⟩ := and_e hn'
  obtain ⟨nn65, hn'⟩ := and_e hn'
  obtain ⟨nn66, hn'⟩ := and_e hn'
  obtain ⟨nn67, hn'⟩ := and_e hn'
  obtain ⟨nn68, hn'⟩ := and_e hn'
  obtain ⟨nn69, hn'⟩ := and_e hn'
  obtain ⟨nn70, hn'⟩ := and_e hn'
  obtain ⟨nn71, hn'⟩ := and_e hn'
  obtain ⟨nn72, hn'⟩ := and_e hn'
  obtain ⟨nn73, hn'⟩ := and_e hn'
  obtain ⟨nn74, hn'⟩ := and_e hn'
  obtain ⟨nn75, hn'⟩ := and_e hn'
  obtain ⟨nn76, hn'⟩ := and_e hn'
  obtain ⟨nn77, hn'⟩ := and_e hn'
  obtain ⟨nn78, hn'⟩ := and_e hn'
  obtain ⟨nn79, hn'⟩ := and_e hn'
  have nn80 := hn'
  obtain ⟨a_0, ev_0⟩ := exa_v nn0
  have X_0 := Exa.start ev_0 nn0
  have S_0 := Sta.start ev_0 (Or.inr ⟨(hw _ (List.mem_of_getElem? (i := 3) rfl)), (hw _ (List.mem_of_getElem? (i := 4) rfl))⟩)
  have L_0 := own_oeq nn27 ev_0
  have H_0 := own_oeq nn28 ev_0
  obtain ⟨a_1, ev_1⟩ := exa_v nn1
  have X_1 := Exa.start ev_1 nn1
  have S_1 := Sta.start ev_1 (Or.inr ⟨(hw _ (List.mem_of_getElem? (i := 3) rfl)), (hw _ (List.mem_of_getElem? (i := 7) rfl))⟩)
  have L_1 := own_oeq nn53 ev_1
  have H_1 := own_oeq nn54 ev_1
  obtain ⟨a_2, ev_2⟩ := exa_v nn2
  have X_2 := Exa.start ev_2 nn2
  have S_2 := Sta.start ev_2 (Or.inr ⟨(hw _ (List.mem_of_getElem? (i := 3) rfl)), (hw _ (List.mem_of_getElem? (i := 9) rfl))⟩)
  have L_2 := own_oeq nn57 ev_2
  have H_2 := own_oeq nn58 ev_2
  obtain ⟨a_3, ev_3⟩ := exa_v nn3
  have X_3 := Exa.start ev_3 nn3
  have S_3 := Sta.start ev_3 (Or.inr ⟨(hw _ (List.mem_of_getElem? (i := 3) rfl)), (hw _ (List.mem_of_getElem? (i := 11) rfl))⟩)
  have L_3 := own_oeq nn45 ev_3
  have H_3 := own_oeq nn46 ev_3
  obtain ⟨a_4, ev_4⟩ := exa_v nn4
  have X_4 := Exa.start ev_4 nn4
  have S_4 := Sta.start ev_4 (Or.inr ⟨(hw _ (List.mem_of_getElem? (i := 3) rfl)), (hw _ (List.mem_of_getElem? (i := 13) rfl))⟩)
  have L_4 := own_oeq nn69 ev_4
  have H_4 := own_oeq nn70 ev_4
  obtain ⟨a_5, ev_5⟩ := exa_v nn5
  have X_5 := Exa.start ev_5 nn5
  have S_5 := Sta.start ev_5 (Or.inr ⟨(hw _ (List.mem_of_getElem? (i := 3) rfl)), (hw _ (List.mem_of_getElem? (i := 15) rfl))⟩)
  have L_5 := own_oeq nn31 ev_5
  have H_5 := own_oeq nn32 ev_5
  obtain ⟨a_6, ev_6⟩ := exa_v nn6
  have X_6 := Exa.start ev_6 nn6
  have S_6 := Sta.start ev_6 (Or.inr ⟨(hw _ (List.mem_of_getElem? (i := 3) rfl)), (hw _ (List.mem_of_getElem? (i := 17) rfl))⟩)
  have L_6 := own_oeq nn37 ev_6
  have H_6 := own_oeq nn38 ev_6
  obtain ⟨a_7, ev_7⟩ := exa_v nn7
  have X_7 := Exa.start ev_7 nn7
  have S_7 := Sta.start ev_7 (Or.inr ⟨(hw _ (List.mem_of_getElem? (i := 3) rfl)), (hw _ (List.mem_of_getElem? (i := 19) rfl))⟩)
  have L_7 := own_oeq nn61 ev_7
  have H_7 := own_oeq nn62 ev_7
  obtain ⟨a_8, ev_8⟩ := exa_v nn8
  have X_8 := Exa.start ev_8 nn8
  have S_8 := Sta.start ev_8 (Or.inr ⟨(hw _ (List.mem_of_getElem? (i := 3) rfl)), (hw _ (List.mem_of_getElem? (i := 21) rfl))⟩)
  have L_8 := own_oeq nn39 ev_8
  have H_8 := own_oeq nn40 ev_8
  obtain ⟨a_9, ev_9⟩ := exa_v nn9
  have X_9 := Exa.start ev_9 nn9
  have S_9 := Sta.start ev_9 (Or.inr ⟨(hw _ (List.mem_of_getElem? (i := 3) rfl)), (hw _ (List.mem_of_getElem? (i := 23) rfl))⟩)
  have L_9 := own_oeq nn67 ev_9
  have H_9 := own_oeq nn68 ev_9
  obtain ⟨a_10, ev_10⟩ := exa_v nn10
  have X_10 := Exa.start ev_10 nn10
  have S_10 := Sta.start ev_10 (Or.inr ⟨(hw _ (List.mem_of_getElem? (i := 3) rfl)), (hw _ (List.mem_of_getElem? (i := 25) rfl))⟩)
  have L_10 := own_oeq nn51 ev_10
  have H_10 := own_oeq nn52 ev_10
  obtain ⟨a_11, ev_11⟩ := exa_v nn11
  have X_11 := Exa.start ev_11 nn11
  have S_11 := Sta.start ev_11 (Or.inr ⟨(hw _ (List.mem_of_getElem? (i := 3) rfl)), (hw _ (List.mem_of_getElem? (i := 27) rfl))⟩)
  have L_11 := own_oeq nn43 ev_11
  have H_11 := own_oeq nn44 ev_11
  obtain ⟨a_12, ev_12⟩ := exa_v nn12
  have X_12 := Exa.start ev_12 nn12
  have S_12 := Sta.start ev_12 (Or.inr ⟨(hw _ (List.mem_of_getElem? (i := 3) rfl)), (hw _ (List.mem_of_getElem? (i := 29) rfl))⟩)
  have L_12 := own_oeq nn41 ev_12
  have H_12 := own_oeq nn42 ev_12
  obtain ⟨a_13, ev_13⟩ := exa_v nn13
  have X_13 := Exa.start ev_13 nn13
  have S_13 := Sta.start ev_13 (Or.inr ⟨(hw _ (List.mem_of_getElem? (i := 3) rfl)), (hw _ (List.mem_of_getElem? (i := 31) rfl))⟩)
  have L_13 := own_oeq nn33 ev_13
  have H_13 := own_oeq nn34 ev_13
  obtain ⟨a_14, ev_14⟩ := exa_v nn14
  have X_14 := Exa.start ev_14 nn14
  have S_14 := Sta.start ev_14 (Or.inr ⟨(hw _ (List.mem_of_getElem? (i := 3) rfl)), (hw _ (List.mem_of_getElem? (i := 33) rfl))⟩)
  have L_14 := own_oeq nn29 ev_14
  have H_14 := own_oeq nn30 ev_14
  obtain ⟨a_15, ev_15⟩ := exa_v nn15
  have X_15 := Exa.start ev_15 nn15
  have S_15 := Sta.start ev_15 (Or.inr ⟨(hw _ (List.mem_of_getElem? (i := 3) rfl)), (hw _ (List.mem_of_getElem? (i := 35) rfl))⟩)
  have L_15 := own_oeq nn55 ev_15
  have H_15 := own_oeq nn56 ev_15
  obtain ⟨a_16, ev_16⟩ := exa_v nn16
  have X_16 := Exa.start ev_16 nn16
  have S_16 := Sta.start ev_16 (Or.inr ⟨(hw _ (List.mem_of_getElem? (i := 3) rfl)), (hw _ (List.mem_of_getElem? (i := 37) rfl))⟩)
  have L_16 := own_oeq nn77 ev_16
  have H_16 := own_oeq nn78 ev_16
  obtain ⟨a_17, ev_17⟩ := exa_v nn17
  have X_17 := Exa.start ev_17 nn17
  have S_17 := Sta.start ev_17 (Or.inr ⟨(hw _ (List.mem_of_getElem? (i := 3) rfl)), (hw _ (List.mem_of_getElem? (i := 39) rfl))⟩)
  have L_17 := own_oeq nn71 ev_17
  have H_17 := own_oeq nn72 ev_17
  obtain ⟨a_18, ev_18⟩ := exa_v nn18
  have X_18 := Exa.start ev_18 nn18
  have S_18 := Sta.start ev_18 (Or.inr ⟨(hw _ (List.mem_of_getElem? (i := 3) rfl)), (hw _ (List.mem_of_getElem? (i := 41) rfl))⟩)
  have L_18 := own_oeq nn49 ev_18
  have H_18 := own_oeq nn50 ev_18
  obtain ⟨a_19, ev_19⟩ := exa_v nn19
  have X_19 := Exa.start ev_19 nn19
  have S_19 := Sta.start ev_19 (Or.inr ⟨(hw _ (List.mem_of_getElem? (i := 3) rfl)), (hw _ (List.mem_of_getElem? (i := 43) rfl))⟩)
  have L_19 := own_oeq nn35 ev_19
  have H_19 := own_oeq nn36 ev_19
  obtain ⟨a_20, ev_20⟩ := exa_v nn20
  have X_20 := Exa.start ev_20 nn20
  have S_20 := Sta.start ev_20 (Or.inr ⟨(hw _ (List.mem_of_getElem? (i := 3) rfl)), (hw _ (List.mem_of_getElem? (i := 45) rfl))⟩)
  have L_20 := own_oeq nn75 ev_20
  have H_20 := own_oeq nn76 ev_20
  obtain ⟨a_21, ev_21⟩ := exa_v nn21
  have X_21 := Exa.start ev_21 nn21
  have S_21 := Sta.start ev_21 (Or.inr ⟨(hw _ (List.mem_of_getElem? (i := 3) rfl)), (hw _ (List.mem_of_getElem? (i := 47) rfl))⟩)
  have L_21 := own_oeq nn73 ev_21
  have H_21 := own_oeq nn74 ev_21
  obtain ⟨a_22, ev_22⟩ := exa_v nn22
  have X_22 := Exa.start ev_22 nn22
  have S_22 := Sta.start ev_22 (Or.inr ⟨(hw _ (List.mem_of_getElem? (i := 3) rfl)), (hw _ (List.mem_of_getElem? (i := 49) rfl))⟩)
  have L_22 := own_oeq nn59 ev_22
  have H_22 := own_oeq nn60 ev_22
  obtain ⟨a_23, ev_23⟩ := exa_v nn23
  have X_23 := Exa.start ev_23 nn23
  have S_23 := Sta.start ev_23 (Or.inr ⟨(hw _ (List.mem_of_getElem? (i := 3) rfl)), (hw _ (List.mem_of_getElem? (i := 51) rfl))⟩)
  have L_23 := own_oeq nn79 ev_23
  have H_23 := own_oeq nn80 ev_23
  obtain ⟨a_24, ev_24⟩ := exa_v nn24
  have X_24 := Exa.start ev_24 nn24
  have S_24 := Sta.start ev_24 (Or.inr ⟨(hw _ (List.mem_of_getElem? (i := 3) rfl)), (hw _ (List.mem_of_getElem? (i := 53) rfl))⟩)
  have L_24 := own_oeq nn47 ev_24
  have H_24 := own_oeq nn48 ev_24
  obtain ⟨a_25, ev_25⟩ := exa_v nn25
  have X_25 := Exa.start ev_25 nn25
  have S_25 := Sta.start ev_25 (Or.inr ⟨(hw _ (List.mem_of_getElem? (i := 3) rfl)), (hw _ (List.mem_of_getElem? (i := 55) rfl))⟩)
  have L_25 := own_oeq nn63 ev_25
  have H_25 := own_oeq nn64 ev_25
  obtain ⟨a_26, ev_26⟩ := exa_v nn26
  have X_26 := Exa.start ev_26 nn26
  have S_26 := Sta.start ev_26 (Or.inr ⟨(hw _ (List.mem_of_getElem? (i := 3) rfl)), (hw _ (List.mem_of_getElem? (i := 57) rfl))⟩)
  have L_26 := own_oeq nn65 ev_26
  have H_26 := own_oeq nn66 ev_26
  have HK : ∀ n, n < 27 → Exa s s.heap ([a_0, a_1, a_2, a_3, a_4, a_5, a_6, a_7, a_8, a_9, a_10, a_11, a_12, a_13, a_14, a_15, a_16, a_17, a_18, a_19, a_20, a_21, a_22, a_23, a_24, a_25, a_26].getD n 0) "com/example/nestor/nestor/protocol/ApiKey" ∧ Fld s s.heap ([a_0, a_1, a_2, a_3, a_4, a_5, a_6, a_7, a_8, a_9, a_10, a_11, a_12, a_13, a_14, a_15, a_16, a_17, a_18, a_19, a_20, a_21, a_22, a_23, a_24, a_25, a_26].getD n 0) "com/example/nestor/nestor/protocol/ApiKey" "oldestVersion" "S" (.int (own_los.getD n 0)) ∧ Fld s s.heap ([a_0, a_1, a_2, a_3, a_4, a_5, a_6, a_7, a_8, a_9, a_10, a_11, a_12, a_13, a_14, a_15, a_16, a_17, a_18, a_19, a_20, a_21, a_22, a_23, a_24, a_25, a_26].getD n 0) "com/example/nestor/nestor/protocol/ApiKey" "latestVersion" "S" (.int (own_his.getD n 0)) := by
    intro n hn
    match n, hn with
    | 0, _ => exact ⟨X_0, L_0, H_0⟩
    | 1, _ => exact ⟨X_1, L_1, H_1⟩
    | 2, _ => exact ⟨X_2, L_2, H_2⟩
    | 3, _ => exact ⟨X_3, L_3, H_3⟩
    | 4, _ => exact ⟨X_4, L_4, H_4⟩
    | 5, _ => exact ⟨X_5, L_5, H_5⟩
    | 6, _ => exact ⟨X_6, L_6, H_6⟩
    | 7, _ => exact ⟨X_7, L_7, H_7⟩
    | 8, _ => exact ⟨X_8, L_8, H_8⟩
    | 9, _ => exact ⟨X_9, L_9, H_9⟩
    | 10, _ => exact ⟨X_10, L_10, H_10⟩
    | 11, _ => exact ⟨X_11, L_11, H_11⟩
    | 12, _ => exact ⟨X_12, L_12, H_12⟩
    | 13, _ => exact ⟨X_13, L_13, H_13⟩
    | 14, _ => exact ⟨X_14, L_14, H_14⟩
    | 15, _ => exact ⟨X_15, L_15, H_15⟩
    | 16, _ => exact ⟨X_16, L_16, H_16⟩
    | 17, _ => exact ⟨X_17, L_17, H_17⟩
    | 18, _ => exact ⟨X_18, L_18, H_18⟩
    | 19, _ => exact ⟨X_19, L_19, H_19⟩
    | 20, _ => exact ⟨X_20, L_20, H_20⟩
    | 21, _ => exact ⟨X_21, L_21, H_21⟩
    | 22, _ => exact ⟨X_22, L_22, H_22⟩
    | 23, _ => exact ⟨X_23, L_23, H_23⟩
    | 24, _ => exact ⟨X_24, L_24, H_24⟩
    | 25, _ => exact ⟨X_25, L_25, H_25⟩
    | 26, _ => exact ⟨X_26, L_26, H_26⟩
    | n + 27, h => exact absurd h (by omega)
  obtain ⟨n, o, h1, h2, h3, _, L, rfl, ⟨rfl, N⟩, hq⟩ := own_rm0 l s _ hw tables_1 i0 i1 a_0 a_1 a_2 a_3 a_4 a_5 a_6 a_7 a_8 a_9 a_10 a_11 a_12 a_13 a_14 a_15 a_16 a_17 a_18 a_19 a_20 a_21 a_22 a_23 a_24 a_25 a_26 s.heap s.heap.size (Nat.le_refl _) (Old.start s) S_0 X_0 S_1 X_1 S_2 X_2 S_3 X_3 S_4 X_4 S_5 X_5 S_6 X_6 S_7 X_7 S_8 X_8 S_9 X_9 S_10 X_10 S_11 X_11 S_12 X_12 S_13 X_13 S_14 X_14 S_15 X_15 S_16 X_16 S_17 X_17 S_18 X_18 S_19 X_19 S_20 X_20 S_21 X_21 S_22 X_22 S_23 X_23 S_24 X_24 S_25 X_25 S_26 X_26 HK p e ha hc hk s m _ below hf ((Spec.applies_iff_loose hf).mp happ).1 ⟨rfl, State.Warmed39.refl s, rfl⟩ trivial
  refine ⟨n, _, h1, h2, h3, hpost _ _ _ _ _ _ ⟨Cond.after_iff.mpr rfl, Cond.after_iff.mpr (eq_i res_at (Term.int_eval (1)) rfl), trivial⟩ ⟨hq.1, hq.2.1, (hq.2.2.sift fun y hy => Or.inr (N y hy)).mono (by decide) (by decide)⟩⟩
theorem main_1_1 : Claimed_1_1 := comes_1 fun _ _ _ _ _ _ h hF => ⟨h.1, hF⟩
theorem main_1_2 : Claimed_1_2 := comes_1 fun _ _ _ _ _ _ h hF => ⟨h.2.1, hF⟩
end Jvm.Pilot.@@N@@
namespace Jvm.Pilot.@@N@@
open Jvm Jvm.ClassFile Sem Op Lib Jvm.Free Jvm.Stand Jvm.Pilot.@@N@@.Jvm.D
/-! MADE BY PROGRAM (witnessworld.py) out of the Statement's table words and the real class files: 13 classes; the members and pool entries that the words name. The judged class is class 1, her method 1. -/
namespace start1
open Jvm.ClassFile
def u (s : String) : CpInfo := .utf8 (stringToUtf16 s)
/-- a pool by its gaps: so many unusable entries, then the entry; so many at the end -/
def gap : Nat → List CpInfo → List CpInfo
  | 0, r => r
  | n + 1, r => .unusable :: gap n r
def poolList (es : List (Nat × CpInfo)) (last : Nat) : List CpInfo := es.foldr (fun e r => gap e.1 (e.2 :: r)) (gap last [])
def pool (es : List (Nat × CpInfo)) (last : Nat) : Array CpInfo := ⟨poolList es last⟩
def fileOf (pool : Array CpInfo) (this : Nat) (attrs : Array Attribute := #[]) (ms : Array MethodInfo := #[]) (fl : Nat := 33) (sup : Nat := 0) (ifs : Array Nat := #[]) (fds : Array FieldInfo := #[]) : ClassFile where
  minorVersion := 0
  majorVersion := 65
  constantPool := pool
  accessFlags := fl
  thisClass := this
  superClass := sup
  interfaces := ifs
  fields := fds
  methods := ms
  attributes := attrs
def plain (name : String) (sup : Option ClassId) : Class where
  name := name
  kind := .ordinary
  loader := none
  accessFlags := 33
  super := sup
  interfaces := #[]
  cf := none
  fields := #[]
  methods := #[]
  instanceTypes := #[]
  staticTypes := #[]
  resolved := #[]
  callSites := []
  init := .initialized
  statics := none
  mirror := none

def pool0 : Array CpInfo := pool [(5, u "<init>"), (0, u "()V"), (1, .class_ 10), (1, u "java/lang/Object")] 113

def k0m0 : Method := { name := "<init>", desc := "()V", sig := { parameters := [], returnType := none }, accessFlags := 1, code := none }
/-- java/lang/Object -/
def k0 : Class := { plain "java/lang/Object" none with
  accessFlags := 33
  interfaces := #[]
  cf := some (fileOf pool0 8 #[] #[{ accessFlags := 1, nameIndex := 5, descriptorIndex := 6, attributes := #[] }] 33 0 #[] #[])
  fields := #[]
  methods := #[k0m0]
  instanceTypes := #[]
  staticTypes := #[]
  resolved := Array.replicate 124 none
  statics := none }

def pool1 : Array CpInfo := pool [(2, .class_ 4), (1, u "java/lang/Object"), (0, u "<init>"), (0, u "()V"), (0, .class_ 8), (0, u "com/example/nestor/nestor/protocol/ApiKey"), (0, .fieldref 7 10), (0, .nameAndType 11 12), (0, u "PRODUCE"), (0, u "Lcom/example/nestor/nestor/protocol/ApiKey;"), (0, .fieldref 7 14), (0, .nameAndType 15 12), (0, u "FETCH"), (0, .fieldref 7 17), (0, .nameAndType 18 12), (0, u "LIST_OFFSETS"), (0, .fieldref 7 20), (0, .nameAndType 21 12), (0, u "METADATA"), (0, .fieldref 7 23), (0, .nameAndType 24 12), (0, u "OFFSET_COMMIT"), (0, .fieldref 7 26), (0, .nameAndType 27 12), (0, u "OFFSET_FETCH"), (0, .fieldref 7 29), (0, .nameAndType 30 12), (0, u "FIND_COORDINATOR"), (0, .fieldref 7 32), (0, .nameAndType 33 12), (0, u "JOIN_GROUP"), (0, .fieldref 7 35), (0, .nameAndType 36 12), (0, u "HEARTBEAT"), (0, .fieldref 7 38), (0, .nameAndType 39 12), (0, u "LEAVE_GROUP"), (0, .fieldref 7 41), (0, .nameAndType 42 12), (0, u "SYNC_GROUP"), (0, .fieldref 7 44), (0, .nameAndType 45 12), (0, u "DESCRIBE_GROUPS"), (0, .fieldref 7 47), (0, .nameAndType 48 12), (0, u "LIST_GROUPS"), (0, .fieldref 7 50), (0, .nameAndType 51 12), (0, u "API_VERSIONS"), (0, .fieldref 7 53), (0, .nameAndType 54 12), (0, u "CREATE_TOPICS"), (0, .fieldref 7 56), (0, .nameAndType 57 12), (0, u "DELETE_TOPICS"), (0, .fieldref 7 59), (0, .nameAndType 60 12), (0, u "INIT_PRODUCER_ID"), (0, .fieldref 7 62), (0, .nameAndType 63 12), (0, u "DESCRIBE_CONFIGS"), (0, .fieldref 7 65), (0, .nameAndType 66 12), (0, u "DELETE_GROUPS"), (0, .fieldref 7 68), (0, .nameAndType 69 12), (0, u "INCREMENTAL_ALTER_CONFIGS"), (0, .fieldref 7 71), (0, .nameAndType 72 12), (0, u "OFFSET_DELETE"), (0, .fieldref 7 74), (0, .nameAndType 75 12), (0, u "CONSUMER_GROUP_HEARTBEAT"), (0, .fieldref 7 77), (0, .nameAndType 78 12), (0, u "CONSUMER_GROUP_DESCRIBE"), (0, .fieldref 7 80), (0, .nameAndType 81 12), (0, u "SHARE_GROUP_HEARTBEAT"), (0, .fieldref 7 83), (0, .nameAndType 84 12), (0, u "SHARE_GROUP_DESCRIBE"), (0, .fieldref 7 86), (0, .nameAndType 87 12), (0, u "SHARE_FETCH"), (0, .fieldref 7 89), (0, .nameAndType 90 12), (0, u "SHARE_ACKNOWLEDGE"), (0, .integer 2147483647), (0, .methodref 7 93), (0, .nameAndType 94 95), (0, u "supports"), (0, u "(S)Z"), (0, .class_ 97), (0, u "com/example/nestor/nestor/protocol/ApiKeySupportsPinLaw"), (2, u "law"), (0, u "(II)Z")] 7

def k1m0 : Method := { name := "<init>", desc := "()V", sig := { parameters := [], returnType := none }, accessFlags := 1, code := none }
def k1c1 : Code := { maxStack := 4, maxLocals := 14, code := code, exceptionTable := #[], attributes := #[] }
def k1m1 : Method := { name := "law", desc := "(II)Z", sig := { parameters := [.int, .int], returnType := some .boolean }, accessFlags := 9, code := some k1c1 }
/-- com/example/nestor/nestor/protocol/ApiKeySupportsPinLaw -/
def k1 : Class := { plain "com/example/nestor/nestor/protocol/ApiKeySupportsPinLaw" (some 0) with
  accessFlags := 49
  interfaces := #[]
  cf := some (fileOf pool1 96 #[] #[{ accessFlags := 1, nameIndex := 5, descriptorIndex := 6, attributes := #[] }, { accessFlags := 9, nameIndex := 100, descriptorIndex := 101, attributes := #[] }] 49 2 #[] #[])
  fields := #[]
  methods := #[k1m0, k1m1]
  instanceTypes := #[]
  staticTypes := #[]
  resolved := Array.replicate 109 none
  statics := none }

def pool2 : Array CpInfo := pool [(1, .class_ 2), (0, u "java/lang/constant/Constable"), (0, .class_ 4), (0, u "java/lang/Object")] 6

/-- java/lang/constant/Constable -/
def k2 : Class := { plain "java/lang/constant/Constable" (some 0) with
  accessFlags := 1537
  interfaces := #[]
  cf := some (fileOf pool2 1 #[] #[] 1537 3 #[] #[])
  fields := #[]
  methods := #[]
  instanceTypes := #[]
  staticTypes := #[]
  resolved := Array.replicate 11 none
  statics := none }

def pool3 : Array CpInfo := pool [(1, .class_ 2), (0, u "java/lang/Comparable"), (0, .class_ 4), (0, u "java/lang/Object")] 7

/-- java/lang/Comparable -/
def k3 : Class := { plain "java/lang/Comparable" (some 0) with
  accessFlags := 1537
  interfaces := #[]
  cf := some (fileOf pool3 1 #[] #[] 1537 3 #[] #[])
  fields := #[]
  methods := #[]
  instanceTypes := #[]
  staticTypes := #[]
  resolved := Array.replicate 12 none
  statics := none }

def pool4 : Array CpInfo := pool [(1, .class_ 2), (0, u "java/io/Serializable"), (0, .class_ 4), (0, u "java/lang/Object")] 2

/-- java/io/Serializable -/
def k4 : Class := { plain "java/io/Serializable" (some 0) with
  accessFlags := 1537
  interfaces := #[]
  cf := some (fileOf pool4 1 #[] #[] 1537 3 #[] #[])
  fields := #[]
  methods := #[]
  instanceTypes := #[]
  staticTypes := #[]
  resolved := Array.replicate 7 none
  statics := none }

def pool5 : Array CpInfo := pool [(2, .class_ 4), (1, u "java/lang/Enum"), (0, u "name"), (0, u "Ljava/lang/String;"), (2, u "ordinal"), (0, u "I"), (1, .class_ 14), (1, u "java/lang/Object"), (4, u "hash"), (86, .class_ 108), (1, u "java/lang/Enum$EnumDesc"), (2, .class_ 112), (0, u "java/lang/constant/Constable"), (0, .class_ 114), (0, u "java/lang/Comparable"), (0, .class_ 116), (0, u "java/io/Serializable")] 87

/-- java/lang/Enum -/
def k5 : Class := { plain "java/lang/Enum" (some 0) with
  accessFlags := 1057
  interfaces := #[2, 3, 4]
  cf := some (fileOf pool5 2 #[.nestMembers #[106]] #[] 1057 12 #[111, 113, 115] #[{ accessFlags := 18, nameIndex := 5, descriptorIndex := 6, attributes := #[] }, { accessFlags := 18, nameIndex := 9, descriptorIndex := 10, attributes := #[] }, { accessFlags := 2, nameIndex := 19, descriptorIndex := 10, attributes := #[] }])
  fields := #[{ name := "name", type := (.object "java/lang/String"), accessFlags := 18, slot := 0, constantValue := 0 }, { name := "ordinal", type := .int, accessFlags := 18, slot := 1, constantValue := 0 }, { name := "hash", type := .int, accessFlags := 2, slot := 2, constantValue := 0 }]
  methods := #[]
  instanceTypes := #[(.object "java/lang/String"), .int, .int]
  staticTypes := #[]
  resolved := Array.replicate 204 none
  statics := none }

def pool6 : Array CpInfo := pool [(1, .class_ 2), (0, u "com/example/nestor/nestor/protocol/ApiKey"), (2, u "PRODUCE"), (0, u "Lcom/example/nestor/nestor/protocol/ApiKey;"), (2, u "FETCH"), (2, u "LIST_OFFSETS"), (2, u "METADATA"), (2, u "OFFSET_COMMIT"), (2, u "OFFSET_FETCH"), (2, u "FIND_COORDINATOR"), (2, u "JOIN_GROUP"), (2, u "HEARTBEAT"), (2, u "LEAVE_GROUP"), (2, u "SYNC_GROUP"), (2, u "DESCRIBE_GROUPS"), (2, u "LIST_GROUPS"), (2, u "API_VERSIONS"), (2, u "CREATE_TOPICS"), (2, u "DELETE_TOPICS"), (2, u "INIT_PRODUCER_ID"), (2, u "DESCRIBE_CONFIGS"), (2, u "DELETE_GROUPS"), (2, u "INCREMENTAL_ALTER_CONFIGS"), (2, u "OFFSET_DELETE"), (2, u "CONSUMER_GROUP_HEARTBEAT"), (2, u "CONSUMER_GROUP_DESCRIBE"), (2, u "SHARE_GROUP_HEARTBEAT"), (2, u "SHARE_GROUP_DESCRIBE"), (2, u "SHARE_FETCH"), (2, u "SHARE_ACKNOWLEDGE"), (2, u "$VALUES"), (0, u "[Lcom/example/nestor/nestor/protocol/ApiKey;"), (6, .class_ 97), (1, u "java/lang/Enum"), (8, u "id"), (0, u "S"), (0, .fieldref 1 109), (0, .nameAndType 110 107), (0, u "oldestVersion"), (0, .fieldref 1 112), (0, .nameAndType 113 107), (0, u "latestVersion"), (2, u "firstFlexibleVersion"), (7, u "(S)Z"), (45, u "supports")] 6

def k6c0 : Code := { maxStack := 2, maxLocals := 2, code := prog_16_method_8_code, exceptionTable := #[], attributes := #[] }
def k6m0 : Method := { name := "supports", desc := "(S)Z", sig := { parameters := [.short], returnType := some .boolean }, accessFlags := 1, code := some k6c0 }
/-- com/example/nestor/nestor/protocol/ApiKey -/
def k6 : Class := { plain "com/example/nestor/nestor/protocol/ApiKey" (some 5) with
  accessFlags := 16433
  interfaces := #[]
  cf := some (fileOf pool6 1 #[] #[{ accessFlags := 1, nameIndex := 170, descriptorIndex := 124, attributes := #[] }] 16433 95 #[] #[{ accessFlags := 16409, nameIndex := 5, descriptorIndex := 6, attributes := #[] }, { accessFlags := 16409, nameIndex := 9, descriptorIndex := 6, attributes := #[] }, { accessFlags := 16409, nameIndex := 12, descriptorIndex := 6, attributes := #[] }, { accessFlags := 16409, nameIndex := 15, descriptorIndex := 6, attributes := #[] }, { accessFlags := 16409, nameIndex := 18, descriptorIndex := 6, attributes := #[] }, { accessFlags := 16409, nameIndex := 21, descriptorIndex := 6, attributes := #[] }, { accessFlags := 16409, nameIndex := 24, descriptorIndex := 6, attributes := #[] }, { accessFlags := 16409, nameIndex := 27, descriptorIndex := 6, attributes := #[] }, { accessFlags := 16409, nameIndex := 30, descriptorIndex := 6, attributes := #[] }, { accessFlags := 16409, nameIndex := 33, descriptorIndex := 6, attributes := #[] }, { accessFlags := 16409, nameIndex := 36, descriptorIndex := 6, attributes := #[] }, { accessFlags := 16409, nameIndex := 39, descriptorIndex := 6, attributes := #[] }, { accessFlags := 16409, nameIndex := 42, descriptorIndex := 6, attributes := #[] }, { accessFlags := 16409, nameIndex := 45, descriptorIndex := 6, attributes := #[] }, { accessFlags := 16409, nameIndex := 48, descriptorIndex := 6, attributes := #[] }, { accessFlags := 16409, nameIndex := 51, descriptorIndex := 6, attributes := #[] }, { accessFlags := 16409, nameIndex := 54, descriptorIndex := 6, attributes := #[] }, { accessFlags := 16409, nameIndex := 57, descriptorIndex := 6, attributes := #[] }, { accessFlags := 16409, nameIndex := 60, descriptorIndex := 6, attributes := #[] }, { accessFlags := 16409, nameIndex := 63, descriptorIndex := 6, attributes := #[] }, { accessFlags := 16409, nameIndex := 66, descriptorIndex := 6, attributes := #[] }, { accessFlags := 16409, nameIndex := 69, descriptorIndex := 6, attributes := #[] }, { accessFlags := 16409, nameIndex := 72, descriptorIndex := 6, attributes := #[] }, { accessFlags := 16409, nameIndex := 75, descriptorIndex := 6, attributes := #[] }, { accessFlags := 16409, nameIndex := 78, descriptorIndex := 6, attributes := #[] }, { accessFlags := 16409, nameIndex := 81, descriptorIndex := 6, attributes := #[] }, { accessFlags := 16409, nameIndex := 84, descriptorIndex := 6, attributes := #[] }, { accessFlags := 18, nameIndex := 106, descriptorIndex := 107, attributes := #[] }, { accessFlags := 18, nameIndex := 110, descriptorIndex := 107, attributes := #[] }, { accessFlags := 18, nameIndex := 113, descriptorIndex := 107, attributes := #[] }, { accessFlags := 18, nameIndex := 116, descriptorIndex := 107, attributes := #[] }, { accessFlags := 4122, nameIndex := 87, descriptorIndex := 88, attributes := #[] }])
  fields := #[{ name := "PRODUCE", type := (.object "com/example/nestor/nestor/protocol/ApiKey"), accessFlags := 16409, slot := 0, constantValue := 0 }, { name := "FETCH", type := (.object "com/example/nestor/nestor/protocol/ApiKey"), accessFlags := 16409, slot := 1, constantValue := 0 }, { name := "LIST_OFFSETS", type := (.object "com/example/nestor/nestor/protocol/ApiKey"), accessFlags := 16409, slot := 2, constantValue := 0 }, { name := "METADATA", type := (.object "com/example/nestor/nestor/protocol/ApiKey"), accessFlags := 16409, slot := 3, constantValue := 0 }, { name := "OFFSET_COMMIT", type := (.object "com/example/nestor/nestor/protocol/ApiKey"), accessFlags := 16409, slot := 4, constantValue := 0 }, { name := "OFFSET_FETCH", type := (.object "com/example/nestor/nestor/protocol/ApiKey"), accessFlags := 16409, slot := 5, constantValue := 0 }, { name := "FIND_COORDINATOR", type := (.object "com/example/nestor/nestor/protocol/ApiKey"), accessFlags := 16409, slot := 6, constantValue := 0 }, { name := "JOIN_GROUP", type := (.object "com/example/nestor/nestor/protocol/ApiKey"), accessFlags := 16409, slot := 7, constantValue := 0 }, { name := "HEARTBEAT", type := (.object "com/example/nestor/nestor/protocol/ApiKey"), accessFlags := 16409, slot := 8, constantValue := 0 }, { name := "LEAVE_GROUP", type := (.object "com/example/nestor/nestor/protocol/ApiKey"), accessFlags := 16409, slot := 9, constantValue := 0 }, { name := "SYNC_GROUP", type := (.object "com/example/nestor/nestor/protocol/ApiKey"), accessFlags := 16409, slot := 10, constantValue := 0 }, { name := "DESCRIBE_GROUPS", type := (.object "com/example/nestor/nestor/protocol/ApiKey"), accessFlags := 16409, slot := 11, constantValue := 0 }, { name := "LIST_GROUPS", type := (.object "com/example/nestor/nestor/protocol/ApiKey"), accessFlags := 16409, slot := 12, constantValue := 0 }, { name := "API_VERSIONS", type := (.object "com/example/nestor/nestor/protocol/ApiKey"), accessFlags := 16409, slot := 13, constantValue := 0 }, { name := "CREATE_TOPICS", type := (.object "com/example/nestor/nestor/protocol/ApiKey"), accessFlags := 16409, slot := 14, constantValue := 0 }, { name := "DELETE_TOPICS", type := (.object "com/example/nestor/nestor/protocol/ApiKey"), accessFlags := 16409, slot := 15, constantValue := 0 }, { name := "INIT_PRODUCER_ID", type := (.object "com/example/nestor/nestor/protocol/ApiKey"), accessFlags := 16409, slot := 16, constantValue := 0 }, { name := "DESCRIBE_CONFIGS", type := (.object "com/example/nestor/nestor/protocol/ApiKey"), accessFlags := 16409, slot := 17, constantValue := 0 }, { name := "DELETE_GROUPS", type := (.object "com/example/nestor/nestor/protocol/ApiKey"), accessFlags := 16409, slot := 18, constantValue := 0 }, { name := "INCREMENTAL_ALTER_CONFIGS", type := (.object "com/example/nestor/nestor/protocol/ApiKey"), accessFlags := 16409, slot := 19, constantValue := 0 }, { name := "OFFSET_DELETE", type := (.object "com/example/nestor/nestor/protocol/ApiKey"), accessFlags := 16409, slot := 20, constantValue := 0 }, { name := "CONSUMER_GROUP_HEARTBEAT", type := (.object "com/example/nestor/nestor/protocol/ApiKey"), accessFlags := 16409, slot := 21, constantValue := 0 }, { name := "CONSUMER_GROUP_DESCRIBE", type := (.object "com/example/nestor/nestor/protocol/ApiKey"), accessFlags := 16409, slot := 22, constantValue := 0 }, { name := "SHARE_GROUP_HEARTBEAT", type := (.object "com/example/nestor/nestor/protocol/ApiKey"), accessFlags := 16409, slot := 23, constantValue := 0 }, { name := "SHARE_GROUP_DESCRIBE", type := (.object "com/example/nestor/nestor/protocol/ApiKey"), accessFlags := 16409, slot := 24, constantValue := 0 }, { name := "SHARE_FETCH", type := (.object "com/example/nestor/nestor/protocol/ApiKey"), accessFlags := 16409, slot := 25, constantValue := 0 }, { name := "SHARE_ACKNOWLEDGE", type := (.object "com/example/nestor/nestor/protocol/ApiKey"), accessFlags := 16409, slot := 26, constantValue := 0 }, { name := "id", type := .short, accessFlags := 18, slot := 3, constantValue := 0 }, { name := "oldestVersion", type := .short, accessFlags := 18, slot := 4, constantValue := 0 }, { name := "latestVersion", type := .short, accessFlags := 18, slot := 5, constantValue := 0 }, { name := "firstFlexibleVersion", type := .short, accessFlags := 18, slot := 6, constantValue := 0 }, { name := "$VALUES", type := (.array (.object "com/example/nestor/nestor/protocol/ApiKey")), accessFlags := 4122, slot := 27, constantValue := 0 }]
  methods := #[k6m0]
  instanceTypes := #[(.object "java/lang/String"), .int, .int, .short, .short, .short, .short]
  staticTypes := #[(.object "com/example/nestor/nestor/protocol/ApiKey"), (.object "com/example/nestor/nestor/protocol/ApiKey"), (.object "com/example/nestor/nestor/protocol/ApiKey"), (.object "com/example/nestor/nestor/protocol/ApiKey"), (.object "com/example/nestor/nestor/protocol/ApiKey"), (.object "com/example/nestor/nestor/protocol/ApiKey"), (.object "com/example/nestor/nestor/protocol/ApiKey"), (.object "com/example/nestor/nestor/protocol/ApiKey"), (.object "com/example/nestor/nestor/protocol/ApiKey"), (.object "com/example/nestor/nestor/protocol/ApiKey"), (.object "com/example/nestor/nestor/protocol/ApiKey"), (.object "com/example/nestor/nestor/protocol/ApiKey"), (.object "com/example/nestor/nestor/protocol/ApiKey"), (.object "com/example/nestor/nestor/protocol/ApiKey"), (.object "com/example/nestor/nestor/protocol/ApiKey"), (.object "com/example/nestor/nestor/protocol/ApiKey"), (.object "com/example/nestor/nestor/protocol/ApiKey"), (.object "com/example/nestor/nestor/protocol/ApiKey"), (.object "com/example/nestor/nestor/protocol/ApiKey"), (.object "com/example/nestor/nestor/protocol/ApiKey"), (.object "com/example/nestor/nestor/protocol/ApiKey"), (.object "com/example/nestor/nestor/protocol/ApiKey"), (.object "com/example/nestor/nestor/protocol/ApiKey"), (.object "com/example/nestor/nestor/protocol/ApiKey"), (.object "com/example/nestor/nestor/protocol/ApiKey"), (.object "com/example/nestor/nestor/protocol/ApiKey"), (.object "com/example/nestor/nestor/protocol/ApiKey"), (.array (.object "com/example/nestor/nestor/protocol/ApiKey"))]
  resolved := Array.replicate 177 none
  statics := some 0 }

def pool7 : Array CpInfo := pool [(1, u "java/lang/Cloneable"), (0, .class_ 1), (0, u "java/lang/Object"), (0, .class_ 3)] 3

/-- java/lang/Cloneable -/
def k7 : Class := { plain "java/lang/Cloneable" (some 0) with
  accessFlags := 1537
  interfaces := #[]
  cf := some (fileOf pool7 2 #[] #[] 1537 4 #[] #[])
  fields := #[]
  methods := #[]
  instanceTypes := #[]
  staticTypes := #[]
  resolved := Array.replicate 8 none
  statics := none }

/-- the primitive byte -/
def k8 : Class := { plain "byte" none with kind := .primitive 'B', accessFlags := 0x411 }
/-- [B -/
def k9 : Class := { plain "[B" (some 0) with kind := .array 8 .byte, interfaces := #[7, 4], accessFlags := 1041 }

/-- the primitive int -/
def k10 : Class := { plain "int" none with kind := .primitive 'I', accessFlags := 0x411 }
/-- [I -/
def k11 : Class := { plain "[I" (some 0) with kind := .array 10 .int, interfaces := #[7, 4], accessFlags := 1041 }

/-- [Lcom/example/nestor/nestor/protocol/ApiKey; -/
def k12 : Class := { plain "[Lcom/example/nestor/nestor/protocol/ApiKey;" (some 0) with kind := .array 6 (.object "com/example/nestor/nestor/protocol/ApiKey"), interfaces := #[7, 4], accessFlags := 1041 }

def heap : Heap := #[{ cls := 6, slots := #[.ref 1, .ref 2, .ref 3, .ref 4, .ref 5, .ref 6, .ref 7, .ref 8, .ref 9, .ref 10, .ref 11, .ref 12, .ref 13, .ref 14, .ref 15, .ref 16, .ref 17, .ref 18, .ref 19, .ref 20, .ref 21, .ref 22, .ref 23, .ref 24, .ref 25, .ref 26, .ref 27, .null], vm := .statics 6 },
  { cls := 6, slots := #[.null, .int 0, .int 0, .int 0, .int 0, .int 7, .int 0], vm := .none },
  { cls := 6, slots := #[.null, .int 1, .int 0, .int 1, .int 4, .int 11, .int 0], vm := .none },
  { cls := 6, slots := #[.null, .int 2, .int 0, .int 2, .int 1, .int 2, .int 0], vm := .none },
  { cls := 6, slots := #[.null, .int 3, .int 0, .int 3, .int 0, .int 10, .int 0], vm := .none },
  { cls := 6, slots := #[.null, .int 4, .int 0, .int 4, .int 1, .int 7, .int 0], vm := .none },
  { cls := 6, slots := #[.null, .int 5, .int 0, .int 5, .int 1, .int 7, .int 0], vm := .none },
  { cls := 6, slots := #[.null, .int 6, .int 0, .int 6, .int 0, .int 2, .int 0], vm := .none },
  { cls := 6, slots := #[.null, .int 7, .int 0, .int 7, .int 0, .int 5, .int 0], vm := .none },
  { cls := 6, slots := #[.null, .int 8, .int 0, .int 8, .int 0, .int 3, .int 0], vm := .none },
  { cls := 6, slots := #[.null, .int 9, .int 0, .int 9, .int 0, .int 1, .int 0], vm := .none },
  { cls := 6, slots := #[.null, .int 10, .int 0, .int 10, .int 0, .int 3, .int 0], vm := .none },
  { cls := 6, slots := #[.null, .int 11, .int 0, .int 11, .int 0, .int 6, .int 0], vm := .none },
  { cls := 6, slots := #[.null, .int 12, .int 0, .int 12, .int 0, .int 5, .int 0], vm := .none },
  { cls := 6, slots := #[.null, .int 13, .int 0, .int 13, .int 0, .int 4, .int 0], vm := .none },
  { cls := 6, slots := #[.null, .int 14, .int 0, .int 14, .int 2, .int 7, .int 0], vm := .none },
  { cls := 6, slots := #[.null, .int 15, .int 0, .int 15, .int 1, .int 6, .int 0], vm := .none },
  { cls := 6, slots := #[.null, .int 16, .int 0, .int 16, .int 0, .int 5, .int 0], vm := .none },
  { cls := 6, slots := #[.null, .int 17, .int 0, .int 17, .int 1, .int 4, .int 0], vm := .none },
  { cls := 6, slots := #[.null, .int 18, .int 0, .int 18, .int 0, .int 2, .int 0], vm := .none },
  { cls := 6, slots := #[.null, .int 19, .int 0, .int 19, .int 0, .int 1, .int 0], vm := .none },
  { cls := 6, slots := #[.null, .int 20, .int 0, .int 20, .int 0, .int 0, .int 0], vm := .none },
  { cls := 6, slots := #[.null, .int 21, .int 0, .int 21, .int 0, .int 0, .int 0], vm := .none },
  { cls := 6, slots := #[.null, .int 22, .int 0, .int 22, .int 0, .int 1, .int 0], vm := .none },
  { cls := 6, slots := #[.null, .int 23, .int 0, .int 23, .int 1, .int 1, .int 0], vm := .none },
  { cls := 6, slots := #[.null, .int 24, .int 0, .int 24, .int 1, .int 1, .int 0], vm := .none },
  { cls := 6, slots := #[.null, .int 25, .int 0, .int 25, .int 1, .int 2, .int 0], vm := .none },
  { cls := 6, slots := #[.null, .int 26, .int 0, .int 26, .int 1, .int 2, .int 0], vm := .none }]
def classes : Array Class := #[k0, k1, k2, k3, k4, k5, k6, k7, k8, k9, k10, k11, k12]
def interned : List (Array UInt16 × Addr) := []
def slotsUsed : Nat := 217
def theMethod : MethodId := ⟨1, 1⟩
def args0 : Array Value := #[.int 30, .int 3]
def aboutOver (below : List Frame) : State where
  vm := { classes := classes, interned := interned.toArray }
  heap := heap
  slotsUsed := slotsUsed
  threads := #[{ frames := .invoking theMethod args0 :: below }]
def below0 : List Frame := [.native { method := ⟨0, 0⟩, args := #[] }]
def about1 : State := aboutOver below0
def p0 : Program := .bare "" "" ""
def e0 : Env := launch0.env 0 0 0
theorem w_frames : about1.frames = Frame.invoking theMethod args0 :: below0 := rfl
set_option maxRecDepth 65536 in
theorem w_args : argsFit about1.vm theMethod args0 = true := by decide +kernel
set_option maxRecDepth 65536 in
theorem w_heap : heapFits about1 = true := by decide +kernel
set_option maxRecDepth 65536 in
theorem w_runnable : about1.curStatus? = some .runnable := by decide +kernel
set_option maxRecDepth 65536 in
theorem w_alone : about1.alone = true := by decide +kernel
set_option maxRecDepth 65536 in
theorem w_named : about1.methodNamed? x = some theMethod := by decide +kernel
set_option maxRecDepth 65536 in
theorem w_hears : about1.hears theMethod below0 = true := by decide +kernel
set_option maxRecDepth 65536 in
theorem w_ripe : about1.ripe theMethod args0 below0 = true := by decide +kernel
theorem w_running : about1.status = .running := rfl
set_option maxRecDepth 65536 in
theorem w_room : about1.hasRoom e0.platform room_1 = true :=
  launch0.hasRoom_least _ room_1 (by decide +kernel) (by decide +kernel) (by decide +kernel) (by decide +kernel) (by decide +kernel) (by decide +kernel)
theorem allAtoms_all (ts : List Jvm.Cond) (a : Array Jvm.Value) (st : Jvm.State) : (allAtoms ts).before a st = ts.all (fun c => c.before a st) := by
  induction ts with
  | nil => rfl
  | cons c t ih =>
    show (Jvm.Cond.and c (allAtoms t)).before a st = _
    rw [Jvm.Cond.before_and, ih, List.all_cons]
def words1 : List Jvm.Cond := Jvm.Cond.code x code maxLocals ret :: tables_1
/-- a 'code' word, met by the world's own term for the bytes: nothing is compared byte by byte -/
theorem code_word {y : MethodName} {bytes : ByteArray} {mx : Nat} {rt : Option FieldType} {a : Array Value} {s : State} {m : MethodId} {meth : Method} {c : Code} (h1 : s.methodNamed? y = some m) (h2 : s.vm.method? m = some meth) (h3 : meth.code = some c) (h4 : c.code = bytes)
    (h5 : (c.maxLocals == mx && c.exceptionTable.isEmpty && decide (c.maxStack ≤ mostOperands) && decide (meth.sig.returnType = rt) && !meth.locks && decide (parseMethodDescriptor y.desc = some meth.sig)) = true) : (Jvm.Cond.code y bytes mx rt).before a s = true := by
  simp only [Bool.and_eq_true, beq_iff_eq, Bool.not_eq_true', decide_eq_true_eq] at h5
  obtain ⟨⟨⟨⟨⟨g1, g2⟩, g3⟩, g4⟩, g5⟩, g6⟩ := h5
  simp [Cond.before, Cond.holds, Cond.value, h1, h2, h3, h4, g1, g2, g3, g4, g5, g6]
def isCode : Jvm.Cond → Bool
  | .code _ _ _ _ => true
  | _ => false
theorem all_split {L : List Jvm.Cond} {P : Jvm.Cond → Bool} (h1 : L.all (fun c => isCode c || P c) = true) (h2 : ∀ c ∈ L.filter isCode, P c = true) : L.all P = true := by
  refine List.all_eq_true.mpr fun c hc => ?_
  have h := List.all_eq_true.mp h1 c hc
  rcases Bool.eq_false_or_eq_true (isCode c) with hi | hi
  · exact h2 c (List.mem_filter.mpr ⟨hc, hi⟩)
  · simpa [hi] using h
set_option maxRecDepth 65536 in
theorem w_c0 : (Jvm.Cond.code x code maxLocals ret).before args0 about1 = true := code_word (m := ⟨1, 1⟩) (meth := k1m1) (c := k1c1) (by decide +kernel) rfl rfl rfl (by decide +kernel)
set_option maxRecDepth 65536 in
theorem w_c1 : (Jvm.Cond.code ({ cls := "com/example/nestor/nestor/protocol/ApiKey", name := "supports", desc := "(S)Z" } : Jvm.MethodName) prog_16_method_8_code (2 : Nat) (Option.some Jvm.ClassFile.FieldType.boolean)).before args0 about1 = true := code_word (m := ⟨6, 0⟩) (meth := k6m0) (c := k6c0) (by decide +kernel) rfl rfl rfl (by decide +kernel)
def codes1 : List Jvm.Cond := [Jvm.Cond.code x code maxLocals ret, Jvm.Cond.code ({ cls := "com/example/nestor/nestor/protocol/ApiKey", name := "supports", desc := "(S)Z" } : Jvm.MethodName) prog_16_method_8_code (2 : Nat) (Option.some Jvm.ClassFile.FieldType.boolean)]
set_option maxRecDepth 65536 in
theorem codes_eq : words1.filter isCode = codes1 := rfl
theorem w_codes : ∀ c ∈ words1.filter isCode, c.before args0 about1 = true := by
  rw [codes_eq]
  intro c hc
  simp only [codes1, List.mem_cons, List.not_mem_nil, or_false] at hc
  rcases hc with rfl | rfl
  · exact w_c0
  · exact w_c1
set_option maxRecDepth 65536 in
theorem w_t1 : (words1.take 24).all (fun c => isCode c || c.before args0 about1) = true := by decide +kernel
set_option maxRecDepth 65536 in
theorem w_t2 : ((words1.drop 24).take 24).all (fun c => isCode c || c.before args0 about1) = true := by decide +kernel
set_option maxRecDepth 65536 in
theorem w_t3 : ((words1.drop 24).drop 24).all (fun c => isCode c || c.before args0 about1) = true := by decide +kernel
theorem w_tables : (allAtoms (Jvm.Cond.code x code maxLocals ret :: tables_1)).before args0 about1 = true := by
  rw [allAtoms_all]
  show words1.all (fun c => c.before args0 about1) = true
  refine all_split ?_ w_codes
  rw [← List.take_append_drop 24 words1, List.all_append, w_t1, ← List.take_append_drop 24 (words1.drop 24), List.all_append, w_t2, w_t3]
  rfl
set_option maxRecDepth 65536 in
theorem w_case : (Jvm.Cond.and given_1 narrow_1).before args0 about1 = true := by decide +kernel
theorem w_applies : (headSpec (Jvm.Cond.code x code maxLocals ret :: tables_1) room_1).applies x e0.platform about1 = true :=
  (Spec.applies_iff w_frames).mpr ⟨w_running, w_runnable, w_alone, w_named, w_hears, w_ripe, w_room, w_tables⟩
theorem atStart : AtStart classFile x code maxLocals ret World_1 tables_1 room_1 Calls_1 rest_1 Pre_1 launch0 p0 e0 about1 theMethod args0 below0 :=
  ⟨lists_1, trivial, launch0.admits_env _ _ _, launch0.least_env, fairChoices_fair.cas, fairChoices_fair.clock, w_frames, w_args, w_heap, w_applies, trivial, trivial, w_case⟩
end start1
theorem witness_1 : WitnessClaimed_1 := ⟨start1.p0, start1.e0, start1.about1, start1.theMethod, start1.args0, start1.below0, start1.atStart⟩
end Jvm.Pilot.@@N@@
