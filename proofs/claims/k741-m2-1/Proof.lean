import JvmDerived
import JvmDerived.Pilot.@@N@@Statement
import JvmDerived.Pilot.@@N@@Code
set_option linter.unusedVariables false
set_option linter.unusedSimpArgs false
namespace Jvm.RoadKit
open Sem ClassFile Op Lib Jvm.Stand Jvm.Free Jvm.LawKit
section OwnGo
variable {p : Program} {l : Launch} {e : Env} {R : Room} {s : State} {m : MethodId} {args : Array Value} {below : List Frame} {meth : Method} {c : Code} {T U V : State} {locs : List Loc} {cells slots : Nat} {Q : Option Value → Heap → List Loc → Prop} {k n : Nat}
/-- from the state U the run ends within the frame, by a return of which Q holds -/
def Goes (p : Program) (e : Env) (below : List Frame) (s : State) (Q : Option Value → Heap → List Loc → Prop) (k n : Nat) (U : State) : Prop :=
  ∃ s₂ o, Steps p.tables e below U s₂ ∧ s₂.status = .running ∧ Ended s₂ below o ∧ ∃ v L, o = .returned v ∧ Q v s₂.heap L ∧ FrameEnd s o s₂ L k n
theorem Goes.st (st : ∀ t, Steps p.tables e below V t → Steps p.tables e below U t) (h : Goes p e below s Q k n V) : Goes p e below s Q k n U := by
  obtain ⟨s₂, o, h1, h2⟩ := h
  exact ⟨s₂, o, st _ h1, h2⟩
theorem Goes.tr (st : Steps p.tables e below U V) (h : Goes p e below s Q k n V) : Goes p e below s Q k n U := Goes.st (fun _ q => st.trans q) h
theorem Goes.cast {g g' : JFrame} (q : g = g') (h : Goes p e below s Q k n (T.setTop g')) : Goes p e below s Q k n (T.setTop g) := q ▸ h
theorem Goes.retN (X : Stand p l e R s m args below meth c T locs cells slots) (hx : p.tables.exec = Jvm.exec) {pc : Nat} {Ls : Array Slot} {z : Int32} {t : FieldType} {rest : List Value} (hret : meth.sig.returnType = some t) (hlk : meth.locks = false) (ht : t = .boolean ∨ t = .byte ∨ t = .char ∨ t = .short)
    (hd : decode c.code pc = .ok (.ireturn, 1)) (hc : cells ≤ k) (hs : slots ≤ n) (hq : Q (some (.int (nar t z))) T.heap locs) : Goes p e below s Q k n (T.setTop (mkF m pc Ls (.int z :: rest))) := by
  obtain ⟨fs, hr, hrun, hended, hW, hsame⟩ := X.leave (v := some (.int (nar t z))) (fun h => by rw [hret] at h; cases h) hlk
  exact ⟨_, _, Jvm.RoadKit.retN X hx hret ht hd hr, hrun, hended, _, _, rfl, hq, ⟨_, rfl⟩, hW, hsame.mono hc hs⟩
theorem Goes.retO (X : Stand p l e R s m args below meth c T locs cells slots) (hx : p.tables.exec = Jvm.exec) {pc : Nat} {Ls : Array Slot} {w : Value} {t : FieldType} {i : Instr} {rest : List Value} (hret : meth.sig.returnType = some t) (hlk : meth.locks = false) (hn : narrow t w = w)
    (hi : (i = .ireturn ∧ (t = .int ∨ t = .boolean ∨ t = .byte ∨ t = .char ∨ t = .short) ∧ ∃ z, w = .int z) ∨ (i = .lreturn ∧ t = .long ∧ ∃ z, w = .long z) ∨ (i = .dreturn ∧ t = .double ∧ ∃ z, w = .double z) ∨ (i = .freturn ∧ t = .float ∧ ∃ z, w = .float z) ∨ (i = .areturn ∧ t.isReference = true ∧ w.isRef = true))
    (hd : decode c.code pc = .ok (i, 1)) (hc : cells ≤ k) (hs : slots ≤ n) (hq : Q (some w) T.heap locs) : Goes p e below s Q k n (T.setTop (mkF m pc Ls (w :: rest))) := by
  obtain ⟨fs, hr, hrun, hended, hW, hsame⟩ := X.leave (v := some w) (fun h => by rw [hret] at h; cases h) hlk
  exact ⟨_, _, Jvm.RoadKit.retOut X hx hret hn hi hd hr, hrun, hended, _, _, rfl, hq, ⟨_, rfl⟩, hW, hsame.mono hc hs⟩
theorem Goes.ret0 (X : Stand p l e R s m args below meth c T locs cells slots) (hx : p.tables.exec = Jvm.exec) {pc : Nat} {Ls : Array Slot} (hret : meth.sig.returnType = none) (hlk : meth.locks = false)
    (hd : decode c.code pc = .ok (.return_, 1)) (hc : cells ≤ k) (hs : slots ≤ n) (hq : Q none T.heap locs) : Goes p e below s Q k n (T.setTop (mkF m pc Ls [])) := by
  obtain ⟨fs, hr, hrun, hended, hW, hsame⟩ := X.leave (v := none) (fun _ => rfl) hlk
  exact ⟨_, _, X.returnOut hx hret hd hr, hrun, hended, _, _, rfl, hq, ⟨_, rfl⟩, hW, hsame.mono hc hs⟩
end OwnGo
end Jvm.RoadKit
namespace Jvm.Pilot.@@N@@
open Jvm Jvm.ClassFile Sem Op Lib Jvm.Free Jvm.Stand Jvm.LawKit Jvm.RoadKit Bundle Jvm.Pilot.@@N@@.Jvm.D
theorem own_selp {Z s : State} {a0 args : Array Value} {y : MethodName} {n : Nat} (hZ : Z.Warmed39 s.vm) (wi : (Jvm.Cond.instantiable y.cls n).before a0 Z = true) (wm : (Jvm.Cond.instanceMethod y).before a0 Z = true) (wp : (Jvm.Cond.privateMethod y).before a0 Z = true) (hy : y.cls ≠ "java/lang/invoke/MethodHandle" ∧ y.cls ≠ "java/lang/invoke/VarHandle") : (Jvm.Cond.selects y.cls y y).before args s = true := by
  obtain ⟨c, k, h1, h2, h3, h4, -⟩ := Cond.instantiable_spec (mvT hZ wi (args := args))
  have h5 : k.isInterface = false := by cases hi : k.isInterface <;> simp [hi] at h4 ⊢
  exact selects_self_of_private h1 h2 h5 (Cond.privateMethod_at (mvP hZ wp (args := args))) (mvT hZ wm) hy
def own_bI (b : Bool) : Int32 := bif b then 1 else 0
theorem own_cat {v : Value} (h : v.isRef = true) : v.category = 1 := by cases v <;> simp [Value.isRef, Value.category] at h ⊢
theorem own_feq {args : Array Value} {s : State} {t u : Term} {C n d : String} {a w : Addr} (h : (Jvm.Cond.eq (.field t C n d) u).value args s none s [] = some true) (ht : t.eval args s none [] s = some (.ref a)) (hu : u.eval args s none [] s = some (.ref w)) : Fld s s.heap a C n d (.ref w) := by
  obtain ⟨x, y, e1, e2, k1, k2⟩ := cmp_v (Or.inl h)
  cases hu.symm.trans e2
  have hx : x.isRef = true := k2.2
  have q := gotT (eq_R e1 hu hx rfl) h
  subst q
  rw [fld_at ht] at e1
  exact Fld.start e1
theorem own_oeq {args : Array Value} {s : State} {t : Term} {C n d : String} {a : Addr} {k : Int32} (h : (Jvm.Cond.eq (.field t C n d) (.int k)).value args s none s [] = some true) (ht : t.eval args s none [] s = some (.ref a)) : Fld s s.heap a C n d (.int k) := by
  obtain ⟨x, y, e1, e2, k1, k2⟩ := cmp_v (Or.inl h)
  cases (Term.int_eval k).symm.trans e2
  obtain ⟨z, rfl⟩ := k2
  have q : z = k := by simpa [Jvm.Cond.value, e1, e2] using h
  subst q
  rw [fld_at ht] at e1
  exact Fld.start e1
def own_g (x0 x1 x2 x3 : Int64) (j : Int32) : Int64 := if j = 0 then x0 else if j = 1 then x1 else if j = 2 then x2 else x3
theorem own_c4 {j : Int32} (h1 : 0 ≤ j.toInt) (h2 : j.toInt < 4) : j = 0 ∨ j = 1 ∨ j = 2 ∨ j = 3 := by
  have : j.toInt = 0 ∨ j.toInt = 1 ∨ j.toInt = 2 ∨ j.toInt = 3 := by omega
  rcases this with h | h | h | h
  · exact Or.inl (Int32.toInt_inj.mp h)
  · exact Or.inr (Or.inl (Int32.toInt_inj.mp h))
  · exact Or.inr (Or.inr (Or.inl (Int32.toInt_inj.mp h)))
  · exact Or.inr (Or.inr (Or.inr (Int32.toInt_inj.mp h)))
theorem own_gD {x0 x1 x2 x3 : Int64} {j : Int32} (h1 : 0 ≤ j.toInt) (h2 : j.toInt < 4) : ([(.long x0), (.long x1), (.long x2), (.long x3)] : List Value).getD j.toNatClampNeg (.long 0) = .long (own_g x0 x1 x2 x3 j) := by
  rcases own_c4 h1 h2 with rfl | rfl | rfl | rfl <;> rfl
theorem own_in {j z : Int32} {n : Int} (hz : z.toInt = n) (h1 : 0 ≤ j.toInt) (h2 : j.toInt < n) : ¬ j < 0 ∧ j < z := by
  rw [Int32.lt_iff_toInt_lt, Int32.lt_iff_toInt_lt]
  refine ⟨?_, by omega⟩
  show ¬ j.toInt < 0
  omega
theorem own_lt {x y : Int32} : x < y ↔ x.toInt < y.toInt := Int32.lt_iff_toInt_lt
theorem own_up {i t : Int32} (h : i.toInt < t.toInt) : (i + 1).toInt = i.toInt + 1 := by
  have h1 := c_iadd i 1; have h2 := rng32 (i + 1); have h3 := rng32 t; have h4 := rng32 i
  have h5 : (1 : Int32).toInt = 1 := rfl
  omega
theorem own_fr (x : Int32) : 0 ≤ ((x &&& 7) % 5).toInt ∧ ((x &&& 7) % 5).toInt ≤ 4 := by
  have h1 := c_mask x 7 3 (by decide) (by decide)
  have h2 := (c_irem (x &&& 7) 5 5 rfl).1 (by omega)
  omega
theorem own_5f {f : Int32} (h : 0 ≤ f.toInt ∧ f.toInt ≤ 4) : (5 - f).toInt = 5 - f.toInt := by
  have h1 := c_isub 5 f; have h2 := rng32 (5 - f)
  have h5 : (5 : Int32).toInt = 5 := rfl
  omega
theorem own_5nz {f : Int32} (h : 0 ≤ f.toInt ∧ f.toInt ≤ 4) : 5 - f ≠ 0 := fun q => by
  have h1 := own_5f h
  rw [q] at h1
  have h5 : (0 : Int32).toInt = 0 := rfl
  omega
theorem own_to {f x : Int32} (h : 0 ≤ f.toInt ∧ f.toInt ≤ 4) : f.toInt ≤ (f + (x &&& 7) % (5 - f)).toInt ∧ (f + (x &&& 7) % (5 - f)).toInt ≤ 4 := by
  have h1 := c_mask x 7 3 (by decide) (by decide)
  have h2 := own_5f h
  have h3 := (c_iremV (x &&& 7) (5 - f)).1 (by omega) (by omega)
  have h4 := c_iadd f ((x &&& 7) % (5 - f)); have h5 := rng32 (f + (x &&& 7) % (5 - f))
  omega
def own_QF (Z : State) (x0 x1 x2 x3 : Int64) (fr to : Int32) (t : Int64) (h0 : Heap) (n0 : Nat) (v : Option Value) (h : Heap) (L : List Loc) : Prop := ∃ r : Int32, v = some (.int r) ∧ Fr n0 L ∧ h = h0 ∧ fr.toInt ≤ r.toInt ∧ r.toInt ≤ to.toInt ∧ (r.toInt < to.toInt → ¬ own_g x0 x1 x2 x3 r < t) ∧ ∀ j : Int32, fr.toInt ≤ j.toInt → j.toInt < r.toInt → own_g x0 x1 x2 x3 j < t
def own_QB (Z : State) (h0 : Heap) (n0 : Nat) (v : Option Value) (h : Heap) (L : List Loc) : Prop := v = some (.int 1) ∧ Fr n0 L ∧ h = h0
def own_Q0 (Z : State) (h0 : Heap) (n0 : Nat) (v : Option Value) (h : Heap) (L : List Loc) : Prop := v = some (.int 1) ∧ Fr n0 L
theorem own_d_prog_10_6_0 : decode prog_10_method_6_code 0 = .ok (.iload_n 1, 1) := by decide +kernel
theorem own_d_prog_10_6_1 : decode prog_10_method_6_code 1 = .ok (.istore 5, 2) := by decide +kernel
theorem own_d_prog_10_6_3 : decode prog_10_method_6_code 3 = .ok (.iload 5, 2) := by decide +kernel
theorem own_d_prog_10_6_5 : decode prog_10_method_6_code 5 = .ok (.iload_n 2, 1) := by decide +kernel
theorem own_d_prog_10_6_6 : decode prog_10_method_6_code 6 = .ok (.if_icmp .ge 18, 3) := by decide +kernel
theorem own_d_prog_10_6_24 : decode prog_10_method_6_code 24 = .ok (.iload 5, 2) := by decide +kernel
theorem own_d_prog_10_6_26 : decode prog_10_method_6_code 26 = .ok (.ireturn, 1) := by decide +kernel
theorem own_d_prog_10_6_9 : decode prog_10_method_6_code 9 = .ok (.aload_n 0, 1) := by decide +kernel
theorem own_d_prog_10_6_10 : decode prog_10_method_6_code 10 = .ok (.iload 5, 2) := by decide +kernel
theorem own_d_prog_10_6_12 : decode prog_10_method_6_code 12 = .ok (.laload, 1) := by decide +kernel
theorem own_d_prog_10_6_13 : decode prog_10_method_6_code 13 = .ok (.lload_n 3, 1) := by decide +kernel
theorem own_d_prog_10_6_14 : decode prog_10_method_6_code 14 = .ok (.lcmp, 1) := by decide +kernel
theorem own_d_prog_10_6_15 : decode prog_10_method_6_code 15 = .ok (.ifCond .ge 9, 3) := by decide +kernel
theorem own_d_prog_10_6_18 : decode prog_10_method_6_code 18 = .ok (.iinc 5 1, 3) := by decide +kernel
theorem own_d_prog_10_6_21 : decode prog_10_method_6_code 21 = .ok (.goto (-18), 3) := by decide +kernel
theorem own_pn15 : plainName "com/example/nestor/nestor/log/MaxTimestamps" = true := by first | (simp [plainName, overriddenIn]; done) | decide +kernel
theorem own_d_method_3_0 : decode method_3_code 0 = .ok (.iload_n 2, 1) := by decide +kernel
theorem own_d_method_3_1 : decode method_3_code 1 = .ok (.iload_n 1, 1) := by decide +kernel
theorem own_d_method_3_2 : decode method_3_code 2 = .ok (.if_icmp .gt 17, 3) := by decide +kernel
theorem own_d_method_3_19 : decode method_3_code 19 = .ok (.iconst 1, 1) := by decide +kernel
theorem own_d_method_3_20 : decode method_3_code 20 = .ok (.goto 4, 3) := by decide +kernel
theorem own_d_method_3_24 : decode method_3_code 24 = .ok (.ireturn, 1) := by decide +kernel
theorem own_d_method_3_5 : decode method_3_code 5 = .ok (.iload_n 1, 1) := by decide +kernel
theorem own_d_method_3_6 : decode method_3_code 6 = .ok (.iload_n 3, 1) := by decide +kernel
theorem own_d_method_3_7 : decode method_3_code 7 = .ok (.if_icmp .ge 12, 3) := by decide +kernel
theorem own_d_method_3_10 : decode method_3_code 10 = .ok (.aload_n 0, 1) := by decide +kernel
theorem own_d_method_3_11 : decode method_3_code 11 = .ok (.iload_n 1, 1) := by decide +kernel
theorem own_d_method_3_12 : decode method_3_code 12 = .ok (.laload, 1) := by decide +kernel
theorem own_d_method_3_13 : decode method_3_code 13 = .ok (.lload 4, 2) := by decide +kernel
theorem own_d_method_3_15 : decode method_3_code 15 = .ok (.lcmp, 1) := by decide +kernel
theorem own_d_method_3_16 : decode method_3_code 16 = .ok (.ifCond .ge 7, 3) := by decide +kernel
theorem own_pn31 : plainName "com/example/nestor/nestor/log/MaxTimestampsFirstAtLeastPinLaw" = true := by first | (simp [plainName, overriddenIn]; done) | decide +kernel
theorem own_pd32 : parseMethodDescriptor "([JIIJ)I" = some ⟨[(.array .long), .int, .int, .long], some .int⟩ := by decide +kernel
theorem own_pd33 : parseMethodDescriptor "([JIIIJ)Z" = some ⟨[(.array .long), .int, .int, .int, .long], some .boolean⟩ := by decide +kernel
theorem own_rmF_ef (m : MethodId) (a : Addr) (fr : Int32) (to : Int32) (t : Int64) : entryFrame m #[(.ref a), (.int fr), (.int to), (.long t)] 6 = mkF m 0 #[.val (.ref a), .val (.int fr), .val (.int to), .val (.long t), .second, .unset] [] := by first | (simp [entryFrame, mkF, argsToLocals, Value.category]; done) | rfl
set_option maxRecDepth 65536 in
set_option maxHeartbeats 40000000 in
theorem own_rmF (l : Launch) (Z : State) (a0 : Array Value) (hw : ∀ d ∈ tables_1, d.before a0 Z = true) (ws : List Jvm.Cond) (a : Addr) (fr to : Int32) (t : Int64) (k : ClassId) (x0 x1 x2 x3 : Int64) (h0 : Heap) (n0 : Nat) (Z0 : n0 ≤ h0.size) (V_a : Arv Z h0 a k .long (4 : Int32) [(.long x0), (.long x1), (.long x2), (.long x3)] (.long (0 : Int64))) (hf : 0 ≤ fr.toInt) (hft : fr.toInt ≤ to.toInt) (ht : to.toInt ≤ 4) :
    MetFree l (⟨"com/example/nestor/nestor/log/MaxTimestamps", "firstAtLeast", "([JIIJ)I"⟩ : MethodName) (head1 (Jvm.Cond.code (⟨"com/example/nestor/nestor/log/MaxTimestamps", "firstAtLeast", "([JIIJ)I"⟩ : MethodName) prog_10_method_6_code 6 (some .int) :: ws) ({ frames := 0, cells := 0, slots := 0, locals := 0 } : Room)) (fun aa_ U => aa_ = #[(.ref a), (.int fr), (.int to), (.long t)] ∧ Z.Warmed39 U.vm ∧ U.heap = h0) (fun _ _ _ _ _ => True) (fun _ U oo_ U' => ∃ vv_ LL_, oo_ = .returned vv_ ∧ own_QF Z x0 x1 x2 x3 fr to t h0 n0 vv_ U'.heap LL_ ∧ FrameEnd U oo_ U' LL_ ({ frames := 0, cells := 0, slots := 0, locals := 0 } : Room).cells ({ frames := 0, cells := 0, slots := 0, locals := 0 } : Room).slots) := by
  refine MetFree.of_bodySF (plainFor_of_name own_pn15) hisR ?_
  intro p e s m args below meth c s₁ Bd hml0 hP hK
  obtain ⟨rfl, hZ, hh⟩ := hP
  have hx := Bd.exec
  have hby := Bd.bytes
  have hml : c.maxLocals = 6 := hml0
  have hown : s.vm.findClass "com/example/nestor/nestor/log/MaxTimestamps" = some m.cls := findClass_of_methodNamed Bd.named
  have hnm := (name_of_methodNamed Bd.named Bd.method).1
  have hlk := Bd.notSynchronized
  have hret := Bd.returns
  have X0 : Stand p l e ({ frames := 0, cells := 0, slots := 0, locals := 0 } : Room) s m #[(.ref a), (.int fr), (.int to), (.long t)] below meth c s₁ [] 0 0 := Stand.of_body Bd
  have e0 : s₁.heap = h0 := by rw [← hh, Bd.state]; rfl
  have N0 := Fr.nil n0
  show Goes p e below s (own_QF Z x0 x1 x2 x3 fr to t h0 n0) ({ frames := 0, cells := 0, slots := 0, locals := 0 } : Room).cells ({ frames := 0, cells := 0, slots := 0, locals := 0 } : Room).slots _
  refine Goes.cast (own_rmF_ef m a fr to t) ?_
  show Goes p e below s _ _ _ (s₁.setTop (mkF m 0 #[.val (.ref a), .val (.int fr), .val (.int to), .val (.long t), .second, .unset] []))
  refine Goes.st (fun t_ k_ => XS.iloadN X0.here hx rfl (hb hby own_d_prog_10_6_0) rfl  k_) ?_
  show Goes p e below s _ _ _ (s₁.setTop (mkF m 1 #[.val (.ref a), .val (.int fr), .val (.int to), .val (.long t), .second, .unset] [(.int fr)]))
  refine Goes.st (fun t_ k_ => XS.istore X0.here hx rfl (hb hby own_d_prog_10_6_1) rfl  (l' := #[.val (.ref a), .val (.int fr), .val (.int to), .val (.long t), .second, .val (.int fr)]) rfl k_) ?_
  show Goes p e below s _ _ _ (s₁.setTop (mkF m 3 #[.val (.ref a), .val (.int fr), .val (.int to), .val (.long t), .second, .val (.int fr)] []))
  have loop : ∀ (u : Nat) (i : Int32), i.toInt + u = to.toInt → fr.toInt ≤ i.toInt → (∀ j : Int32, fr.toInt ≤ j.toInt → j.toInt < i.toInt → own_g x0 x1 x2 x3 j < t) → Goes p e below s (own_QF Z x0 x1 x2 x3 fr to t h0 n0) ({ frames := 0, cells := 0, slots := 0, locals := 0 } : Room).cells ({ frames := 0, cells := 0, slots := 0, locals := 0 } : Room).slots (s₁.setTop (mkF m 3 #[.val (.ref a), .val (.int fr), .val (.int to), .val (.long t), .second, .val (.int i)] [])) := by
    intro u
    induction u with
    | zero =>
      intro i hi hfi hall
      show Goes p e below s _ _ _ (s₁.setTop (mkF m 3 #[.val (.ref a), .val (.int fr), .val (.int to), .val (.long t), .second, .val (.int i)] []))
      refine Goes.st (fun t_ k_ => XS.iload X0.here hx rfl (hb hby own_d_prog_10_6_3) rfl  k_) ?_
      show Goes p e below s _ _ _ (s₁.setTop (mkF m 5 #[.val (.ref a), .val (.int fr), .val (.int to), .val (.long t), .second, .val (.int i)] [(.int i)]))
      refine Goes.st (fun t_ k_ => XS.iloadN X0.here hx rfl (hb hby own_d_prog_10_6_5) rfl  k_) ?_
      show Goes p e below s _ _ _ (s₁.setTop (mkF m 6 #[.val (.ref a), .val (.int fr), .val (.int to), .val (.long t), .second, .val (.int i)] [(.int to), (.int i)]))
      refine Goes.st (fun t_ k_ => XS.icmpYes X0.here hx rfl (pc0 := 6) (pc' := 24) rfl (hb hby own_d_prog_10_6_6) rfl (flt (fun q => by rw [own_lt] at q; omega)).2.1 (by decide) (by decide) k_) ?_
      show Goes p e below s _ _ _ (s₁.setTop (mkF m 24 #[.val (.ref a), .val (.int fr), .val (.int to), .val (.long t), .second, .val (.int i)] []))
      refine Goes.st (fun t_ k_ => XS.iload X0.here hx rfl (hb hby own_d_prog_10_6_24) rfl  k_) ?_
      show Goes p e below s _ _ _ (s₁.setTop (mkF m 26 #[.val (.ref a), .val (.int fr), .val (.int to), .val (.long t), .second, .val (.int i)] [(.int i)]))
      exact Goes.retO X0 hx hret hlk rfl (Or.inl ⟨rfl, Or.inl rfl, _, rfl⟩) (hb hby own_d_prog_10_6_26) (by decide) (by decide) (⟨i, rfl, N0, e0, hfi, by omega, fun q => by omega, hall⟩)
    | succ u ih =>
      intro i hi hfi hall
      have hit : i.toInt < to.toInt := by omega
      show Goes p e below s _ _ _ (s₁.setTop (mkF m 3 #[.val (.ref a), .val (.int fr), .val (.int to), .val (.long t), .second, .val (.int i)] []))
      refine Goes.st (fun t_ k_ => XS.iload X0.here hx rfl (hb hby own_d_prog_10_6_3) rfl  k_) ?_
      show Goes p e below s _ _ _ (s₁.setTop (mkF m 5 #[.val (.ref a), .val (.int fr), .val (.int to), .val (.long t), .second, .val (.int i)] [(.int i)]))
      refine Goes.st (fun t_ k_ => XS.iloadN X0.here hx rfl (hb hby own_d_prog_10_6_5) rfl  k_) ?_
      show Goes p e below s _ _ _ (s₁.setTop (mkF m 6 #[.val (.ref a), .val (.int fr), .val (.int to), .val (.long t), .second, .val (.int i)] [(.int to), (.int i)]))
      refine Goes.st (fun t_ k_ => XS.icmpNo X0.here hx rfl (hb hby own_d_prog_10_6_6) rfl (tlt (own_lt.mpr hit)).2.1 k_) ?_
      show Goes p e below s _ _ _ (s₁.setTop (mkF m 9 #[.val (.ref a), .val (.int fr), .val (.int to), .val (.long t), .second, .val (.int i)] []))
      refine Goes.st (fun t_ k_ => XS.aloadN X0.here hx rfl (hb hby own_d_prog_10_6_9) rfl rfl k_) ?_
      show Goes p e below s _ _ _ (s₁.setTop (mkF m 10 #[.val (.ref a), .val (.int fr), .val (.int to), .val (.long t), .second, .val (.int i)] [(.ref a)]))
      refine Goes.st (fun t_ k_ => XS.iload X0.here hx rfl (hb hby own_d_prog_10_6_10) rfl  k_) ?_
      show Goes p e below s _ _ _ (s₁.setTop (mkF m 12 #[.val (.ref a), .val (.int fr), .val (.int to), .val (.long t), .second, .val (.int i)] [(.int i), (.ref a)]))
      have VV1 := V_a
      obtain ⟨cl1, Ar1, -, S1, M1, H1, -⟩ := VV1
      have hin1 := inb_of S1 (j := i) (own_in (n := 4) rfl (by omega) (by omega))
      refine Goes.st (fun t_ k_ => X0.laload hx (j := i) (v := (.long (own_g x0 x1 x2 x3 i))) (by rw [e0]; exact Ar1.1) (State.isArrayOf_alike hZ.alike Ar1.2.1) Ar1.2.2 hin1 (Has.at H1 hin1 (own_gD (by omega) (by omega))) (g := (mkF m 12 #[.val (.ref a), .val (.int fr), .val (.int to), .val (.long t), .second, .val (.int i)] [(.int i), (.ref a)])) rfl rfl (hb hby own_d_prog_10_6_12) _ k_) ?_
      show Goes p e below s _ _ _ (s₁.setTop (mkF m 13 #[.val (.ref a), .val (.int fr), .val (.int to), .val (.long t), .second, .val (.int i)] [(.long (own_g x0 x1 x2 x3 i))]))
      refine Goes.st (fun t_ k_ => XS.lloadN X0.here hx rfl (hb hby own_d_prog_10_6_13) rfl  k_) ?_
      show Goes p e below s _ _ _ (s₁.setTop (mkF m 14 #[.val (.ref a), .val (.int fr), .val (.int to), .val (.long t), .second, .val (.int i)] [(.long t), (.long (own_g x0 x1 x2 x3 i))]))
      refine Goes.st (fun t_ k_ => XS.lcmp X0.here hx rfl (hb hby own_d_prog_10_6_14) rfl k_) ?_
      show Goes p e below s _ _ _ (s₁.setTop (mkF m 15 #[.val (.ref a), .val (.int fr), .val (.int to), .val (.long t), .second, .val (.int i)] [(.int (lcmpW (own_g x0 x1 x2 x3 i) t))]))
      by_cases hc : (own_g x0 x1 x2 x3 i) < t
      · refine Goes.st (fun t_ k_ => XS.ifNo X0.here hx rfl (hb hby own_d_prog_10_6_15) rfl ((if0 _ _).trans (tlt ((lw_lt _ _).mpr hc)).2.1) k_) ?_
        have hu := own_up hit
        show Goes p e below s _ _ _ (s₁.setTop (mkF m 18 #[.val (.ref a), .val (.int fr), .val (.int to), .val (.long t), .second, .val (.int i)] []))
        refine Goes.st (fun t_ k_ => XS.iinc X0.here hx rfl (hb hby own_d_prog_10_6_18) rfl (l' := #[.val (.ref a), .val (.int fr), .val (.int to), .val (.long t), .second, .val (.int (i + (1 : Int32)))]) rfl k_) ?_
        show Goes p e below s _ _ _ (s₁.setTop (mkF m 21 #[.val (.ref a), .val (.int fr), .val (.int to), .val (.long t), .second, .val (.int (i + (1 : Int32)))] []))
        refine Goes.st (fun t_ k_ => XS.goto X0.here hx rfl (pc0 := 21) (pc' := 3) rfl (hb hby own_d_prog_10_6_21) (by decide) (by decide) k_) ?_
        show Goes p e below s _ _ _ (s₁.setTop (mkF m 3 #[.val (.ref a), .val (.int fr), .val (.int to), .val (.long t), .second, .val (.int (i + (1 : Int32)))] []))
        refine ih _ (by omega) (by omega) ?_
        intro j h1 h2
        by_cases q : j.toInt < i.toInt
        · exact hall j h1 q
        · obtain rfl : j = i := Int32.toInt_inj.mp (by omega)
          exact hc
      · refine Goes.st (fun t_ k_ => XS.ifYes X0.here hx rfl (pc0 := 15) (pc' := 24) rfl (hb hby own_d_prog_10_6_15) rfl ((if0 _ _).trans (flt (mt (lw_lt _ _).mp hc)).2.1) (by decide) (by decide) k_) ?_
        show Goes p e below s _ _ _ (s₁.setTop (mkF m 24 #[.val (.ref a), .val (.int fr), .val (.int to), .val (.long t), .second, .val (.int i)] []))
        refine Goes.st (fun t_ k_ => XS.iload X0.here hx rfl (hb hby own_d_prog_10_6_24) rfl  k_) ?_
        show Goes p e below s _ _ _ (s₁.setTop (mkF m 26 #[.val (.ref a), .val (.int fr), .val (.int to), .val (.long t), .second, .val (.int i)] [(.int i)]))
        exact Goes.retO X0 hx hret hlk rfl (Or.inl ⟨rfl, Or.inl rfl, _, rfl⟩) (hb hby own_d_prog_10_6_26) (by decide) (by decide) (⟨i, rfl, N0, e0, hfi, by omega, fun _ => hc, hall⟩)
  exact loop (to.toInt - fr.toInt).toNat fr (by omega) (Int.le_refl _) (fun j h1 h2 => by omega)
theorem own_rmB_ef (m : MethodId) (a : Addr) (i : Int32) (fr : Int32) (r : Int32) (t : Int64) : entryFrame m #[(.ref a), (.int i), (.int fr), (.int r), (.long t)] 6 = mkF m 0 #[.val (.ref a), .val (.int i), .val (.int fr), .val (.int r), .val (.long t), .second] [] := by first | (simp [entryFrame, mkF, argsToLocals, Value.category]; done) | rfl
set_option maxRecDepth 65536 in
set_option maxHeartbeats 40000000 in
theorem own_rmB (l : Launch) (Z : State) (a0 : Array Value) (hw : ∀ d ∈ tables_1, d.before a0 Z = true) (ws : List Jvm.Cond) (a : Addr) (i fr r : Int32) (t : Int64) (k : ClassId) (x0 x1 x2 x3 : Int64) (h0 : Heap) (n0 : Nat) (Z0 : n0 ≤ h0.size) (V_a : Arv Z h0 a k .long (4 : Int32) [(.long x0), (.long x1), (.long x2), (.long x3)] (.long (0 : Int64))) (h1 : 0 ≤ i.toInt) (h2 : i.toInt < 4) (hB : fr.toInt ≤ i.toInt → i.toInt < r.toInt → own_g x0 x1 x2 x3 i < t) :
    MetFree l (⟨"com/example/nestor/nestor/log/MaxTimestampsFirstAtLeastPinLaw", "below", "([JIIIJ)Z"⟩ : MethodName) (head1 (Jvm.Cond.code (⟨"com/example/nestor/nestor/log/MaxTimestampsFirstAtLeastPinLaw", "below", "([JIIIJ)Z"⟩ : MethodName) method_3_code 6 (some .boolean) :: ws) ({ frames := 0, cells := 0, slots := 0, locals := 0 } : Room)) (fun aa_ U => aa_ = #[(.ref a), (.int i), (.int fr), (.int r), (.long t)] ∧ Z.Warmed39 U.vm ∧ U.heap = h0) (fun _ _ _ _ _ => True) (fun _ U oo_ U' => ∃ vv_ LL_, oo_ = .returned vv_ ∧ own_QB Z  h0 n0 vv_ U'.heap LL_ ∧ FrameEnd U oo_ U' LL_ ({ frames := 0, cells := 0, slots := 0, locals := 0 } : Room).cells ({ frames := 0, cells := 0, slots := 0, locals := 0 } : Room).slots) := by
  refine MetFree.of_bodySF (plainFor_of_name own_pn31) hisR ?_
  intro p e s m args below meth c s₁ Bd hml0 hP hK
  obtain ⟨rfl, hZ, hh⟩ := hP
  have hx := Bd.exec
  have hby := Bd.bytes
  have hml : c.maxLocals = 6 := hml0
  have hown : s.vm.findClass "com/example/nestor/nestor/log/MaxTimestampsFirstAtLeastPinLaw" = some m.cls := findClass_of_methodNamed Bd.named
  have hnm := (name_of_methodNamed Bd.named Bd.method).1
  have hlk := Bd.notSynchronized
  have hret := Bd.returns
  have X0 : Stand p l e ({ frames := 0, cells := 0, slots := 0, locals := 0 } : Room) s m #[(.ref a), (.int i), (.int fr), (.int r), (.long t)] below meth c s₁ [] 0 0 := Stand.of_body Bd
  have e0 : s₁.heap = h0 := by rw [← hh, Bd.state]; rfl
  have N0 := Fr.nil n0
  show Goes p e below s (own_QB Z  h0 n0) ({ frames := 0, cells := 0, slots := 0, locals := 0 } : Room).cells ({ frames := 0, cells := 0, slots := 0, locals := 0 } : Room).slots _
  refine Goes.cast (own_rmB_ef m a i fr r t) ?_
  show Goes p e below s _ _ _ (s₁.setTop (mkF m 0 #[.val (.ref a), .val (.int i), .val (.int fr), .val (.int r), .val (.long t), .second] []))
  refine Goes.st (fun t_ k_ => XS.iloadN X0.here hx rfl (hb hby own_d_method_3_0) rfl  k_) ?_
  show Goes p e below s _ _ _ (s₁.setTop (mkF m 1 #[.val (.ref a), .val (.int i), .val (.int fr), .val (.int r), .val (.long t), .second] [(.int fr)]))
  refine Goes.st (fun t_ k_ => XS.iloadN X0.here hx rfl (hb hby own_d_method_3_1) rfl  k_) ?_
  show Goes p e below s _ _ _ (s₁.setTop (mkF m 2 #[.val (.ref a), .val (.int i), .val (.int fr), .val (.int r), .val (.long t), .second] [(.int i), (.int fr)]))
  by_cases hc1 : i < fr
  · refine Goes.st (fun t_ k_ => XS.icmpYes X0.here hx rfl (pc0 := 2) (pc' := 19) rfl (hb hby own_d_method_3_2) rfl (tlt hc1).2.2.1 (by decide) (by decide) k_) ?_
    show Goes p e below s _ _ _ (s₁.setTop (mkF m 19 #[.val (.ref a), .val (.int i), .val (.int fr), .val (.int r), .val (.long t), .second] []))
    refine Goes.st (fun t_ k_ => XS.iconst X0.here hx rfl (hb hby own_d_method_3_19) k_) ?_
    show Goes p e below s _ _ _ (s₁.setTop (mkF m 20 #[.val (.ref a), .val (.int i), .val (.int fr), .val (.int r), .val (.long t), .second] [(.int (1 : Int32))]))
    refine Goes.st (fun t_ k_ => XS.goto X0.here hx rfl (pc0 := 20) (pc' := 24) rfl (hb hby own_d_method_3_20) (by decide) (by decide) k_) ?_
    show Goes p e below s _ _ _ (s₁.setTop (mkF m 24 #[.val (.ref a), .val (.int i), .val (.int fr), .val (.int r), .val (.long t), .second] [(.int (1 : Int32))]))
    exact Goes.retN X0 hx (t := .boolean) hret hlk (by simp) (hb hby own_d_method_3_24) (by decide) (by decide) (⟨rfl, N0, e0⟩)
  · refine Goes.st (fun t_ k_ => XS.icmpNo X0.here hx rfl (hb hby own_d_method_3_2) rfl (flt hc1).2.2.1 k_) ?_
    show Goes p e below s _ _ _ (s₁.setTop (mkF m 5 #[.val (.ref a), .val (.int i), .val (.int fr), .val (.int r), .val (.long t), .second] []))
    refine Goes.st (fun t_ k_ => XS.iloadN X0.here hx rfl (hb hby own_d_method_3_5) rfl  k_) ?_
    show Goes p e below s _ _ _ (s₁.setTop (mkF m 6 #[.val (.ref a), .val (.int i), .val (.int fr), .val (.int r), .val (.long t), .second] [(.int i)]))
    refine Goes.st (fun t_ k_ => XS.iloadN X0.here hx rfl (hb hby own_d_method_3_6) rfl  k_) ?_
    show Goes p e below s _ _ _ (s₁.setTop (mkF m 7 #[.val (.ref a), .val (.int i), .val (.int fr), .val (.int r), .val (.long t), .second] [(.int r), (.int i)]))
    by_cases hc2 : i < r
    · refine Goes.st (fun t_ k_ => XS.icmpNo X0.here hx rfl (hb hby own_d_method_3_7) rfl (tlt hc2).2.1 k_) ?_
      show Goes p e below s _ _ _ (s₁.setTop (mkF m 10 #[.val (.ref a), .val (.int i), .val (.int fr), .val (.int r), .val (.long t), .second] []))
      refine Goes.st (fun t_ k_ => XS.aloadN X0.here hx rfl (hb hby own_d_method_3_10) rfl rfl k_) ?_
      show Goes p e below s _ _ _ (s₁.setTop (mkF m 11 #[.val (.ref a), .val (.int i), .val (.int fr), .val (.int r), .val (.long t), .second] [(.ref a)]))
      refine Goes.st (fun t_ k_ => XS.iloadN X0.here hx rfl (hb hby own_d_method_3_11) rfl  k_) ?_
      show Goes p e below s _ _ _ (s₁.setTop (mkF m 12 #[.val (.ref a), .val (.int i), .val (.int fr), .val (.int r), .val (.long t), .second] [(.int i), (.ref a)]))
      have VV2 := V_a
      obtain ⟨cl2, Ar2, -, S2, M2, H2, -⟩ := VV2
      have hin2 := inb_of S2 (j := i) (own_in (n := 4) rfl h1 h2)
      refine Goes.st (fun t_ k_ => X0.laload hx (j := i) (v := (.long (own_g x0 x1 x2 x3 i))) (by rw [e0]; exact Ar2.1) (State.isArrayOf_alike hZ.alike Ar2.2.1) Ar2.2.2 hin2 (Has.at H2 hin2 (own_gD h1 h2)) (g := (mkF m 12 #[.val (.ref a), .val (.int i), .val (.int fr), .val (.int r), .val (.long t), .second] [(.int i), (.ref a)])) rfl rfl (hb hby own_d_method_3_12) _ k_) ?_
      show Goes p e below s _ _ _ (s₁.setTop (mkF m 13 #[.val (.ref a), .val (.int i), .val (.int fr), .val (.int r), .val (.long t), .second] [(.long (own_g x0 x1 x2 x3 i))]))
      refine Goes.st (fun t_ k_ => XS.lload X0.here hx rfl (hb hby own_d_method_3_13) rfl  k_) ?_
      show Goes p e below s _ _ _ (s₁.setTop (mkF m 15 #[.val (.ref a), .val (.int i), .val (.int fr), .val (.int r), .val (.long t), .second] [(.long t), (.long (own_g x0 x1 x2 x3 i))]))
      refine Goes.st (fun t_ k_ => XS.lcmp X0.here hx rfl (hb hby own_d_method_3_15) rfl k_) ?_
      show Goes p e below s _ _ _ (s₁.setTop (mkF m 16 #[.val (.ref a), .val (.int i), .val (.int fr), .val (.int r), .val (.long t), .second] [(.int (lcmpW (own_g x0 x1 x2 x3 i) t))]))
      refine Goes.st (fun t_ k_ => XS.ifNo X0.here hx rfl (hb hby own_d_method_3_16) rfl ((if0 _ _).trans (tlt ((lw_lt _ _).mpr (hB (by rw [own_lt] at hc1; omega) (own_lt.mp hc2)))).2.1) k_) ?_
      show Goes p e below s _ _ _ (s₁.setTop (mkF m 19 #[.val (.ref a), .val (.int i), .val (.int fr), .val (.int r), .val (.long t), .second] []))
      refine Goes.st (fun t_ k_ => XS.iconst X0.here hx rfl (hb hby own_d_method_3_19) k_) ?_
      show Goes p e below s _ _ _ (s₁.setTop (mkF m 20 #[.val (.ref a), .val (.int i), .val (.int fr), .val (.int r), .val (.long t), .second] [(.int (1 : Int32))]))
      refine Goes.st (fun t_ k_ => XS.goto X0.here hx rfl (pc0 := 20) (pc' := 24) rfl (hb hby own_d_method_3_20) (by decide) (by decide) k_) ?_
      show Goes p e below s _ _ _ (s₁.setTop (mkF m 24 #[.val (.ref a), .val (.int i), .val (.int fr), .val (.int r), .val (.long t), .second] [(.int (1 : Int32))]))
      exact Goes.retN X0 hx (t := .boolean) hret hlk (by simp) (hb hby own_d_method_3_24) (by decide) (by decide) (⟨rfl, N0, e0⟩)
    · refine Goes.st (fun t_ k_ => XS.icmpYes X0.here hx rfl (pc0 := 7) (pc' := 19) rfl (hb hby own_d_method_3_7) rfl (flt hc2).2.1 (by decide) (by decide) k_) ?_
      show Goes p e below s _ _ _ (s₁.setTop (mkF m 19 #[.val (.ref a), .val (.int i), .val (.int fr), .val (.int r), .val (.long t), .second] []))
      refine Goes.st (fun t_ k_ => XS.iconst X0.here hx rfl (hb hby own_d_method_3_19) k_) ?_
      show Goes p e below s _ _ _ (s₁.setTop (mkF m 20 #[.val (.ref a), .val (.int i), .val (.int fr), .val (.int r), .val (.long t), .second] [(.int (1 : Int32))]))
      refine Goes.st (fun t_ k_ => XS.goto X0.here hx rfl (pc0 := 20) (pc' := 24) rfl (hb hby own_d_method_3_20) (by decide) (by decide) k_) ?_
      show Goes p e below s _ _ _ (s₁.setTop (mkF m 24 #[.val (.ref a), .val (.int i), .val (.int fr), .val (.int r), .val (.long t), .second] [(.int (1 : Int32))]))
      exact Goes.retN X0 hx (t := .boolean) hret hlk (by simp) (hb hby own_d_method_3_24) (by decide) (by decide) (⟨rfl, N0, e0⟩)
theorem own_rm0_ef (m : MethodId) (y0 : Int64) (y1 : Int64) (y2 : Int64) (y3 : Int64) (bd : Int32) (t : Int64) : entryFrame m #[(.long y0), (.long y1), (.long y2), (.long y3), (.int bd), (.long t)] maxLocals = mkF m 0 #[.val (.long y0), .second, .val (.long y1), .second, .val (.long y2), .second, .val (.long y3), .second, .val (.int bd), .val (.long t), .second, .unset, .unset, .unset, .unset] [] := by first | (simp [entryFrame, mkF, argsToLocals, Value.category, maxLocals]; done) | rfl
set_option maxRecDepth 65536 in
set_option maxHeartbeats 40000000 in
theorem own_rm0 (l : Launch) (Z : State) (a0 : Array Value) (hw : ∀ d ∈ tables_1, d.before a0 Z = true) (ws : List Jvm.Cond) (y0 y1 y2 y3 : Int64) (bd : Int32) (t : Int64) (h0 : Heap) (n0 : Nat) (Z0 : n0 ≤ h0.size)  :
    MetFree l x (head1 (Jvm.Cond.code x code maxLocals ret :: ws) room_1) (fun aa_ U => aa_ = #[(.long y0), (.long y1), (.long y2), (.long y3), (.int bd), (.long t)] ∧ Z.Warmed39 U.vm ∧ U.heap = h0) (fun _ _ _ _ _ => True) (fun _ U oo_ U' => ∃ vv_ LL_, oo_ = .returned vv_ ∧ own_Q0 Z  h0 n0 vv_ U'.heap LL_ ∧ FrameEnd U oo_ U' LL_ 1 4) := by
  refine MetFree.of_bodySF (plainFor_of_name own_pn31) hisR ?_
  intro p e s m args below meth c s₁ Bd hml0 hP hK
  obtain ⟨rfl, hZ, hh⟩ := hP
  have hx := Bd.exec
  have hby := Bd.bytes
  have hml : c.maxLocals = 15 := hml0
  have hown : s.vm.findClass "com/example/nestor/nestor/log/MaxTimestampsFirstAtLeastPinLaw" = some m.cls := findClass_of_methodNamed Bd.named
  have hnm := (name_of_methodNamed Bd.named Bd.method).1
  have hlk := Bd.notSynchronized
  have hret := Bd.returns
  have X0 : Stand p l e room_1 s m #[(.long y0), (.long y1), (.long y2), (.long y3), (.int bd), (.long t)] below meth c s₁ [] 0 0 := Stand.of_body Bd
  have e0 : s₁.heap = h0 := by rw [← hh, Bd.state]; rfl
  have N0 := Fr.nil n0
  show Goes p e below s (own_Q0 Z  h0 n0) (1) (4) _
  refine Goes.cast (own_rm0_ef m y0 y1 y2 y3 bd t) ?_
  show Goes p e below s _ _ _ (s₁.setTop (mkF m 0 #[.val (.long y0), .second, .val (.long y1), .second, .val (.long y2), .second, .val (.long y3), .second, .val (.int bd), .val (.long t), .second, .unset, .unset, .unset, .unset] []))
  refine Goes.st (fun t_ k_ => XS.iconst X0.here hx rfl (hb hby at_0) k_) ?_
  show Goes p e below s _ _ _ (s₁.setTop (mkF m 1 #[.val (.long y0), .second, .val (.long y1), .second, .val (.long y2), .second, .val (.long y3), .second, .val (.int bd), .val (.long t), .second, .unset, .unset, .unset, .unset] [(.int (4 : Int32))]))
  obtain ⟨T3, h3, k3, X3, e3, E3, A3, st3⟩ := newP X0 hx hZ (hw _ (List.mem_of_getElem? (i := 0) rfl)) e0 (g := (mkF m 1 #[.val (.long y0), .second, .val (.long y1), .second, .val (.long y2), .second, .val (.long y3), .second, .val (.int bd), .val (.long t), .second, .unset, .unset, .unset, .unset] [(.int (4 : Int32))])) rfl (hb hby at_1) rfl (by decide) (cap := 4) (by decide) (by decide) (by decide) (by decide)
  obtain ⟨b3, g3⟩ : ∃ z, z = h0.size := ⟨_, rfl⟩
  rw [← g3] at A3 st3
  have gn_b3 : n0 ≤ b3 := Nat.le_trans Z0 (Nat.le_of_eq g3.symm)
  refine Goes.st st3 ?_
  have Z0' := Nat.le_trans Z0 E3.1
  have V_b3 : Arv Z h3 b3 k3 .long (4 : Int32) [(.long (0 : Int64)), (.long (0 : Int64)), (.long (0 : Int64)), (.long (0 : Int64))] (.long (0 : Int64)) := (Arv.new A3 (by decide)).pad (pad_rep [] (.long (0 : Int64)) 4)
  show Goes p e below s _ _ _ (T3.setTop (mkF m 3 #[.val (.long y0), .second, .val (.long y1), .second, .val (.long y2), .second, .val (.long y3), .second, .val (.int bd), .val (.long t), .second, .unset, .unset, .unset, .unset] [(.ref b3)]))
  refine Goes.st (fun t_ k_ => XS.astore X3.here hx rfl (hb hby at_3) rfl rfl (l' := #[.val (.long y0), .second, .val (.long y1), .second, .val (.long y2), .second, .val (.long y3), .second, .val (.int bd), .val (.long t), .second, .val (.ref b3), .unset, .unset, .unset]) rfl k_) ?_
  show Goes p e below s _ _ _ (T3.setTop (mkF m 5 #[.val (.long y0), .second, .val (.long y1), .second, .val (.long y2), .second, .val (.long y3), .second, .val (.int bd), .val (.long t), .second, .val (.ref b3), .unset, .unset, .unset] []))
  refine Goes.st (fun t_ k_ => XS.aload X3.here hx rfl (hb hby at_5) rfl rfl k_) ?_
  show Goes p e below s _ _ _ (T3.setTop (mkF m 7 #[.val (.long y0), .second, .val (.long y1), .second, .val (.long y2), .second, .val (.long y3), .second, .val (.int bd), .val (.long t), .second, .val (.ref b3), .unset, .unset, .unset] [(.ref b3)]))
  refine Goes.st (fun t_ k_ => XS.iconst X3.here hx rfl (hb hby at_7) k_) ?_
  show Goes p e below s _ _ _ (T3.setTop (mkF m 8 #[.val (.long y0), .second, .val (.long y1), .second, .val (.long y2), .second, .val (.long y3), .second, .val (.int bd), .val (.long t), .second, .val (.ref b3), .unset, .unset, .unset] [(.int (0 : Int32)), (.ref b3)]))
  refine Goes.st (fun t_ k_ => XS.iload X3.here hx rfl (hb hby at_8) rfl  k_) ?_
  show Goes p e below s _ _ _ (T3.setTop (mkF m 10 #[.val (.long y0), .second, .val (.long y1), .second, .val (.long y2), .second, .val (.long y3), .second, .val (.int bd), .val (.long t), .second, .val (.ref b3), .unset, .unset, .unset] [(.int bd), (.int (0 : Int32)), (.ref b3)]))
  refine Goes.st (fun t_ k_ => XS.bipush X3.here hx rfl (hb hby at_10) k_) ?_
  show Goes p e below s _ _ _ (T3.setTop (mkF m 12 #[.val (.long y0), .second, .val (.long y1), .second, .val (.long y2), .second, .val (.long y3), .second, .val (.int bd), .val (.long t), .second, .val (.ref b3), .unset, .unset, .unset] [(.int (8 : Int32)), (.int bd), (.int (0 : Int32)), (.ref b3)]))
  refine Goes.st (fun t_ k_ => XS.iushr X3.here hx rfl (hb hby at_12) rfl k_) ?_
  show Goes p e below s _ _ _ (T3.setTop (mkF m 13 #[.val (.long y0), .second, .val (.long y1), .second, .val (.long y2), .second, .val (.long y3), .second, .val (.int bd), .val (.long t), .second, .val (.ref b3), .unset, .unset, .unset] [(.int ((bd.toUInt32 >>> ((8 : Int32) &&& 31).toUInt32).toInt32)), (.int (0 : Int32)), (.ref b3)]))
  refine Goes.st (fun t_ k_ => XS.iconst X3.here hx rfl (hb hby at_13) k_) ?_
  show Goes p e below s _ _ _ (T3.setTop (mkF m 14 #[.val (.long y0), .second, .val (.long y1), .second, .val (.long y2), .second, .val (.long y3), .second, .val (.int bd), .val (.long t), .second, .val (.ref b3), .unset, .unset, .unset] [(.int (1 : Int32)), (.int ((bd.toUInt32 >>> ((8 : Int32) &&& 31).toUInt32).toInt32)), (.int (0 : Int32)), (.ref b3)]))
  refine Goes.st (fun t_ k_ => XS.iand X3.here hx rfl (hb hby at_14) rfl k_) ?_
  show Goes p e below s _ _ _ (T3.setTop (mkF m 15 #[.val (.long y0), .second, .val (.long y1), .second, .val (.long y2), .second, .val (.long y3), .second, .val (.int bd), .val (.long t), .second, .val (.ref b3), .unset, .unset, .unset] [(.int (((bd.toUInt32 >>> ((8 : Int32) &&& 31).toUInt32).toInt32) &&& (1 : Int32))), (.int (0 : Int32)), (.ref b3)]))
  have hj0 : ∀ x0 : Int64, Goes p e below s (own_Q0 Z h0 n0) (1) (4) (T3.setTop (mkF m 24 #[.val (.long y0), .second, .val (.long y1), .second, .val (.long y2), .second, .val (.long y3), .second, .val (.int bd), .val (.long t), .second, .val (.ref b3), .unset, .unset, .unset] [(.long x0), (.int (0 : Int32)), (.ref b3)])) := by
    intro x0
    show Goes p e below s _ _ _ (T3.setTop (mkF m 24 #[.val (.long y0), .second, .val (.long y1), .second, .val (.long y2), .second, .val (.long y3), .second, .val (.int bd), .val (.long t), .second, .val (.ref b3), .unset, .unset, .unset] [(.long x0), (.int (0 : Int32)), (.ref b3)]))
    obtain ⟨cl4, Ar4, q4, S4, M4, H4, G4⟩ := V_b3
    obtain ⟨T4, h4, X4, e4, W4, st4⟩ := stJ X3 hx hZ e3 Ar4 (j := (0 : Int32)) (inb_of S4 ⟨by decide, by decide⟩) (g := (mkF m 24 #[.val (.long y0), .second, .val (.long y1), .second, .val (.long y2), .second, .val (.long y3), .second, .val (.int bd), .val (.long t), .second, .val (.ref b3), .unset, .unset, .unset] [(.long x0), (.int (0 : Int32)), (.ref b3)])) rfl rfl (hb hby at_24)
    have V_b3 := Arv.set Ar4 q4 S4 M4 H4 G4 rfl W4 0 rfl (Nat.le_of_ble_eq_true rfl)
    refine Goes.st st4 ?_
    have V_b3 : Arv Z h4 b3 k3 .long (4 : Int32) [(.long x0), (.long (0 : Int64)), (.long (0 : Int64)), (.long (0 : Int64))] (.long (0 : Int64)) := V_b3
    have N4 := Fr.snoc X4 N0 gn_b3
    have Z0'' := Nat.le_trans Z0' (Keep.of_wr W4).1
    show Goes p e below s _ _ _ (T4.setTop (mkF m 25 #[.val (.long y0), .second, .val (.long y1), .second, .val (.long y2), .second, .val (.long y3), .second, .val (.int bd), .val (.long t), .second, .val (.ref b3), .unset, .unset, .unset] []))
    refine Goes.st (fun t_ k_ => XS.aload X4.here hx rfl (hb hby at_25) rfl rfl k_) ?_
    show Goes p e below s _ _ _ (T4.setTop (mkF m 27 #[.val (.long y0), .second, .val (.long y1), .second, .val (.long y2), .second, .val (.long y3), .second, .val (.int bd), .val (.long t), .second, .val (.ref b3), .unset, .unset, .unset] [(.ref b3)]))
    refine Goes.st (fun t_ k_ => XS.iconst X4.here hx rfl (hb hby at_27) k_) ?_
    show Goes p e below s _ _ _ (T4.setTop (mkF m 28 #[.val (.long y0), .second, .val (.long y1), .second, .val (.long y2), .second, .val (.long y3), .second, .val (.int bd), .val (.long t), .second, .val (.ref b3), .unset, .unset, .unset] [(.int (1 : Int32)), (.ref b3)]))
    refine Goes.st (fun t_ k_ => XS.iload X4.here hx rfl (hb hby at_28) rfl  k_) ?_
    show Goes p e below s _ _ _ (T4.setTop (mkF m 30 #[.val (.long y0), .second, .val (.long y1), .second, .val (.long y2), .second, .val (.long y3), .second, .val (.int bd), .val (.long t), .second, .val (.ref b3), .unset, .unset, .unset] [(.int bd), (.int (1 : Int32)), (.ref b3)]))
    refine Goes.st (fun t_ k_ => XS.bipush X4.here hx rfl (hb hby at_30) k_) ?_
    show Goes p e below s _ _ _ (T4.setTop (mkF m 32 #[.val (.long y0), .second, .val (.long y1), .second, .val (.long y2), .second, .val (.long y3), .second, .val (.int bd), .val (.long t), .second, .val (.ref b3), .unset, .unset, .unset] [(.int (9 : Int32)), (.int bd), (.int (1 : Int32)), (.ref b3)]))
    refine Goes.st (fun t_ k_ => XS.iushr X4.here hx rfl (hb hby at_32) rfl k_) ?_
    show Goes p e below s _ _ _ (T4.setTop (mkF m 33 #[.val (.long y0), .second, .val (.long y1), .second, .val (.long y2), .second, .val (.long y3), .second, .val (.int bd), .val (.long t), .second, .val (.ref b3), .unset, .unset, .unset] [(.int ((bd.toUInt32 >>> ((9 : Int32) &&& 31).toUInt32).toInt32)), (.int (1 : Int32)), (.ref b3)]))
    refine Goes.st (fun t_ k_ => XS.iconst X4.here hx rfl (hb hby at_33) k_) ?_
    show Goes p e below s _ _ _ (T4.setTop (mkF m 34 #[.val (.long y0), .second, .val (.long y1), .second, .val (.long y2), .second, .val (.long y3), .second, .val (.int bd), .val (.long t), .second, .val (.ref b3), .unset, .unset, .unset] [(.int (1 : Int32)), (.int ((bd.toUInt32 >>> ((9 : Int32) &&& 31).toUInt32).toInt32)), (.int (1 : Int32)), (.ref b3)]))
    refine Goes.st (fun t_ k_ => XS.iand X4.here hx rfl (hb hby at_34) rfl k_) ?_
    show Goes p e below s _ _ _ (T4.setTop (mkF m 35 #[.val (.long y0), .second, .val (.long y1), .second, .val (.long y2), .second, .val (.long y3), .second, .val (.int bd), .val (.long t), .second, .val (.ref b3), .unset, .unset, .unset] [(.int (((bd.toUInt32 >>> ((9 : Int32) &&& 31).toUInt32).toInt32) &&& (1 : Int32))), (.int (1 : Int32)), (.ref b3)]))
    have hj1 : ∀ x1 : Int64, Goes p e below s (own_Q0 Z h0 n0) (1) (4) (T4.setTop (mkF m 44 #[.val (.long y0), .second, .val (.long y1), .second, .val (.long y2), .second, .val (.long y3), .second, .val (.int bd), .val (.long t), .second, .val (.ref b3), .unset, .unset, .unset] [(.long x1), (.int (1 : Int32)), (.ref b3)])) := by
      intro x1
      show Goes p e below s _ _ _ (T4.setTop (mkF m 44 #[.val (.long y0), .second, .val (.long y1), .second, .val (.long y2), .second, .val (.long y3), .second, .val (.int bd), .val (.long t), .second, .val (.ref b3), .unset, .unset, .unset] [(.long x1), (.int (1 : Int32)), (.ref b3)]))
      obtain ⟨cl5, Ar5, q5, S5, M5, H5, G5⟩ := V_b3
      obtain ⟨T5, h5, X5, e5, W5, st5⟩ := stJ X4 hx hZ e4 Ar5 (j := (1 : Int32)) (inb_of S5 ⟨by decide, by decide⟩) (g := (mkF m 44 #[.val (.long y0), .second, .val (.long y1), .second, .val (.long y2), .second, .val (.long y3), .second, .val (.int bd), .val (.long t), .second, .val (.ref b3), .unset, .unset, .unset] [(.long x1), (.int (1 : Int32)), (.ref b3)])) rfl rfl (hb hby at_44)
      have V_b3 := Arv.set Ar5 q5 S5 M5 H5 G5 rfl W5 1 rfl (Nat.le_of_ble_eq_true rfl)
      refine Goes.st st5 ?_
      have V_b3 : Arv Z h5 b3 k3 .long (4 : Int32) [(.long x0), (.long x1), (.long (0 : Int64)), (.long (0 : Int64))] (.long (0 : Int64)) := V_b3
      have N5 := Fr.snoc X5 N4 gn_b3
      have Z0''' := Nat.le_trans Z0'' (Keep.of_wr W5).1
      show Goes p e below s _ _ _ (T5.setTop (mkF m 45 #[.val (.long y0), .second, .val (.long y1), .second, .val (.long y2), .second, .val (.long y3), .second, .val (.int bd), .val (.long t), .second, .val (.ref b3), .unset, .unset, .unset] []))
      refine Goes.st (fun t_ k_ => XS.aload X5.here hx rfl (hb hby at_45) rfl rfl k_) ?_
      show Goes p e below s _ _ _ (T5.setTop (mkF m 47 #[.val (.long y0), .second, .val (.long y1), .second, .val (.long y2), .second, .val (.long y3), .second, .val (.int bd), .val (.long t), .second, .val (.ref b3), .unset, .unset, .unset] [(.ref b3)]))
      refine Goes.st (fun t_ k_ => XS.iconst X5.here hx rfl (hb hby at_47) k_) ?_
      show Goes p e below s _ _ _ (T5.setTop (mkF m 48 #[.val (.long y0), .second, .val (.long y1), .second, .val (.long y2), .second, .val (.long y3), .second, .val (.int bd), .val (.long t), .second, .val (.ref b3), .unset, .unset, .unset] [(.int (2 : Int32)), (.ref b3)]))
      refine Goes.st (fun t_ k_ => XS.iload X5.here hx rfl (hb hby at_48) rfl  k_) ?_
      show Goes p e below s _ _ _ (T5.setTop (mkF m 50 #[.val (.long y0), .second, .val (.long y1), .second, .val (.long y2), .second, .val (.long y3), .second, .val (.int bd), .val (.long t), .second, .val (.ref b3), .unset, .unset, .unset] [(.int bd), (.int (2 : Int32)), (.ref b3)]))
      refine Goes.st (fun t_ k_ => XS.bipush X5.here hx rfl (hb hby at_50) k_) ?_
      show Goes p e below s _ _ _ (T5.setTop (mkF m 52 #[.val (.long y0), .second, .val (.long y1), .second, .val (.long y2), .second, .val (.long y3), .second, .val (.int bd), .val (.long t), .second, .val (.ref b3), .unset, .unset, .unset] [(.int (10 : Int32)), (.int bd), (.int (2 : Int32)), (.ref b3)]))
      refine Goes.st (fun t_ k_ => XS.iushr X5.here hx rfl (hb hby at_52) rfl k_) ?_
      show Goes p e below s _ _ _ (T5.setTop (mkF m 53 #[.val (.long y0), .second, .val (.long y1), .second, .val (.long y2), .second, .val (.long y3), .second, .val (.int bd), .val (.long t), .second, .val (.ref b3), .unset, .unset, .unset] [(.int ((bd.toUInt32 >>> ((10 : Int32) &&& 31).toUInt32).toInt32)), (.int (2 : Int32)), (.ref b3)]))
      refine Goes.st (fun t_ k_ => XS.iconst X5.here hx rfl (hb hby at_53) k_) ?_
      show Goes p e below s _ _ _ (T5.setTop (mkF m 54 #[.val (.long y0), .second, .val (.long y1), .second, .val (.long y2), .second, .val (.long y3), .second, .val (.int bd), .val (.long t), .second, .val (.ref b3), .unset, .unset, .unset] [(.int (1 : Int32)), (.int ((bd.toUInt32 >>> ((10 : Int32) &&& 31).toUInt32).toInt32)), (.int (2 : Int32)), (.ref b3)]))
      refine Goes.st (fun t_ k_ => XS.iand X5.here hx rfl (hb hby at_54) rfl k_) ?_
      show Goes p e below s _ _ _ (T5.setTop (mkF m 55 #[.val (.long y0), .second, .val (.long y1), .second, .val (.long y2), .second, .val (.long y3), .second, .val (.int bd), .val (.long t), .second, .val (.ref b3), .unset, .unset, .unset] [(.int (((bd.toUInt32 >>> ((10 : Int32) &&& 31).toUInt32).toInt32) &&& (1 : Int32))), (.int (2 : Int32)), (.ref b3)]))
      have hj2 : ∀ x2 : Int64, Goes p e below s (own_Q0 Z h0 n0) (1) (4) (T5.setTop (mkF m 65 #[.val (.long y0), .second, .val (.long y1), .second, .val (.long y2), .second, .val (.long y3), .second, .val (.int bd), .val (.long t), .second, .val (.ref b3), .unset, .unset, .unset] [(.long x2), (.int (2 : Int32)), (.ref b3)])) := by
        intro x2
        show Goes p e below s _ _ _ (T5.setTop (mkF m 65 #[.val (.long y0), .second, .val (.long y1), .second, .val (.long y2), .second, .val (.long y3), .second, .val (.int bd), .val (.long t), .second, .val (.ref b3), .unset, .unset, .unset] [(.long x2), (.int (2 : Int32)), (.ref b3)]))
        obtain ⟨cl6, Ar6, q6, S6, M6, H6, G6⟩ := V_b3
        obtain ⟨T6, h6, X6, e6, W6, st6⟩ := stJ X5 hx hZ e5 Ar6 (j := (2 : Int32)) (inb_of S6 ⟨by decide, by decide⟩) (g := (mkF m 65 #[.val (.long y0), .second, .val (.long y1), .second, .val (.long y2), .second, .val (.long y3), .second, .val (.int bd), .val (.long t), .second, .val (.ref b3), .unset, .unset, .unset] [(.long x2), (.int (2 : Int32)), (.ref b3)])) rfl rfl (hb hby at_65)
        have V_b3 := Arv.set Ar6 q6 S6 M6 H6 G6 rfl W6 2 rfl (Nat.le_of_ble_eq_true rfl)
        refine Goes.st st6 ?_
        have V_b3 : Arv Z h6 b3 k3 .long (4 : Int32) [(.long x0), (.long x1), (.long x2), (.long (0 : Int64))] (.long (0 : Int64)) := V_b3
        have N6 := Fr.snoc X6 N5 gn_b3
        have Z0'''' := Nat.le_trans Z0''' (Keep.of_wr W6).1
        show Goes p e below s _ _ _ (T6.setTop (mkF m 66 #[.val (.long y0), .second, .val (.long y1), .second, .val (.long y2), .second, .val (.long y3), .second, .val (.int bd), .val (.long t), .second, .val (.ref b3), .unset, .unset, .unset] []))
        refine Goes.st (fun t_ k_ => XS.aload X6.here hx rfl (hb hby at_66) rfl rfl k_) ?_
        show Goes p e below s _ _ _ (T6.setTop (mkF m 68 #[.val (.long y0), .second, .val (.long y1), .second, .val (.long y2), .second, .val (.long y3), .second, .val (.int bd), .val (.long t), .second, .val (.ref b3), .unset, .unset, .unset] [(.ref b3)]))
        refine Goes.st (fun t_ k_ => XS.iconst X6.here hx rfl (hb hby at_68) k_) ?_
        show Goes p e below s _ _ _ (T6.setTop (mkF m 69 #[.val (.long y0), .second, .val (.long y1), .second, .val (.long y2), .second, .val (.long y3), .second, .val (.int bd), .val (.long t), .second, .val (.ref b3), .unset, .unset, .unset] [(.int (3 : Int32)), (.ref b3)]))
        refine Goes.st (fun t_ k_ => XS.iload X6.here hx rfl (hb hby at_69) rfl  k_) ?_
        show Goes p e below s _ _ _ (T6.setTop (mkF m 71 #[.val (.long y0), .second, .val (.long y1), .second, .val (.long y2), .second, .val (.long y3), .second, .val (.int bd), .val (.long t), .second, .val (.ref b3), .unset, .unset, .unset] [(.int bd), (.int (3 : Int32)), (.ref b3)]))
        refine Goes.st (fun t_ k_ => XS.bipush X6.here hx rfl (hb hby at_71) k_) ?_
        show Goes p e below s _ _ _ (T6.setTop (mkF m 73 #[.val (.long y0), .second, .val (.long y1), .second, .val (.long y2), .second, .val (.long y3), .second, .val (.int bd), .val (.long t), .second, .val (.ref b3), .unset, .unset, .unset] [(.int (11 : Int32)), (.int bd), (.int (3 : Int32)), (.ref b3)]))
        refine Goes.st (fun t_ k_ => XS.iushr X6.here hx rfl (hb hby at_73) rfl k_) ?_
        show Goes p e below s _ _ _ (T6.setTop (mkF m 74 #[.val (.long y0), .second, .val (.long y1), .second, .val (.long y2), .second, .val (.long y3), .second, .val (.int bd), .val (.long t), .second, .val (.ref b3), .unset, .unset, .unset] [(.int ((bd.toUInt32 >>> ((11 : Int32) &&& 31).toUInt32).toInt32)), (.int (3 : Int32)), (.ref b3)]))
        refine Goes.st (fun t_ k_ => XS.iconst X6.here hx rfl (hb hby at_74) k_) ?_
        show Goes p e below s _ _ _ (T6.setTop (mkF m 75 #[.val (.long y0), .second, .val (.long y1), .second, .val (.long y2), .second, .val (.long y3), .second, .val (.int bd), .val (.long t), .second, .val (.ref b3), .unset, .unset, .unset] [(.int (1 : Int32)), (.int ((bd.toUInt32 >>> ((11 : Int32) &&& 31).toUInt32).toInt32)), (.int (3 : Int32)), (.ref b3)]))
        refine Goes.st (fun t_ k_ => XS.iand X6.here hx rfl (hb hby at_75) rfl k_) ?_
        show Goes p e below s _ _ _ (T6.setTop (mkF m 76 #[.val (.long y0), .second, .val (.long y1), .second, .val (.long y2), .second, .val (.long y3), .second, .val (.int bd), .val (.long t), .second, .val (.ref b3), .unset, .unset, .unset] [(.int (((bd.toUInt32 >>> ((11 : Int32) &&& 31).toUInt32).toInt32) &&& (1 : Int32))), (.int (3 : Int32)), (.ref b3)]))
        have hj3 : ∀ x3 : Int64, Goes p e below s (own_Q0 Z h0 n0) (1) (4) (T6.setTop (mkF m 86 #[.val (.long y0), .second, .val (.long y1), .second, .val (.long y2), .second, .val (.long y3), .second, .val (.int bd), .val (.long t), .second, .val (.ref b3), .unset, .unset, .unset] [(.long x3), (.int (3 : Int32)), (.ref b3)])) := by
          intro x3
          show Goes p e below s _ _ _ (T6.setTop (mkF m 86 #[.val (.long y0), .second, .val (.long y1), .second, .val (.long y2), .second, .val (.long y3), .second, .val (.int bd), .val (.long t), .second, .val (.ref b3), .unset, .unset, .unset] [(.long x3), (.int (3 : Int32)), (.ref b3)]))
          obtain ⟨cl7, Ar7, q7, S7, M7, H7, G7⟩ := V_b3
          obtain ⟨T7, h7, X7, e7, W7, st7⟩ := stJ X6 hx hZ e6 Ar7 (j := (3 : Int32)) (inb_of S7 ⟨by decide, by decide⟩) (g := (mkF m 86 #[.val (.long y0), .second, .val (.long y1), .second, .val (.long y2), .second, .val (.long y3), .second, .val (.int bd), .val (.long t), .second, .val (.ref b3), .unset, .unset, .unset] [(.long x3), (.int (3 : Int32)), (.ref b3)])) rfl rfl (hb hby at_86)
          have V_b3 := Arv.set Ar7 q7 S7 M7 H7 G7 rfl W7 3 rfl (Nat.le_of_ble_eq_true rfl)
          refine Goes.st st7 ?_
          have V_b3 : Arv Z h7 b3 k3 .long (4 : Int32) [(.long x0), (.long x1), (.long x2), (.long x3)] (.long (0 : Int64)) := V_b3
          have N7 := Fr.snoc X7 N6 gn_b3
          have Z0''''' := Nat.le_trans Z0'''' (Keep.of_wr W7).1
          show Goes p e below s _ _ _ (T7.setTop (mkF m 87 #[.val (.long y0), .second, .val (.long y1), .second, .val (.long y2), .second, .val (.long y3), .second, .val (.int bd), .val (.long t), .second, .val (.ref b3), .unset, .unset, .unset] []))
          refine Goes.st (fun t_ k_ => XS.iload X7.here hx rfl (hb hby at_87) rfl  k_) ?_
          show Goes p e below s _ _ _ (T7.setTop (mkF m 89 #[.val (.long y0), .second, .val (.long y1), .second, .val (.long y2), .second, .val (.long y3), .second, .val (.int bd), .val (.long t), .second, .val (.ref b3), .unset, .unset, .unset] [(.int bd)]))
          refine Goes.st (fun t_ k_ => XS.bipush X7.here hx rfl (hb hby at_89) k_) ?_
          show Goes p e below s _ _ _ (T7.setTop (mkF m 91 #[.val (.long y0), .second, .val (.long y1), .second, .val (.long y2), .second, .val (.long y3), .second, .val (.int bd), .val (.long t), .second, .val (.ref b3), .unset, .unset, .unset] [(.int (7 : Int32)), (.int bd)]))
          refine Goes.st (fun t_ k_ => XS.iand X7.here hx rfl (hb hby at_91) rfl k_) ?_
          show Goes p e below s _ _ _ (T7.setTop (mkF m 92 #[.val (.long y0), .second, .val (.long y1), .second, .val (.long y2), .second, .val (.long y3), .second, .val (.int bd), .val (.long t), .second, .val (.ref b3), .unset, .unset, .unset] [(.int (bd &&& (7 : Int32)))]))
          refine Goes.st (fun t_ k_ => XS.iconst X7.here hx rfl (hb hby at_92) k_) ?_
          show Goes p e below s _ _ _ (T7.setTop (mkF m 93 #[.val (.long y0), .second, .val (.long y1), .second, .val (.long y2), .second, .val (.long y3), .second, .val (.int bd), .val (.long t), .second, .val (.ref b3), .unset, .unset, .unset] [(.int (5 : Int32)), (.int (bd &&& (7 : Int32)))]))
          refine Goes.st (fun t_ k_ => iremM (g := (mkF m 93 #[.val (.long y0), .second, .val (.long y1), .second, .val (.long y2), .second, .val (.long y3), .second, .val (.int bd), .val (.long t), .second, .val (.ref b3), .unset, .unset, .unset] [(.int (5 : Int32)), (.int (bd &&& (7 : Int32)))])) X7 hx rfl (hb hby at_93) rfl (by decide) k_) ?_
          show Goes p e below s _ _ _ (T7.setTop (mkF m 94 #[.val (.long y0), .second, .val (.long y1), .second, .val (.long y2), .second, .val (.long y3), .second, .val (.int bd), .val (.long t), .second, .val (.ref b3), .unset, .unset, .unset] [(.int ((bd &&& (7 : Int32)) % (5 : Int32)))]))
          refine Goes.st (fun t_ k_ => XS.istore X7.here hx rfl (hb hby at_94) rfl  (l' := #[.val (.long y0), .second, .val (.long y1), .second, .val (.long y2), .second, .val (.long y3), .second, .val (.int bd), .val (.long t), .second, .val (.ref b3), .val (.int ((bd &&& (7 : Int32)) % (5 : Int32))), .unset, .unset]) rfl k_) ?_
          show Goes p e below s _ _ _ (T7.setTop (mkF m 96 #[.val (.long y0), .second, .val (.long y1), .second, .val (.long y2), .second, .val (.long y3), .second, .val (.int bd), .val (.long t), .second, .val (.ref b3), .val (.int ((bd &&& (7 : Int32)) % (5 : Int32))), .unset, .unset] []))
          obtain ⟨fr, hd_fr⟩ : ∃ z : Int32, z = ((bd &&& (7 : Int32)) % (5 : Int32)) := ⟨_, rfl⟩
          rw [← hd_fr]
          show Goes p e below s _ _ _ (T7.setTop (mkF m 96 #[.val (.long y0), .second, .val (.long y1), .second, .val (.long y2), .second, .val (.long y3), .second, .val (.int bd), .val (.long t), .second, .val (.ref b3), .val (.int fr), .unset, .unset] []))
          have hf : 0 ≤ fr.toInt ∧ fr.toInt ≤ 4 := by rw [hd_fr]; exact own_fr _
          show Goes p e below s _ _ _ (T7.setTop (mkF m 96 #[.val (.long y0), .second, .val (.long y1), .second, .val (.long y2), .second, .val (.long y3), .second, .val (.int bd), .val (.long t), .second, .val (.ref b3), .val (.int fr), .unset, .unset] []))
          refine Goes.st (fun t_ k_ => XS.iload X7.here hx rfl (hb hby at_96) rfl  k_) ?_
          show Goes p e below s _ _ _ (T7.setTop (mkF m 98 #[.val (.long y0), .second, .val (.long y1), .second, .val (.long y2), .second, .val (.long y3), .second, .val (.int bd), .val (.long t), .second, .val (.ref b3), .val (.int fr), .unset, .unset] [(.int fr)]))
          refine Goes.st (fun t_ k_ => XS.iload X7.here hx rfl (hb hby at_98) rfl  k_) ?_
          show Goes p e below s _ _ _ (T7.setTop (mkF m 100 #[.val (.long y0), .second, .val (.long y1), .second, .val (.long y2), .second, .val (.long y3), .second, .val (.int bd), .val (.long t), .second, .val (.ref b3), .val (.int fr), .unset, .unset] [(.int bd), (.int fr)]))
          refine Goes.st (fun t_ k_ => XS.iconst X7.here hx rfl (hb hby at_100) k_) ?_
          show Goes p e below s _ _ _ (T7.setTop (mkF m 101 #[.val (.long y0), .second, .val (.long y1), .second, .val (.long y2), .second, .val (.long y3), .second, .val (.int bd), .val (.long t), .second, .val (.ref b3), .val (.int fr), .unset, .unset] [(.int (3 : Int32)), (.int bd), (.int fr)]))
          refine Goes.st (fun t_ k_ => XS.iushr X7.here hx rfl (hb hby at_101) rfl k_) ?_
          show Goes p e below s _ _ _ (T7.setTop (mkF m 102 #[.val (.long y0), .second, .val (.long y1), .second, .val (.long y2), .second, .val (.long y3), .second, .val (.int bd), .val (.long t), .second, .val (.ref b3), .val (.int fr), .unset, .unset] [(.int ((bd.toUInt32 >>> ((3 : Int32) &&& 31).toUInt32).toInt32)), (.int fr)]))
          refine Goes.st (fun t_ k_ => XS.bipush X7.here hx rfl (hb hby at_102) k_) ?_
          show Goes p e below s _ _ _ (T7.setTop (mkF m 104 #[.val (.long y0), .second, .val (.long y1), .second, .val (.long y2), .second, .val (.long y3), .second, .val (.int bd), .val (.long t), .second, .val (.ref b3), .val (.int fr), .unset, .unset] [(.int (7 : Int32)), (.int ((bd.toUInt32 >>> ((3 : Int32) &&& 31).toUInt32).toInt32)), (.int fr)]))
          refine Goes.st (fun t_ k_ => XS.iand X7.here hx rfl (hb hby at_104) rfl k_) ?_
          show Goes p e below s _ _ _ (T7.setTop (mkF m 105 #[.val (.long y0), .second, .val (.long y1), .second, .val (.long y2), .second, .val (.long y3), .second, .val (.int bd), .val (.long t), .second, .val (.ref b3), .val (.int fr), .unset, .unset] [(.int (((bd.toUInt32 >>> ((3 : Int32) &&& 31).toUInt32).toInt32) &&& (7 : Int32))), (.int fr)]))
          refine Goes.st (fun t_ k_ => XS.iconst X7.here hx rfl (hb hby at_105) k_) ?_
          show Goes p e below s _ _ _ (T7.setTop (mkF m 106 #[.val (.long y0), .second, .val (.long y1), .second, .val (.long y2), .second, .val (.long y3), .second, .val (.int bd), .val (.long t), .second, .val (.ref b3), .val (.int fr), .unset, .unset] [(.int (5 : Int32)), (.int (((bd.toUInt32 >>> ((3 : Int32) &&& 31).toUInt32).toInt32) &&& (7 : Int32))), (.int fr)]))
          refine Goes.st (fun t_ k_ => XS.iload X7.here hx rfl (hb hby at_106) rfl  k_) ?_
          show Goes p e below s _ _ _ (T7.setTop (mkF m 108 #[.val (.long y0), .second, .val (.long y1), .second, .val (.long y2), .second, .val (.long y3), .second, .val (.int bd), .val (.long t), .second, .val (.ref b3), .val (.int fr), .unset, .unset] [(.int fr), (.int (5 : Int32)), (.int (((bd.toUInt32 >>> ((3 : Int32) &&& 31).toUInt32).toInt32) &&& (7 : Int32))), (.int fr)]))
          refine Goes.st (fun t_ k_ => XS.isub X7.here hx rfl (hb hby at_108) rfl k_) ?_
          show Goes p e below s _ _ _ (T7.setTop (mkF m 109 #[.val (.long y0), .second, .val (.long y1), .second, .val (.long y2), .second, .val (.long y3), .second, .val (.int bd), .val (.long t), .second, .val (.ref b3), .val (.int fr), .unset, .unset] [(.int ((5 : Int32) - fr)), (.int (((bd.toUInt32 >>> ((3 : Int32) &&& 31).toUInt32).toInt32) &&& (7 : Int32))), (.int fr)]))
          refine Goes.st (fun t_ k_ => iremM (g := (mkF m 109 #[.val (.long y0), .second, .val (.long y1), .second, .val (.long y2), .second, .val (.long y3), .second, .val (.int bd), .val (.long t), .second, .val (.ref b3), .val (.int fr), .unset, .unset] [(.int ((5 : Int32) - fr)), (.int (((bd.toUInt32 >>> ((3 : Int32) &&& 31).toUInt32).toInt32) &&& (7 : Int32))), (.int fr)])) X7 hx rfl (hb hby at_109) rfl (own_5nz hf) k_) ?_
          show Goes p e below s _ _ _ (T7.setTop (mkF m 110 #[.val (.long y0), .second, .val (.long y1), .second, .val (.long y2), .second, .val (.long y3), .second, .val (.int bd), .val (.long t), .second, .val (.ref b3), .val (.int fr), .unset, .unset] [(.int ((((bd.toUInt32 >>> ((3 : Int32) &&& 31).toUInt32).toInt32) &&& (7 : Int32)) % ((5 : Int32) - fr))), (.int fr)]))
          refine Goes.st (fun t_ k_ => XS.iadd X7.here hx rfl (hb hby at_110) rfl k_) ?_
          show Goes p e below s _ _ _ (T7.setTop (mkF m 111 #[.val (.long y0), .second, .val (.long y1), .second, .val (.long y2), .second, .val (.long y3), .second, .val (.int bd), .val (.long t), .second, .val (.ref b3), .val (.int fr), .unset, .unset] [(.int (fr + ((((bd.toUInt32 >>> ((3 : Int32) &&& 31).toUInt32).toInt32) &&& (7 : Int32)) % ((5 : Int32) - fr))))]))
          refine Goes.st (fun t_ k_ => XS.istore X7.here hx rfl (hb hby at_111) rfl  (l' := #[.val (.long y0), .second, .val (.long y1), .second, .val (.long y2), .second, .val (.long y3), .second, .val (.int bd), .val (.long t), .second, .val (.ref b3), .val (.int fr), .val (.int (fr + ((((bd.toUInt32 >>> ((3 : Int32) &&& 31).toUInt32).toInt32) &&& (7 : Int32)) % ((5 : Int32) - fr)))), .unset]) rfl k_) ?_
          show Goes p e below s _ _ _ (T7.setTop (mkF m 113 #[.val (.long y0), .second, .val (.long y1), .second, .val (.long y2), .second, .val (.long y3), .second, .val (.int bd), .val (.long t), .second, .val (.ref b3), .val (.int fr), .val (.int (fr + ((((bd.toUInt32 >>> ((3 : Int32) &&& 31).toUInt32).toInt32) &&& (7 : Int32)) % ((5 : Int32) - fr)))), .unset] []))
          obtain ⟨to, hd_to⟩ : ∃ z : Int32, z = (fr + ((((bd.toUInt32 >>> ((3 : Int32) &&& 31).toUInt32).toInt32) &&& (7 : Int32)) % ((5 : Int32) - fr))) := ⟨_, rfl⟩
          rw [← hd_to]
          show Goes p e below s _ _ _ (T7.setTop (mkF m 113 #[.val (.long y0), .second, .val (.long y1), .second, .val (.long y2), .second, .val (.long y3), .second, .val (.int bd), .val (.long t), .second, .val (.ref b3), .val (.int fr), .val (.int to), .unset] []))
          have ht : fr.toInt ≤ to.toInt ∧ to.toInt ≤ 4 := by rw [hd_to]; exact own_to hf
          clear hd_to hd_fr
          show Goes p e below s _ _ _ (T7.setTop (mkF m 113 #[.val (.long y0), .second, .val (.long y1), .second, .val (.long y2), .second, .val (.long y3), .second, .val (.int bd), .val (.long t), .second, .val (.ref b3), .val (.int fr), .val (.int to), .unset] []))
          refine Goes.st (fun t_ k_ => XS.aload X7.here hx rfl (hb hby at_113) rfl rfl k_) ?_
          show Goes p e below s _ _ _ (T7.setTop (mkF m 115 #[.val (.long y0), .second, .val (.long y1), .second, .val (.long y2), .second, .val (.long y3), .second, .val (.int bd), .val (.long t), .second, .val (.ref b3), .val (.int fr), .val (.int to), .unset] [(.ref b3)]))
          refine Goes.st (fun t_ k_ => XS.iload X7.here hx rfl (hb hby at_115) rfl  k_) ?_
          show Goes p e below s _ _ _ (T7.setTop (mkF m 117 #[.val (.long y0), .second, .val (.long y1), .second, .val (.long y2), .second, .val (.long y3), .second, .val (.int bd), .val (.long t), .second, .val (.ref b3), .val (.int fr), .val (.int to), .unset] [(.int fr), (.ref b3)]))
          refine Goes.st (fun t_ k_ => XS.iload X7.here hx rfl (hb hby at_117) rfl  k_) ?_
          show Goes p e below s _ _ _ (T7.setTop (mkF m 119 #[.val (.long y0), .second, .val (.long y1), .second, .val (.long y2), .second, .val (.long y3), .second, .val (.int bd), .val (.long t), .second, .val (.ref b3), .val (.int fr), .val (.int to), .unset] [(.int to), (.int fr), (.ref b3)]))
          refine Goes.st (fun t_ k_ => XS.lload X7.here hx rfl (hb hby at_119) rfl  k_) ?_
          show Goes p e below s _ _ _ (T7.setTop (mkF m 121 #[.val (.long y0), .second, .val (.long y1), .second, .val (.long y2), .second, .val (.long y3), .second, .val (.int bd), .val (.long t), .second, .val (.ref b3), .val (.int fr), .val (.int to), .unset] [(.long t), (.int to), (.int fr), (.ref b3)]))
          obtain ⟨_, _, ⟨T8, L8, k8, n8⟩, -, X8, ⟨Lc8, hQ8, l8, y8, z8⟩, st8⟩ := Jvm.LawKit.callS X7 hx (y := (⟨"com/example/nestor/nestor/log/MaxTimestamps", "firstAtLeast", "([JIIJ)I"⟩ : MethodName)) hown (mvT hZ (hw _ (List.mem_of_getElem? (i := 1) rfl))) (mvT hZ (hw _ (List.mem_of_getElem? (i := 2) rfl))) (mvT hZ (hw _ (List.mem_of_getElem? (i := 3) rfl))) (mvT hZ (hw _ (List.mem_of_getElem? (i := 4) rfl))) (by decide) (backOf (W := 0) (own_rmF l Z a0 hw [] b3 fr to t k3 x0 x1 x2 x3 h7 n0 Z0''''' V_b3 hf.1 ht.1 ht.2) hZ (hw _ (List.mem_of_getElem? (i := 4) rfl)) (hw _ (List.mem_of_getElem? (i := 3) rfl)) (by decide) (by decide)) (g := (mkF m 121 #[.val (.long y0), .second, .val (.long y1), .second, .val (.long y2), .second, .val (.long y3), .second, .val (.int bd), .val (.long t), .second, .val (.ref b3), .val (.int fr), .val (.int to), .unset] [(.long t), (.int to), (.int fr), (.ref b3)])) rfl (by rw [hml]; rfl) (argsL := [(.ref b3), (.int fr), (.int to), (.long t)]) (rest := []) (lenOf own_pd32 rfl) rfl (by show 2 * 0 + _ ≤ _; exact Nat.le_of_eq rfl) (hb hby at_121) (fun _ _ => ⟨rfl, e7, (by decide : 1 + 0 ≤ _), (by decide : 4 + 0 ≤ _)⟩)
          dsimp only [Pt.U, Pt.locs, Pt.cells, Pt.slots] at X8 l8 y8 z8 st8 hQ8
          subst l8 y8 z8
          obtain ⟨r, rfl, N8q, EQ1, hr1, hr2, hr3, hr4⟩ := hQ8
          have N8 := Fr.app N7 N8q
          refine Goes.st st8 ?_
          show Goes p e below s _ _ _ (T8.setTop (mkF m 124 #[.val (.long y0), .second, .val (.long y1), .second, .val (.long y2), .second, .val (.long y3), .second, .val (.int bd), .val (.long t), .second, .val (.ref b3), .val (.int fr), .val (.int to), .unset] [(.int r)]))
          refine Goes.st (fun t_ k_ => XS.istore X8.here hx rfl (hb hby at_124) rfl  (l' := #[.val (.long y0), .second, .val (.long y1), .second, .val (.long y2), .second, .val (.long y3), .second, .val (.int bd), .val (.long t), .second, .val (.ref b3), .val (.int fr), .val (.int to), .val (.int r)]) rfl k_) ?_
          show Goes p e below s _ _ _ (T8.setTop (mkF m 126 #[.val (.long y0), .second, .val (.long y1), .second, .val (.long y2), .second, .val (.long y3), .second, .val (.int bd), .val (.long t), .second, .val (.ref b3), .val (.int fr), .val (.int to), .val (.int r)] []))
          refine Goes.st (fun t_ k_ => XS.iload X8.here hx rfl (hb hby at_126) rfl  k_) ?_
          show Goes p e below s _ _ _ (T8.setTop (mkF m 128 #[.val (.long y0), .second, .val (.long y1), .second, .val (.long y2), .second, .val (.long y3), .second, .val (.int bd), .val (.long t), .second, .val (.ref b3), .val (.int fr), .val (.int to), .val (.int r)] [(.int r)]))
          refine Goes.st (fun t_ k_ => XS.iload X8.here hx rfl (hb hby at_128) rfl  k_) ?_
          show Goes p e below s _ _ _ (T8.setTop (mkF m 130 #[.val (.long y0), .second, .val (.long y1), .second, .val (.long y2), .second, .val (.long y3), .second, .val (.int bd), .val (.long t), .second, .val (.ref b3), .val (.int fr), .val (.int to), .val (.int r)] [(.int fr), (.int r)]))
          refine Goes.st (fun t_ k_ => XS.icmpNo X8.here hx rfl (hb hby at_130) rfl (flt (fun q => by rw [own_lt] at q; omega)).1 k_) ?_
          show Goes p e below s _ _ _ (T8.setTop (mkF m 133 #[.val (.long y0), .second, .val (.long y1), .second, .val (.long y2), .second, .val (.long y3), .second, .val (.int bd), .val (.long t), .second, .val (.ref b3), .val (.int fr), .val (.int to), .val (.int r)] []))
          refine Goes.st (fun t_ k_ => XS.iload X8.here hx rfl (hb hby at_133) rfl  k_) ?_
          show Goes p e below s _ _ _ (T8.setTop (mkF m 135 #[.val (.long y0), .second, .val (.long y1), .second, .val (.long y2), .second, .val (.long y3), .second, .val (.int bd), .val (.long t), .second, .val (.ref b3), .val (.int fr), .val (.int to), .val (.int r)] [(.int r)]))
          refine Goes.st (fun t_ k_ => XS.iload X8.here hx rfl (hb hby at_135) rfl  k_) ?_
          show Goes p e below s _ _ _ (T8.setTop (mkF m 137 #[.val (.long y0), .second, .val (.long y1), .second, .val (.long y2), .second, .val (.long y3), .second, .val (.int bd), .val (.long t), .second, .val (.ref b3), .val (.int fr), .val (.int to), .val (.int r)] [(.int to), (.int r)]))
          refine Goes.st (fun t_ k_ => XS.icmpYes X8.here hx rfl (pc0 := 137) (pc' := 142) rfl (hb hby at_137) rfl (flt (fun q => by rw [own_lt] at q; omega)).2.2.2 (by decide) (by decide) k_) ?_
          show Goes p e below s _ _ _ (T8.setTop (mkF m 142 #[.val (.long y0), .second, .val (.long y1), .second, .val (.long y2), .second, .val (.long y3), .second, .val (.int bd), .val (.long t), .second, .val (.ref b3), .val (.int fr), .val (.int to), .val (.int r)] []))
          refine Goes.st (fun t_ k_ => XS.iload X8.here hx rfl (hb hby at_142) rfl  k_) ?_
          show Goes p e below s _ _ _ (T8.setTop (mkF m 144 #[.val (.long y0), .second, .val (.long y1), .second, .val (.long y2), .second, .val (.long y3), .second, .val (.int bd), .val (.long t), .second, .val (.ref b3), .val (.int fr), .val (.int to), .val (.int r)] [(.int r)]))
          refine Goes.st (fun t_ k_ => XS.iload X8.here hx rfl (hb hby at_144) rfl  k_) ?_
          show Goes p e below s _ _ _ (T8.setTop (mkF m 146 #[.val (.long y0), .second, .val (.long y1), .second, .val (.long y2), .second, .val (.long y3), .second, .val (.int bd), .val (.long t), .second, .val (.ref b3), .val (.int fr), .val (.int to), .val (.int r)] [(.int to), (.int r)]))
          have hjE : Goes p e below s (own_Q0 Z h0 n0) (1) (4) (T8.setTop (mkF m 162 #[.val (.long y0), .second, .val (.long y1), .second, .val (.long y2), .second, .val (.long y3), .second, .val (.int bd), .val (.long t), .second, .val (.ref b3), .val (.int fr), .val (.int to), .val (.int r)] [])) := by
            show Goes p e below s _ _ _ (T8.setTop (mkF m 162 #[.val (.long y0), .second, .val (.long y1), .second, .val (.long y2), .second, .val (.long y3), .second, .val (.int bd), .val (.long t), .second, .val (.ref b3), .val (.int fr), .val (.int to), .val (.int r)] []))
            refine Goes.st (fun t_ k_ => XS.aload X8.here hx rfl (hb hby at_162) rfl rfl k_) ?_
            show Goes p e below s _ _ _ (T8.setTop (mkF m 164 #[.val (.long y0), .second, .val (.long y1), .second, .val (.long y2), .second, .val (.long y3), .second, .val (.int bd), .val (.long t), .second, .val (.ref b3), .val (.int fr), .val (.int to), .val (.int r)] [(.ref b3)]))
            refine Goes.st (fun t_ k_ => XS.iconst X8.here hx rfl (hb hby at_164) k_) ?_
            show Goes p e below s _ _ _ (T8.setTop (mkF m 165 #[.val (.long y0), .second, .val (.long y1), .second, .val (.long y2), .second, .val (.long y3), .second, .val (.int bd), .val (.long t), .second, .val (.ref b3), .val (.int fr), .val (.int to), .val (.int r)] [(.int (0 : Int32)), (.ref b3)]))
            refine Goes.st (fun t_ k_ => XS.iload X8.here hx rfl (hb hby at_165) rfl  k_) ?_
            show Goes p e below s _ _ _ (T8.setTop (mkF m 167 #[.val (.long y0), .second, .val (.long y1), .second, .val (.long y2), .second, .val (.long y3), .second, .val (.int bd), .val (.long t), .second, .val (.ref b3), .val (.int fr), .val (.int to), .val (.int r)] [(.int fr), (.int (0 : Int32)), (.ref b3)]))
            refine Goes.st (fun t_ k_ => XS.iload X8.here hx rfl (hb hby at_167) rfl  k_) ?_
            show Goes p e below s _ _ _ (T8.setTop (mkF m 169 #[.val (.long y0), .second, .val (.long y1), .second, .val (.long y2), .second, .val (.long y3), .second, .val (.int bd), .val (.long t), .second, .val (.ref b3), .val (.int fr), .val (.int to), .val (.int r)] [(.int r), (.int fr), (.int (0 : Int32)), (.ref b3)]))
            refine Goes.st (fun t_ k_ => XS.lload X8.here hx rfl (hb hby at_169) rfl  k_) ?_
            show Goes p e below s _ _ _ (T8.setTop (mkF m 171 #[.val (.long y0), .second, .val (.long y1), .second, .val (.long y2), .second, .val (.long y3), .second, .val (.int bd), .val (.long t), .second, .val (.ref b3), .val (.int fr), .val (.int to), .val (.int r)] [(.long t), (.int r), (.int fr), (.int (0 : Int32)), (.ref b3)]))
            obtain ⟨_, _, ⟨T9, L9, k9, n9⟩, -, X9, ⟨Lc9, hQ9, l9, y9, z9⟩, st9⟩ := Jvm.LawKit.callS X8 hx (y := (⟨"com/example/nestor/nestor/log/MaxTimestampsFirstAtLeastPinLaw", "below", "([JIIIJ)Z"⟩ : MethodName)) hown (mvT hZ (hw _ (List.mem_of_getElem? (i := 5) rfl))) (mvT hZ (hw _ (List.mem_of_getElem? (i := 6) rfl))) (mvT hZ (hw _ (List.mem_of_getElem? (i := 7) rfl))) (mvT hZ (hw _ (List.mem_of_getElem? (i := 8) rfl))) (by decide) (backOf (W := 0) (own_rmB l Z a0 hw [] b3 0 fr r t k3 x0 x1 x2 x3 h7 n0 Z0''''' V_b3 (by decide) (by decide) (fun h1 h2 => hr4 _ h1 h2)) hZ (hw _ (List.mem_of_getElem? (i := 8) rfl)) (hw _ (List.mem_of_getElem? (i := 7) rfl)) (by decide) (by decide)) (g := (mkF m 171 #[.val (.long y0), .second, .val (.long y1), .second, .val (.long y2), .second, .val (.long y3), .second, .val (.int bd), .val (.long t), .second, .val (.ref b3), .val (.int fr), .val (.int to), .val (.int r)] [(.long t), (.int r), (.int fr), (.int (0 : Int32)), (.ref b3)])) rfl (by rw [hml]; rfl) (argsL := [(.ref b3), (.int (0 : Int32)), (.int fr), (.int r), (.long t)]) (rest := []) (lenOf own_pd33 rfl) rfl (by show 2 * 0 + _ ≤ _; exact Nat.le_of_eq rfl) (hb hby at_171) (fun _ _ => ⟨rfl, EQ1, (by decide : 1 + 0 ≤ _), (by decide : 4 + 0 ≤ _)⟩)
            dsimp only [Pt.U, Pt.locs, Pt.cells, Pt.slots] at X9 l9 y9 z9 st9 hQ9
            subst l9 y9 z9
            obtain ⟨rfl, N9q, EQ2⟩ := hQ9
            have N9 := Fr.app N8 N9q
            refine Goes.st st9 ?_
            show Goes p e below s _ _ _ (T9.setTop (mkF m 174 #[.val (.long y0), .second, .val (.long y1), .second, .val (.long y2), .second, .val (.long y3), .second, .val (.int bd), .val (.long t), .second, .val (.ref b3), .val (.int fr), .val (.int to), .val (.int r)] [(.int (1 : Int32))]))
            refine Goes.st (fun t_ k_ => XS.ifNo X9.here hx rfl (hb hby at_174) rfl ((if0 _ _).trans (feq (by decide)).1) k_) ?_
            show Goes p e below s _ _ _ (T9.setTop (mkF m 177 #[.val (.long y0), .second, .val (.long y1), .second, .val (.long y2), .second, .val (.long y3), .second, .val (.int bd), .val (.long t), .second, .val (.ref b3), .val (.int fr), .val (.int to), .val (.int r)] []))
            refine Goes.st (fun t_ k_ => XS.aload X9.here hx rfl (hb hby at_177) rfl rfl k_) ?_
            show Goes p e below s _ _ _ (T9.setTop (mkF m 179 #[.val (.long y0), .second, .val (.long y1), .second, .val (.long y2), .second, .val (.long y3), .second, .val (.int bd), .val (.long t), .second, .val (.ref b3), .val (.int fr), .val (.int to), .val (.int r)] [(.ref b3)]))
            refine Goes.st (fun t_ k_ => XS.iconst X9.here hx rfl (hb hby at_179) k_) ?_
            show Goes p e below s _ _ _ (T9.setTop (mkF m 180 #[.val (.long y0), .second, .val (.long y1), .second, .val (.long y2), .second, .val (.long y3), .second, .val (.int bd), .val (.long t), .second, .val (.ref b3), .val (.int fr), .val (.int to), .val (.int r)] [(.int (1 : Int32)), (.ref b3)]))
            refine Goes.st (fun t_ k_ => XS.iload X9.here hx rfl (hb hby at_180) rfl  k_) ?_
            show Goes p e below s _ _ _ (T9.setTop (mkF m 182 #[.val (.long y0), .second, .val (.long y1), .second, .val (.long y2), .second, .val (.long y3), .second, .val (.int bd), .val (.long t), .second, .val (.ref b3), .val (.int fr), .val (.int to), .val (.int r)] [(.int fr), (.int (1 : Int32)), (.ref b3)]))
            refine Goes.st (fun t_ k_ => XS.iload X9.here hx rfl (hb hby at_182) rfl  k_) ?_
            show Goes p e below s _ _ _ (T9.setTop (mkF m 184 #[.val (.long y0), .second, .val (.long y1), .second, .val (.long y2), .second, .val (.long y3), .second, .val (.int bd), .val (.long t), .second, .val (.ref b3), .val (.int fr), .val (.int to), .val (.int r)] [(.int r), (.int fr), (.int (1 : Int32)), (.ref b3)]))
            refine Goes.st (fun t_ k_ => XS.lload X9.here hx rfl (hb hby at_184) rfl  k_) ?_
            show Goes p e below s _ _ _ (T9.setTop (mkF m 186 #[.val (.long y0), .second, .val (.long y1), .second, .val (.long y2), .second, .val (.long y3), .second, .val (.int bd), .val (.long t), .second, .val (.ref b3), .val (.int fr), .val (.int to), .val (.int r)] [(.long t), (.int r), (.int fr), (.int (1 : Int32)), (.ref b3)]))
            obtain ⟨_, _, ⟨T10, L10, k10, n10⟩, -, X10, ⟨Lc10, hQ10, l10, y10, z10⟩, st10⟩ := Jvm.LawKit.callS X9 hx (y := (⟨"com/example/nestor/nestor/log/MaxTimestampsFirstAtLeastPinLaw", "below", "([JIIIJ)Z"⟩ : MethodName)) hown (mvT hZ (hw _ (List.mem_of_getElem? (i := 5) rfl))) (mvT hZ (hw _ (List.mem_of_getElem? (i := 6) rfl))) (mvT hZ (hw _ (List.mem_of_getElem? (i := 7) rfl))) (mvT hZ (hw _ (List.mem_of_getElem? (i := 8) rfl))) (by decide) (backOf (W := 0) (own_rmB l Z a0 hw [] b3 1 fr r t k3 x0 x1 x2 x3 h7 n0 Z0''''' V_b3 (by decide) (by decide) (fun h1 h2 => hr4 _ h1 h2)) hZ (hw _ (List.mem_of_getElem? (i := 8) rfl)) (hw _ (List.mem_of_getElem? (i := 7) rfl)) (by decide) (by decide)) (g := (mkF m 186 #[.val (.long y0), .second, .val (.long y1), .second, .val (.long y2), .second, .val (.long y3), .second, .val (.int bd), .val (.long t), .second, .val (.ref b3), .val (.int fr), .val (.int to), .val (.int r)] [(.long t), (.int r), (.int fr), (.int (1 : Int32)), (.ref b3)])) rfl (by rw [hml]; rfl) (argsL := [(.ref b3), (.int (1 : Int32)), (.int fr), (.int r), (.long t)]) (rest := []) (lenOf own_pd33 rfl) rfl (by show 2 * 0 + _ ≤ _; exact Nat.le_of_eq rfl) (hb hby at_186) (fun _ _ => ⟨rfl, EQ2, (by decide : 1 + 0 ≤ _), (by decide : 4 + 0 ≤ _)⟩)
            dsimp only [Pt.U, Pt.locs, Pt.cells, Pt.slots] at X10 l10 y10 z10 st10 hQ10
            subst l10 y10 z10
            obtain ⟨rfl, N10q, EQ3⟩ := hQ10
            have N10 := Fr.app N9 N10q
            refine Goes.st st10 ?_
            show Goes p e below s _ _ _ (T10.setTop (mkF m 189 #[.val (.long y0), .second, .val (.long y1), .second, .val (.long y2), .second, .val (.long y3), .second, .val (.int bd), .val (.long t), .second, .val (.ref b3), .val (.int fr), .val (.int to), .val (.int r)] [(.int (1 : Int32))]))
            refine Goes.st (fun t_ k_ => XS.ifNo X10.here hx rfl (hb hby at_189) rfl ((if0 _ _).trans (feq (by decide)).1) k_) ?_
            show Goes p e below s _ _ _ (T10.setTop (mkF m 192 #[.val (.long y0), .second, .val (.long y1), .second, .val (.long y2), .second, .val (.long y3), .second, .val (.int bd), .val (.long t), .second, .val (.ref b3), .val (.int fr), .val (.int to), .val (.int r)] []))
            refine Goes.st (fun t_ k_ => XS.aload X10.here hx rfl (hb hby at_192) rfl rfl k_) ?_
            show Goes p e below s _ _ _ (T10.setTop (mkF m 194 #[.val (.long y0), .second, .val (.long y1), .second, .val (.long y2), .second, .val (.long y3), .second, .val (.int bd), .val (.long t), .second, .val (.ref b3), .val (.int fr), .val (.int to), .val (.int r)] [(.ref b3)]))
            refine Goes.st (fun t_ k_ => XS.iconst X10.here hx rfl (hb hby at_194) k_) ?_
            show Goes p e below s _ _ _ (T10.setTop (mkF m 195 #[.val (.long y0), .second, .val (.long y1), .second, .val (.long y2), .second, .val (.long y3), .second, .val (.int bd), .val (.long t), .second, .val (.ref b3), .val (.int fr), .val (.int to), .val (.int r)] [(.int (2 : Int32)), (.ref b3)]))
            refine Goes.st (fun t_ k_ => XS.iload X10.here hx rfl (hb hby at_195) rfl  k_) ?_
            show Goes p e below s _ _ _ (T10.setTop (mkF m 197 #[.val (.long y0), .second, .val (.long y1), .second, .val (.long y2), .second, .val (.long y3), .second, .val (.int bd), .val (.long t), .second, .val (.ref b3), .val (.int fr), .val (.int to), .val (.int r)] [(.int fr), (.int (2 : Int32)), (.ref b3)]))
            refine Goes.st (fun t_ k_ => XS.iload X10.here hx rfl (hb hby at_197) rfl  k_) ?_
            show Goes p e below s _ _ _ (T10.setTop (mkF m 199 #[.val (.long y0), .second, .val (.long y1), .second, .val (.long y2), .second, .val (.long y3), .second, .val (.int bd), .val (.long t), .second, .val (.ref b3), .val (.int fr), .val (.int to), .val (.int r)] [(.int r), (.int fr), (.int (2 : Int32)), (.ref b3)]))
            refine Goes.st (fun t_ k_ => XS.lload X10.here hx rfl (hb hby at_199) rfl  k_) ?_
            show Goes p e below s _ _ _ (T10.setTop (mkF m 201 #[.val (.long y0), .second, .val (.long y1), .second, .val (.long y2), .second, .val (.long y3), .second, .val (.int bd), .val (.long t), .second, .val (.ref b3), .val (.int fr), .val (.int to), .val (.int r)] [(.long t), (.int r), (.int fr), (.int (2 : Int32)), (.ref b3)]))
            obtain ⟨_, _, ⟨T11, L11, k11, n11⟩, -, X11, ⟨Lc11, hQ11, l11, y11, z11⟩, st11⟩ := Jvm.LawKit.callS X10 hx (y := (⟨"com/example/nestor/nestor/log/MaxTimestampsFirstAtLeastPinLaw", "below", "([JIIIJ)Z"⟩ : MethodName)) hown (mvT hZ (hw _ (List.mem_of_getElem? (i := 5) rfl))) (mvT hZ (hw _ (List.mem_of_getElem? (i := 6) rfl))) (mvT hZ (hw _ (List.mem_of_getElem? (i := 7) rfl))) (mvT hZ (hw _ (List.mem_of_getElem? (i := 8) rfl))) (by decide) (backOf (W := 0) (own_rmB l Z a0 hw [] b3 2 fr r t k3 x0 x1 x2 x3 h7 n0 Z0''''' V_b3 (by decide) (by decide) (fun h1 h2 => hr4 _ h1 h2)) hZ (hw _ (List.mem_of_getElem? (i := 8) rfl)) (hw _ (List.mem_of_getElem? (i := 7) rfl)) (by decide) (by decide)) (g := (mkF m 201 #[.val (.long y0), .second, .val (.long y1), .second, .val (.long y2), .second, .val (.long y3), .second, .val (.int bd), .val (.long t), .second, .val (.ref b3), .val (.int fr), .val (.int to), .val (.int r)] [(.long t), (.int r), (.int fr), (.int (2 : Int32)), (.ref b3)])) rfl (by rw [hml]; rfl) (argsL := [(.ref b3), (.int (2 : Int32)), (.int fr), (.int r), (.long t)]) (rest := []) (lenOf own_pd33 rfl) rfl (by show 2 * 0 + _ ≤ _; exact Nat.le_of_eq rfl) (hb hby at_201) (fun _ _ => ⟨rfl, EQ3, (by decide : 1 + 0 ≤ _), (by decide : 4 + 0 ≤ _)⟩)
            dsimp only [Pt.U, Pt.locs, Pt.cells, Pt.slots] at X11 l11 y11 z11 st11 hQ11
            subst l11 y11 z11
            obtain ⟨rfl, N11q, EQ4⟩ := hQ11
            have N11 := Fr.app N10 N11q
            refine Goes.st st11 ?_
            show Goes p e below s _ _ _ (T11.setTop (mkF m 204 #[.val (.long y0), .second, .val (.long y1), .second, .val (.long y2), .second, .val (.long y3), .second, .val (.int bd), .val (.long t), .second, .val (.ref b3), .val (.int fr), .val (.int to), .val (.int r)] [(.int (1 : Int32))]))
            refine Goes.st (fun t_ k_ => XS.ifNo X11.here hx rfl (hb hby at_204) rfl ((if0 _ _).trans (feq (by decide)).1) k_) ?_
            show Goes p e below s _ _ _ (T11.setTop (mkF m 207 #[.val (.long y0), .second, .val (.long y1), .second, .val (.long y2), .second, .val (.long y3), .second, .val (.int bd), .val (.long t), .second, .val (.ref b3), .val (.int fr), .val (.int to), .val (.int r)] []))
            refine Goes.st (fun t_ k_ => XS.aload X11.here hx rfl (hb hby at_207) rfl rfl k_) ?_
            show Goes p e below s _ _ _ (T11.setTop (mkF m 209 #[.val (.long y0), .second, .val (.long y1), .second, .val (.long y2), .second, .val (.long y3), .second, .val (.int bd), .val (.long t), .second, .val (.ref b3), .val (.int fr), .val (.int to), .val (.int r)] [(.ref b3)]))
            refine Goes.st (fun t_ k_ => XS.iconst X11.here hx rfl (hb hby at_209) k_) ?_
            show Goes p e below s _ _ _ (T11.setTop (mkF m 210 #[.val (.long y0), .second, .val (.long y1), .second, .val (.long y2), .second, .val (.long y3), .second, .val (.int bd), .val (.long t), .second, .val (.ref b3), .val (.int fr), .val (.int to), .val (.int r)] [(.int (3 : Int32)), (.ref b3)]))
            refine Goes.st (fun t_ k_ => XS.iload X11.here hx rfl (hb hby at_210) rfl  k_) ?_
            show Goes p e below s _ _ _ (T11.setTop (mkF m 212 #[.val (.long y0), .second, .val (.long y1), .second, .val (.long y2), .second, .val (.long y3), .second, .val (.int bd), .val (.long t), .second, .val (.ref b3), .val (.int fr), .val (.int to), .val (.int r)] [(.int fr), (.int (3 : Int32)), (.ref b3)]))
            refine Goes.st (fun t_ k_ => XS.iload X11.here hx rfl (hb hby at_212) rfl  k_) ?_
            show Goes p e below s _ _ _ (T11.setTop (mkF m 214 #[.val (.long y0), .second, .val (.long y1), .second, .val (.long y2), .second, .val (.long y3), .second, .val (.int bd), .val (.long t), .second, .val (.ref b3), .val (.int fr), .val (.int to), .val (.int r)] [(.int r), (.int fr), (.int (3 : Int32)), (.ref b3)]))
            refine Goes.st (fun t_ k_ => XS.lload X11.here hx rfl (hb hby at_214) rfl  k_) ?_
            show Goes p e below s _ _ _ (T11.setTop (mkF m 216 #[.val (.long y0), .second, .val (.long y1), .second, .val (.long y2), .second, .val (.long y3), .second, .val (.int bd), .val (.long t), .second, .val (.ref b3), .val (.int fr), .val (.int to), .val (.int r)] [(.long t), (.int r), (.int fr), (.int (3 : Int32)), (.ref b3)]))
            obtain ⟨_, _, ⟨T12, L12, k12, n12⟩, -, X12, ⟨Lc12, hQ12, l12, y12, z12⟩, st12⟩ := Jvm.LawKit.callS X11 hx (y := (⟨"com/example/nestor/nestor/log/MaxTimestampsFirstAtLeastPinLaw", "below", "([JIIIJ)Z"⟩ : MethodName)) hown (mvT hZ (hw _ (List.mem_of_getElem? (i := 5) rfl))) (mvT hZ (hw _ (List.mem_of_getElem? (i := 6) rfl))) (mvT hZ (hw _ (List.mem_of_getElem? (i := 7) rfl))) (mvT hZ (hw _ (List.mem_of_getElem? (i := 8) rfl))) (by decide) (backOf (W := 0) (own_rmB l Z a0 hw [] b3 3 fr r t k3 x0 x1 x2 x3 h7 n0 Z0''''' V_b3 (by decide) (by decide) (fun h1 h2 => hr4 _ h1 h2)) hZ (hw _ (List.mem_of_getElem? (i := 8) rfl)) (hw _ (List.mem_of_getElem? (i := 7) rfl)) (by decide) (by decide)) (g := (mkF m 216 #[.val (.long y0), .second, .val (.long y1), .second, .val (.long y2), .second, .val (.long y3), .second, .val (.int bd), .val (.long t), .second, .val (.ref b3), .val (.int fr), .val (.int to), .val (.int r)] [(.long t), (.int r), (.int fr), (.int (3 : Int32)), (.ref b3)])) rfl (by rw [hml]; rfl) (argsL := [(.ref b3), (.int (3 : Int32)), (.int fr), (.int r), (.long t)]) (rest := []) (lenOf own_pd33 rfl) rfl (by show 2 * 0 + _ ≤ _; exact Nat.le_of_eq rfl) (hb hby at_216) (fun _ _ => ⟨rfl, EQ4, (by decide : 1 + 0 ≤ _), (by decide : 4 + 0 ≤ _)⟩)
            dsimp only [Pt.U, Pt.locs, Pt.cells, Pt.slots] at X12 l12 y12 z12 st12 hQ12
            subst l12 y12 z12
            obtain ⟨rfl, N12q, EQ5⟩ := hQ12
            have N12 := Fr.app N11 N12q
            refine Goes.st st12 ?_
            show Goes p e below s _ _ _ (T12.setTop (mkF m 219 #[.val (.long y0), .second, .val (.long y1), .second, .val (.long y2), .second, .val (.long y3), .second, .val (.int bd), .val (.long t), .second, .val (.ref b3), .val (.int fr), .val (.int to), .val (.int r)] [(.int (1 : Int32))]))
            refine Goes.st (fun t_ k_ => XS.ifNo X12.here hx rfl (hb hby at_219) rfl ((if0 _ _).trans (feq (by decide)).1) k_) ?_
            show Goes p e below s _ _ _ (T12.setTop (mkF m 222 #[.val (.long y0), .second, .val (.long y1), .second, .val (.long y2), .second, .val (.long y3), .second, .val (.int bd), .val (.long t), .second, .val (.ref b3), .val (.int fr), .val (.int to), .val (.int r)] []))
            refine Goes.st (fun t_ k_ => XS.iconst X12.here hx rfl (hb hby at_222) k_) ?_
            show Goes p e below s _ _ _ (T12.setTop (mkF m 223 #[.val (.long y0), .second, .val (.long y1), .second, .val (.long y2), .second, .val (.long y3), .second, .val (.int bd), .val (.long t), .second, .val (.ref b3), .val (.int fr), .val (.int to), .val (.int r)] [(.int (1 : Int32))]))
            refine Goes.st (fun t_ k_ => XS.goto X12.here hx rfl (pc0 := 223) (pc' := 227) rfl (hb hby at_223) (by decide) (by decide) k_) ?_
            show Goes p e below s _ _ _ (T12.setTop (mkF m 227 #[.val (.long y0), .second, .val (.long y1), .second, .val (.long y2), .second, .val (.long y3), .second, .val (.int bd), .val (.long t), .second, .val (.ref b3), .val (.int fr), .val (.int to), .val (.int r)] [(.int (1 : Int32))]))
            exact Goes.retN X12 hx (t := .boolean) hret hlk (by simp) (hb hby at_227) (by decide) (by decide) (⟨rfl, N12⟩)
          by_cases hrt : r < to
          · refine Goes.st (fun t_ k_ => XS.icmpNo X8.here hx rfl (hb hby at_146) rfl (tlt hrt).2.1 k_) ?_
            show Goes p e below s _ _ _ (T8.setTop (mkF m 149 #[.val (.long y0), .second, .val (.long y1), .second, .val (.long y2), .second, .val (.long y3), .second, .val (.int bd), .val (.long t), .second, .val (.ref b3), .val (.int fr), .val (.int to), .val (.int r)] []))
            refine Goes.st (fun t_ k_ => XS.aload X8.here hx rfl (hb hby at_149) rfl rfl k_) ?_
            show Goes p e below s _ _ _ (T8.setTop (mkF m 151 #[.val (.long y0), .second, .val (.long y1), .second, .val (.long y2), .second, .val (.long y3), .second, .val (.int bd), .val (.long t), .second, .val (.ref b3), .val (.int fr), .val (.int to), .val (.int r)] [(.ref b3)]))
            refine Goes.st (fun t_ k_ => XS.iload X8.here hx rfl (hb hby at_151) rfl  k_) ?_
            show Goes p e below s _ _ _ (T8.setTop (mkF m 153 #[.val (.long y0), .second, .val (.long y1), .second, .val (.long y2), .second, .val (.long y3), .second, .val (.int bd), .val (.long t), .second, .val (.ref b3), .val (.int fr), .val (.int to), .val (.int r)] [(.int r), (.ref b3)]))
            have VV13 := V_b3
            obtain ⟨cl13, Ar13, -, S13, M13, H13, -⟩ := VV13
            have hin13 := inb_of S13 (j := r) (own_in (n := 4) rfl (by omega) (by have := own_lt.mp hrt; omega))
            refine Goes.st (fun t_ k_ => X8.laload hx (j := r) (v := (.long (own_g x0 x1 x2 x3 r))) (by rw [EQ1]; exact Ar13.1) (State.isArrayOf_alike hZ.alike Ar13.2.1) Ar13.2.2 hin13 (Has.at H13 hin13 (own_gD (by omega) (by have := own_lt.mp hrt; omega))) (g := (mkF m 153 #[.val (.long y0), .second, .val (.long y1), .second, .val (.long y2), .second, .val (.long y3), .second, .val (.int bd), .val (.long t), .second, .val (.ref b3), .val (.int fr), .val (.int to), .val (.int r)] [(.int r), (.ref b3)])) rfl rfl (hb hby at_153) _ k_) ?_
            show Goes p e below s _ _ _ (T8.setTop (mkF m 154 #[.val (.long y0), .second, .val (.long y1), .second, .val (.long y2), .second, .val (.long y3), .second, .val (.int bd), .val (.long t), .second, .val (.ref b3), .val (.int fr), .val (.int to), .val (.int r)] [(.long (own_g x0 x1 x2 x3 r))]))
            refine Goes.st (fun t_ k_ => XS.lload X8.here hx rfl (hb hby at_154) rfl  k_) ?_
            show Goes p e below s _ _ _ (T8.setTop (mkF m 156 #[.val (.long y0), .second, .val (.long y1), .second, .val (.long y2), .second, .val (.long y3), .second, .val (.int bd), .val (.long t), .second, .val (.ref b3), .val (.int fr), .val (.int to), .val (.int r)] [(.long t), (.long (own_g x0 x1 x2 x3 r))]))
            refine Goes.st (fun t_ k_ => XS.lcmp X8.here hx rfl (hb hby at_156) rfl k_) ?_
            show Goes p e below s _ _ _ (T8.setTop (mkF m 157 #[.val (.long y0), .second, .val (.long y1), .second, .val (.long y2), .second, .val (.long y3), .second, .val (.int bd), .val (.long t), .second, .val (.ref b3), .val (.int fr), .val (.int to), .val (.int r)] [(.int (lcmpW (own_g x0 x1 x2 x3 r) t))]))
            refine Goes.st (fun t_ k_ => XS.ifYes X8.here hx rfl (pc0 := 157) (pc' := 162) rfl (hb hby at_157) rfl ((if0 _ _).trans (flt (mt (lw_lt _ _).mp (hr3 (own_lt.mp hrt)))).2.1) (by decide) (by decide) k_) ?_
            exact hjE
          · refine Goes.st (fun t_ k_ => XS.icmpYes X8.here hx rfl (pc0 := 146) (pc' := 162) rfl (hb hby at_146) rfl (flt hrt).2.1 (by decide) (by decide) k_) ?_
            exact hjE
        by_cases hb3 : (((bd.toUInt32 >>> ((11 : Int32) &&& 31).toUInt32).toInt32) &&& (1 : Int32)) = (0 : Int32)
        · refine Goes.st (fun t_ k_ => XS.ifYes X6.here hx rfl (pc0 := 76) (pc' := 84) rfl (hb hby at_76) rfl ((if0 _ _).trans (teq hb3).1) (by decide) (by decide) k_) ?_
          show Goes p e below s _ _ _ (T6.setTop (mkF m 84 #[.val (.long y0), .second, .val (.long y1), .second, .val (.long y2), .second, .val (.long y3), .second, .val (.int bd), .val (.long t), .second, .val (.ref b3), .unset, .unset, .unset] [(.int (3 : Int32)), (.ref b3)]))
          refine Goes.st (fun t_ k_ => XS.lload X6.here hx rfl (hb hby at_84) rfl  k_) ?_
          show Goes p e below s _ _ _ (T6.setTop (mkF m 86 #[.val (.long y0), .second, .val (.long y1), .second, .val (.long y2), .second, .val (.long y3), .second, .val (.int bd), .val (.long t), .second, .val (.ref b3), .unset, .unset, .unset] [(.long y3), (.int (3 : Int32)), (.ref b3)]))
          exact hj3 _
        · refine Goes.st (fun t_ k_ => XS.ifNo X6.here hx rfl (hb hby at_76) rfl ((if0 _ _).trans (feq hb3).1) k_) ?_
          show Goes p e below s _ _ _ (T6.setTop (mkF m 79 #[.val (.long y0), .second, .val (.long y1), .second, .val (.long y2), .second, .val (.long y3), .second, .val (.int bd), .val (.long t), .second, .val (.ref b3), .unset, .unset, .unset] [(.int (3 : Int32)), (.ref b3)]))
          refine Goes.st (fun t_ k_ => XS.lload X6.here hx rfl (hb hby at_79) rfl  k_) ?_
          show Goes p e below s _ _ _ (T6.setTop (mkF m 81 #[.val (.long y0), .second, .val (.long y1), .second, .val (.long y2), .second, .val (.long y3), .second, .val (.int bd), .val (.long t), .second, .val (.ref b3), .unset, .unset, .unset] [(.long t), (.int (3 : Int32)), (.ref b3)]))
          refine Goes.st (fun t_ k_ => XS.goto X6.here hx rfl (pc0 := 81) (pc' := 86) rfl (hb hby at_81) (by decide) (by decide) k_) ?_
          show Goes p e below s _ _ _ (T6.setTop (mkF m 86 #[.val (.long y0), .second, .val (.long y1), .second, .val (.long y2), .second, .val (.long y3), .second, .val (.int bd), .val (.long t), .second, .val (.ref b3), .unset, .unset, .unset] [(.long t), (.int (3 : Int32)), (.ref b3)]))
          exact hj3 _
      by_cases hb2 : (((bd.toUInt32 >>> ((10 : Int32) &&& 31).toUInt32).toInt32) &&& (1 : Int32)) = (0 : Int32)
      · refine Goes.st (fun t_ k_ => XS.ifYes X5.here hx rfl (pc0 := 55) (pc' := 63) rfl (hb hby at_55) rfl ((if0 _ _).trans (teq hb2).1) (by decide) (by decide) k_) ?_
        show Goes p e below s _ _ _ (T5.setTop (mkF m 63 #[.val (.long y0), .second, .val (.long y1), .second, .val (.long y2), .second, .val (.long y3), .second, .val (.int bd), .val (.long t), .second, .val (.ref b3), .unset, .unset, .unset] [(.int (2 : Int32)), (.ref b3)]))
        refine Goes.st (fun t_ k_ => XS.lload X5.here hx rfl (hb hby at_63) rfl  k_) ?_
        show Goes p e below s _ _ _ (T5.setTop (mkF m 65 #[.val (.long y0), .second, .val (.long y1), .second, .val (.long y2), .second, .val (.long y3), .second, .val (.int bd), .val (.long t), .second, .val (.ref b3), .unset, .unset, .unset] [(.long y2), (.int (2 : Int32)), (.ref b3)]))
        exact hj2 _
      · refine Goes.st (fun t_ k_ => XS.ifNo X5.here hx rfl (hb hby at_55) rfl ((if0 _ _).trans (feq hb2).1) k_) ?_
        show Goes p e below s _ _ _ (T5.setTop (mkF m 58 #[.val (.long y0), .second, .val (.long y1), .second, .val (.long y2), .second, .val (.long y3), .second, .val (.int bd), .val (.long t), .second, .val (.ref b3), .unset, .unset, .unset] [(.int (2 : Int32)), (.ref b3)]))
        refine Goes.st (fun t_ k_ => XS.lload X5.here hx rfl (hb hby at_58) rfl  k_) ?_
        show Goes p e below s _ _ _ (T5.setTop (mkF m 60 #[.val (.long y0), .second, .val (.long y1), .second, .val (.long y2), .second, .val (.long y3), .second, .val (.int bd), .val (.long t), .second, .val (.ref b3), .unset, .unset, .unset] [(.long t), (.int (2 : Int32)), (.ref b3)]))
        refine Goes.st (fun t_ k_ => XS.goto X5.here hx rfl (pc0 := 60) (pc' := 65) rfl (hb hby at_60) (by decide) (by decide) k_) ?_
        show Goes p e below s _ _ _ (T5.setTop (mkF m 65 #[.val (.long y0), .second, .val (.long y1), .second, .val (.long y2), .second, .val (.long y3), .second, .val (.int bd), .val (.long t), .second, .val (.ref b3), .unset, .unset, .unset] [(.long t), (.int (2 : Int32)), (.ref b3)]))
        exact hj2 _
    by_cases hb1 : (((bd.toUInt32 >>> ((9 : Int32) &&& 31).toUInt32).toInt32) &&& (1 : Int32)) = (0 : Int32)
    · refine Goes.st (fun t_ k_ => XS.ifYes X4.here hx rfl (pc0 := 35) (pc' := 43) rfl (hb hby at_35) rfl ((if0 _ _).trans (teq hb1).1) (by decide) (by decide) k_) ?_
      show Goes p e below s _ _ _ (T4.setTop (mkF m 43 #[.val (.long y0), .second, .val (.long y1), .second, .val (.long y2), .second, .val (.long y3), .second, .val (.int bd), .val (.long t), .second, .val (.ref b3), .unset, .unset, .unset] [(.int (1 : Int32)), (.ref b3)]))
      refine Goes.st (fun t_ k_ => XS.lloadN X4.here hx rfl (hb hby at_43) rfl  k_) ?_
      show Goes p e below s _ _ _ (T4.setTop (mkF m 44 #[.val (.long y0), .second, .val (.long y1), .second, .val (.long y2), .second, .val (.long y3), .second, .val (.int bd), .val (.long t), .second, .val (.ref b3), .unset, .unset, .unset] [(.long y1), (.int (1 : Int32)), (.ref b3)]))
      exact hj1 _
    · refine Goes.st (fun t_ k_ => XS.ifNo X4.here hx rfl (hb hby at_35) rfl ((if0 _ _).trans (feq hb1).1) k_) ?_
      show Goes p e below s _ _ _ (T4.setTop (mkF m 38 #[.val (.long y0), .second, .val (.long y1), .second, .val (.long y2), .second, .val (.long y3), .second, .val (.int bd), .val (.long t), .second, .val (.ref b3), .unset, .unset, .unset] [(.int (1 : Int32)), (.ref b3)]))
      refine Goes.st (fun t_ k_ => XS.lload X4.here hx rfl (hb hby at_38) rfl  k_) ?_
      show Goes p e below s _ _ _ (T4.setTop (mkF m 40 #[.val (.long y0), .second, .val (.long y1), .second, .val (.long y2), .second, .val (.long y3), .second, .val (.int bd), .val (.long t), .second, .val (.ref b3), .unset, .unset, .unset] [(.long t), (.int (1 : Int32)), (.ref b3)]))
      refine Goes.st (fun t_ k_ => XS.goto X4.here hx rfl (pc0 := 40) (pc' := 44) rfl (hb hby at_40) (by decide) (by decide) k_) ?_
      show Goes p e below s _ _ _ (T4.setTop (mkF m 44 #[.val (.long y0), .second, .val (.long y1), .second, .val (.long y2), .second, .val (.long y3), .second, .val (.int bd), .val (.long t), .second, .val (.ref b3), .unset, .unset, .unset] [(.long t), (.int (1 : Int32)), (.ref b3)]))
      exact hj1 _
  by_cases hb0 : (((bd.toUInt32 >>> ((8 : Int32) &&& 31).toUInt32).toInt32) &&& (1 : Int32)) = (0 : Int32)
  · refine Goes.st (fun t_ k_ => XS.ifYes X3.here hx rfl (pc0 := 15) (pc' := 23) rfl (hb hby at_15) rfl ((if0 _ _).trans (teq hb0).1) (by decide) (by decide) k_) ?_
    show Goes p e below s _ _ _ (T3.setTop (mkF m 23 #[.val (.long y0), .second, .val (.long y1), .second, .val (.long y2), .second, .val (.long y3), .second, .val (.int bd), .val (.long t), .second, .val (.ref b3), .unset, .unset, .unset] [(.int (0 : Int32)), (.ref b3)]))
    refine Goes.st (fun t_ k_ => XS.lloadN X3.here hx rfl (hb hby at_23) rfl  k_) ?_
    show Goes p e below s _ _ _ (T3.setTop (mkF m 24 #[.val (.long y0), .second, .val (.long y1), .second, .val (.long y2), .second, .val (.long y3), .second, .val (.int bd), .val (.long t), .second, .val (.ref b3), .unset, .unset, .unset] [(.long y0), (.int (0 : Int32)), (.ref b3)]))
    exact hj0 _
  · refine Goes.st (fun t_ k_ => XS.ifNo X3.here hx rfl (hb hby at_15) rfl ((if0 _ _).trans (feq hb0).1) k_) ?_
    show Goes p e below s _ _ _ (T3.setTop (mkF m 18 #[.val (.long y0), .second, .val (.long y1), .second, .val (.long y2), .second, .val (.long y3), .second, .val (.int bd), .val (.long t), .second, .val (.ref b3), .unset, .unset, .unset] [(.int (0 : Int32)), (.ref b3)]))
    refine Goes.st (fun t_ k_ => XS.lload X3.here hx rfl (hb hby at_18) rfl  k_) ?_
    show Goes p e below s _ _ _ (T3.setTop (mkF m 20 #[.val (.long y0), .second, .val (.long y1), .second, .val (.long y2), .second, .val (.long y3), .second, .val (.int bd), .val (.long t), .second, .val (.ref b3), .unset, .unset, .unset] [(.long t), (.int (0 : Int32)), (.ref b3)]))
    refine Goes.st (fun t_ k_ => XS.goto X3.here hx rfl (pc0 := 20) (pc' := 24) rfl (hb hby at_20) (by decide) (by decide) k_) ?_
    show Goes p e below s _ _ _ (T3.setTop (mkF m 24 #[.val (.long y0), .second, .val (.long y1), .second, .val (.long y2), .second, .val (.long y3), .second, .val (.int bd), .val (.long t), .second, .val (.ref b3), .unset, .unset, .unset] [(.long t), (.int (0 : Int32)), (.ref b3)]))
    exact hj0 _
set_option maxRecDepth 65536 in
set_option maxHeartbeats 40000000 in
theorem comes_1 {Post : Tables → Env → Array Value → State → Outcome → State → Prop} (hpost : ∀ tb e args s v u, (limb_1_1.after args s (.returned v) u = true ∧ limb_1_2.after args s (.returned v) u = true ∧ True) → FrameEnd s (.returned v) u (Jvm.fieldLocs frame_1_writes args s ++ Jvm.arrayLocs frame_1_arrays args s ++ Jvm.staticLocs frame_1_statics s) 16 128 → Post tb e args s (.returned v) u) :
    ArmFor flags0 classFile x code maxLocals ret World_1 tables_1 room_1 Calls_1 rest_1 Pre_1 Post := by
  intro l hfl _ _ p e ha hc hk s m args below hf hA hF happ hP
  obtain ⟨hcalls, hrest, hpre⟩ := hP
  obtain ⟨-, -, -, hnamed, -, -, -, hat⟩ := (Spec.applies_iff hf).mp happ
  obtain ⟨hg, hn⟩ := and_e (Cond.before_iff.mp (show (Jvm.Cond.and given_1 narrow_1).before args s = true from hpre))
  obtain ⟨g0, gr0⟩ := and_e hg
  obtain ⟨ga0, gr1⟩ := and_e gr0
  obtain ⟨ga1, gr2⟩ := and_e gr1
  obtain ⟨ga2, gr3⟩ := and_e gr2
  obtain ⟨ga3, gr4⟩ := and_e gr3
  obtain ⟨ga4, gr5⟩ := and_e gr4
  have ga5 := gr5
  obtain ⟨w0, w1, w2, w3, w4, w5, rfl⟩ : ∃ w0 w1 w2 w3 w4 w5 : Value, args = #[w0, w1, w2, w3, w4, w5] := by
    have hs : args.size = 6 := by simpa [Cond.value, given_1] using g0
    obtain ⟨L⟩ := args
    match L, hs with
    | [w0, w1, w2, w3, w4, w5], _ => exact ⟨w0, w1, w2, w3, w4, w5, rfl⟩
  have hw := fun d (hd : d ∈ tables_1) => atoms_spec (ws := Jvm.Cond.code x code maxLocals ret :: tables_1) hat d (List.mem_cons_of_mem _ hd)
  have hfit : Fit s := fun {y c} hc i hi => by
    obtain ⟨ha, rfl⟩ := Array.getElem?_eq_some_iff.mp hc
    have q := List.all_eq_true.mp ((Array.all_eq_true_iff_forall_mem.mp hF) _ (Array.getElem_mem ha)) i (List.mem_range.mpr hi)
    simpa [Array.getElem?_eq_getElem hi] using q
  obtain ⟨i0, ei0⟩ := isL_v ga0
  obtain rfl : w0 = (.long i0) := Option.some.inj ei0
  obtain ⟨i1, ei1⟩ := isL_v ga1
  obtain rfl : w1 = (.long i1) := Option.some.inj ei1
  obtain ⟨i2, ei2⟩ := isL_v ga2
  obtain rfl : w2 = (.long i2) := Option.some.inj ei2
  obtain ⟨i3, ei3⟩ := isL_v ga3
  obtain rfl : w3 = (.long i3) := Option.some.inj ei3
  obtain ⟨i4, ei4⟩ := is_v ga4
  obtain rfl : w4 = (.int i4) := Option.some.inj ei4
  obtain ⟨i5, ei5⟩ := isL_v ga5
  obtain rfl : w5 = (.long i5) := Option.some.inj ei5
  obtain ⟨n, o, h1, h2, h3, _, L, rfl, ⟨rfl, N⟩, hq⟩ := own_rm0 l s _ hw tables_1 i0 i1 i2 i3 i4 i5  s.heap s.heap.size (Nat.le_refl _)  p e ha hc hk s m _ below hf ((Spec.applies_iff_loose hf).mp happ).1 ⟨rfl, State.Warmed39.refl s, rfl⟩ trivial
  refine ⟨n, _, h1, h2, h3, hpost _ _ _ _ _ _ ⟨Cond.after_iff.mpr rfl, Cond.after_iff.mpr (eq_i res_at (Term.int_eval (1)) rfl), trivial⟩ ⟨hq.1, hq.2.1, (hq.2.2.sift fun y hy => Or.inr (N y hy)).mono (by decide) (by decide)⟩⟩
theorem main_1_1 : Claimed_1_1 := comes_1 fun _ _ _ _ _ _ h hF => ⟨h.1, hF⟩
theorem main_1_2 : Claimed_1_2 := comes_1 fun _ _ _ _ _ _ h hF => ⟨h.2.1, hF⟩
end Jvm.Pilot.@@N@@
namespace Jvm.Pilot.@@N@@
open Jvm Jvm.ClassFile Sem Op Lib Jvm.Free Jvm.Stand Jvm.Pilot.@@N@@.Jvm.D
/-! MADE BY PROGRAM (witnessworld.py) out of the Statement's table words and the real class files: 11 classes; the members and pool entries that the words name. The judged class is class 1, her method 1. -/
namespace start1
open Jvm.ClassFile
def u (s : String) : CpInfo := .utf8 (stringToUtf16 s)
/-- a pool by its gaps: so many unusable entries, then the entry; so many at the end -/
def gap : Nat → List CpInfo → List CpInfo
  | 0, r => r
  | n + 1, r => .unusable :: gap n r
def poolList (es : List (Nat × CpInfo)) (last : Nat) : List CpInfo := es.foldr (fun e r => gap e.1 (e.2 :: r)) (gap last [])
def pool (es : List (Nat × CpInfo)) (last : Nat) : Array CpInfo := ⟨poolList es last⟩
def fileOf (pool : Array CpInfo) (this : Nat) (attrs : Array Attribute := #[]) (ms : Array MethodInfo := #[]) (fl : Nat := 33) (sup : Nat := 0) (ifs : Array Nat := #[]) (fds : Array FieldInfo := #[]) : ClassFile where
  minorVersion := 0
  majorVersion := 65
  constantPool := pool
  accessFlags := fl
  thisClass := this
  superClass := sup
  interfaces := ifs
  fields := fds
  methods := ms
  attributes := attrs
def plain (name : String) (sup : Option ClassId) : Class where
  name := name
  kind := .ordinary
  loader := none
  accessFlags := 33
  super := sup
  interfaces := #[]
  cf := none
  fields := #[]
  methods := #[]
  instanceTypes := #[]
  staticTypes := #[]
  resolved := #[]
  callSites := []
  init := .initialized
  statics := none
  mirror := none

def pool0 : Array CpInfo := pool [(5, u "<init>"), (0, u "()V"), (1, .class_ 10), (1, u "java/lang/Object")] 113

def k0m0 : Method := { name := "<init>", desc := "()V", sig := { parameters := [], returnType := none }, accessFlags := 1, code := none }
/-- java/lang/Object -/
def k0 : Class := { plain "java/lang/Object" none with
  accessFlags := 33
  interfaces := #[]
  cf := some (fileOf pool0 8 #[] #[{ accessFlags := 1, nameIndex := 5, descriptorIndex := 6, attributes := #[] }] 33 0 #[] #[])
  fields := #[]
  methods := #[k0m0]
  instanceTypes := #[]
  staticTypes := #[]
  resolved := Array.replicate 124 none
  statics := none }

def pool1 : Array CpInfo := pool [(2, .class_ 4), (1, u "java/lang/Object"), (0, u "<init>"), (0, u "()V"), (0, .methodref 8 9), (0, .class_ 10), (0, .nameAndType 11 12), (0, u "com/example/nestor/nestor/log/MaxTimestamps"), (0, u "firstAtLeast"), (0, u "([JIIJ)I"), (0, .methodref 14 15), (0, .class_ 16), (0, .nameAndType 17 18), (0, u "com/example/nestor/nestor/log/MaxTimestampsFirstAtLeastPinLaw"), (0, u "below"), (0, u "([JIIIJ)Z"), (2, u "law"), (0, u "(JJJJIJ)Z")] 5

def k1m0 : Method := { name := "<init>", desc := "()V", sig := { parameters := [], returnType := none }, accessFlags := 1, code := none }
def k1c1 : Code := { maxStack := 6, maxLocals := 15, code := code, exceptionTable := #[], attributes := #[] }
def k1m1 : Method := { name := "law", desc := "(JJJJIJ)Z", sig := { parameters := [.long, .long, .long, .long, .int, .long], returnType := some .boolean }, accessFlags := 9, code := some k1c1 }
def k1c2 : Code := { maxStack := 4, maxLocals := 6, code := method_3_code, exceptionTable := #[], attributes := #[] }
def k1m2 : Method := { name := "below", desc := "([JIIIJ)Z", sig := { parameters := [(.array .long), .int, .int, .int, .long], returnType := some .boolean }, accessFlags := 10, code := some k1c2 }
/-- com/example/nestor/nestor/log/MaxTimestampsFirstAtLeastPinLaw -/
def k1 : Class := { plain "com/example/nestor/nestor/log/MaxTimestampsFirstAtLeastPinLaw" (some 0) with
  accessFlags := 49
  interfaces := #[]
  cf := some (fileOf pool1 14 #[] #[{ accessFlags := 1, nameIndex := 5, descriptorIndex := 6, attributes := #[] }, { accessFlags := 9, nameIndex := 21, descriptorIndex := 22, attributes := #[] }, { accessFlags := 10, nameIndex := 17, descriptorIndex := 18, attributes := #[] }] 49 2 #[] #[])
  fields := #[]
  methods := #[k1m0, k1m1, k1m2]
  instanceTypes := #[]
  staticTypes := #[]
  resolved := Array.replicate 28 none
  statics := none }

def pool2 : Array CpInfo := pool [(2, .class_ 4), (1, u "java/lang/Object"), (0, u "<init>"), (0, u "()V"), (2, .class_ 10), (0, u "com/example/nestor/nestor/log/MaxTimestamps"), (2, u "levels"), (0, u "[[J"), (2, u "count"), (0, u "I"), (30, u "firstAtLeast"), (0, u "([JIIJ)I"), (0, u "FANOUT"), (2, u "INITIAL_CAPACITY")] 13

def k2m0 : Method := { name := "<init>", desc := "()V", sig := { parameters := [], returnType := none }, accessFlags := 0, code := none }
def k2c1 : Code := { maxStack := 4, maxLocals := 6, code := prog_10_method_6_code, exceptionTable := #[], attributes := #[] }
def k2m1 : Method := { name := "firstAtLeast", desc := "([JIIJ)I", sig := { parameters := [(.array .long), .int, .int, .long], returnType := some .int }, accessFlags := 8, code := some k2c1 }
/-- com/example/nestor/nestor/log/MaxTimestamps -/
def k2 : Class := { plain "com/example/nestor/nestor/log/MaxTimestamps" (some 0) with
  accessFlags := 32
  interfaces := #[]
  cf := some (fileOf pool2 9 #[] #[{ accessFlags := 0, nameIndex := 5, descriptorIndex := 6, attributes := #[] }, { accessFlags := 8, nameIndex := 49, descriptorIndex := 50, attributes := #[] }] 32 2 #[] #[{ accessFlags := 26, nameIndex := 51, descriptorIndex := 18, attributes := #[] }, { accessFlags := 26, nameIndex := 54, descriptorIndex := 18, attributes := #[] }, { accessFlags := 2, nameIndex := 13, descriptorIndex := 14, attributes := #[] }, { accessFlags := 2, nameIndex := 17, descriptorIndex := 18, attributes := #[] }])
  fields := #[{ name := "FANOUT", type := .int, accessFlags := 26, slot := 0, constantValue := 0 }, { name := "INITIAL_CAPACITY", type := .int, accessFlags := 26, slot := 1, constantValue := 0 }, { name := "levels", type := (.array (.array .long)), accessFlags := 2, slot := 0, constantValue := 0 }, { name := "count", type := .int, accessFlags := 2, slot := 1, constantValue := 0 }]
  methods := #[k2m0, k2m1]
  instanceTypes := #[(.array (.array .long)), .int]
  staticTypes := #[.int, .int]
  resolved := Array.replicate 68 none
  statics := none }

def pool3 : Array CpInfo := pool [(1, u "java/lang/Cloneable"), (0, .class_ 1), (0, u "java/lang/Object"), (0, .class_ 3)] 3

/-- java/lang/Cloneable -/
def k3 : Class := { plain "java/lang/Cloneable" (some 0) with
  accessFlags := 1537
  interfaces := #[]
  cf := some (fileOf pool3 2 #[] #[] 1537 4 #[] #[])
  fields := #[]
  methods := #[]
  instanceTypes := #[]
  staticTypes := #[]
  resolved := Array.replicate 8 none
  statics := none }

def pool4 : Array CpInfo := pool [(1, u "java/io/Serializable"), (0, .class_ 1), (0, u "java/lang/Object"), (0, .class_ 3)] 3

/-- java/io/Serializable -/
def k4 : Class := { plain "java/io/Serializable" (some 0) with
  accessFlags := 1537
  interfaces := #[]
  cf := some (fileOf pool4 2 #[] #[] 1537 4 #[] #[])
  fields := #[]
  methods := #[]
  instanceTypes := #[]
  staticTypes := #[]
  resolved := Array.replicate 8 none
  statics := none }

/-- the primitive byte -/
def k5 : Class := { plain "byte" none with kind := .primitive 'B', accessFlags := 0x411 }
/-- [B -/
def k6 : Class := { plain "[B" (some 0) with kind := .array 5 .byte, interfaces := #[3, 4], accessFlags := 1041 }

/-- the primitive int -/
def k7 : Class := { plain "int" none with kind := .primitive 'I', accessFlags := 0x411 }
/-- [I -/
def k8 : Class := { plain "[I" (some 0) with kind := .array 7 .int, interfaces := #[3, 4], accessFlags := 1041 }

/-- the primitive long -/
def k9 : Class := { plain "long" none with kind := .primitive 'J', accessFlags := 0x411 }
/-- [J -/
def k10 : Class := { plain "[J" (some 0) with kind := .array 9 .long, interfaces := #[3, 4], accessFlags := 1041 }

def heap : Heap := #[]
def classes : Array Class := #[k0, k1, k2, k3, k4, k5, k6, k7, k8, k9, k10]
def interned : List (Array UInt16 × Addr) := []
def slotsUsed : Nat := 0
def theMethod : MethodId := ⟨1, 1⟩
def args0 : Array Value := #[.long 5, .long 7, .long 5, .long 9, .int 25, .long 6]
def aboutOver (below : List Frame) : State where
  vm := { classes := classes, interned := interned.toArray }
  heap := heap
  slotsUsed := slotsUsed
  threads := #[{ frames := .invoking theMethod args0 :: below }]
def below0 : List Frame := [.native { method := ⟨0, 0⟩, args := #[] }]
def about1 : State := aboutOver below0
def p0 : Program := .bare "" "" ""
def e0 : Env := launch0.env 0 0 0
theorem w_frames : about1.frames = Frame.invoking theMethod args0 :: below0 := rfl
set_option maxRecDepth 65536 in
theorem w_args : argsFit about1.vm theMethod args0 = true := by decide +kernel
set_option maxRecDepth 65536 in
theorem w_heap : heapFits about1 = true := by decide +kernel
set_option maxRecDepth 65536 in
theorem w_runnable : about1.curStatus? = some .runnable := by decide +kernel
set_option maxRecDepth 65536 in
theorem w_alone : about1.alone = true := by decide +kernel
set_option maxRecDepth 65536 in
theorem w_named : about1.methodNamed? x = some theMethod := by decide +kernel
set_option maxRecDepth 65536 in
theorem w_hears : about1.hears theMethod below0 = true := by decide +kernel
set_option maxRecDepth 65536 in
theorem w_ripe : about1.ripe theMethod args0 below0 = true := by decide +kernel
theorem w_running : about1.status = .running := rfl
set_option maxRecDepth 65536 in
theorem w_room : about1.hasRoom e0.platform room_1 = true :=
  launch0.hasRoom_least _ room_1 (by decide +kernel) (by decide +kernel) (by decide +kernel) (by decide +kernel) (by decide +kernel) (by decide +kernel)
theorem allAtoms_all (ts : List Jvm.Cond) (a : Array Jvm.Value) (st : Jvm.State) : (allAtoms ts).before a st = ts.all (fun c => c.before a st) := by
  induction ts with
  | nil => rfl
  | cons c t ih =>
    show (Jvm.Cond.and c (allAtoms t)).before a st = _
    rw [Jvm.Cond.before_and, ih, List.all_cons]
def words1 : List Jvm.Cond := Jvm.Cond.code x code maxLocals ret :: tables_1
/-- a 'code' word, met by the world's own term for the bytes: nothing is compared byte by byte -/
theorem code_word {y : MethodName} {bytes : ByteArray} {mx : Nat} {rt : Option FieldType} {a : Array Value} {s : State} {m : MethodId} {meth : Method} {c : Code} (h1 : s.methodNamed? y = some m) (h2 : s.vm.method? m = some meth) (h3 : meth.code = some c) (h4 : c.code = bytes)
    (h5 : (c.maxLocals == mx && c.exceptionTable.isEmpty && decide (c.maxStack ≤ mostOperands) && decide (meth.sig.returnType = rt) && !meth.locks && decide (parseMethodDescriptor y.desc = some meth.sig)) = true) : (Jvm.Cond.code y bytes mx rt).before a s = true := by
  simp only [Bool.and_eq_true, beq_iff_eq, Bool.not_eq_true', decide_eq_true_eq] at h5
  obtain ⟨⟨⟨⟨⟨g1, g2⟩, g3⟩, g4⟩, g5⟩, g6⟩ := h5
  simp [Cond.before, Cond.holds, Cond.value, h1, h2, h3, h4, g1, g2, g3, g4, g5, g6]
def isCode : Jvm.Cond → Bool
  | .code _ _ _ _ => true
  | _ => false
theorem all_split {L : List Jvm.Cond} {P : Jvm.Cond → Bool} (h1 : L.all (fun c => isCode c || P c) = true) (h2 : ∀ c ∈ L.filter isCode, P c = true) : L.all P = true := by
  refine List.all_eq_true.mpr fun c hc => ?_
  have h := List.all_eq_true.mp h1 c hc
  rcases Bool.eq_false_or_eq_true (isCode c) with hi | hi
  · exact h2 c (List.mem_filter.mpr ⟨hc, hi⟩)
  · simpa [hi] using h
set_option maxRecDepth 65536 in
theorem w_c0 : (Jvm.Cond.code x code maxLocals ret).before args0 about1 = true := code_word (m := ⟨1, 1⟩) (meth := k1m1) (c := k1c1) (by decide +kernel) rfl rfl rfl (by decide +kernel)
set_option maxRecDepth 65536 in
theorem w_c1 : (Jvm.Cond.code ({ cls := "com/example/nestor/nestor/log/MaxTimestamps", name := "firstAtLeast", desc := "([JIIJ)I" } : Jvm.MethodName) prog_10_method_6_code (6 : Nat) (Option.some Jvm.ClassFile.FieldType.int)).before args0 about1 = true := code_word (m := ⟨2, 1⟩) (meth := k2m1) (c := k2c1) (by decide +kernel) rfl rfl rfl (by decide +kernel)
set_option maxRecDepth 65536 in
theorem w_c2 : (Jvm.Cond.code ({ cls := "com/example/nestor/nestor/log/MaxTimestampsFirstAtLeastPinLaw", name := "below", desc := "([JIIIJ)Z" } : Jvm.MethodName) method_3_code (6 : Nat) (Option.some Jvm.ClassFile.FieldType.boolean)).before args0 about1 = true := code_word (m := ⟨1, 2⟩) (meth := k1m2) (c := k1c2) (by decide +kernel) rfl rfl rfl (by decide +kernel)
def codes1 : List Jvm.Cond := [Jvm.Cond.code x code maxLocals ret, Jvm.Cond.code ({ cls := "com/example/nestor/nestor/log/MaxTimestamps", name := "firstAtLeast", desc := "([JIIJ)I" } : Jvm.MethodName) prog_10_method_6_code (6 : Nat) (Option.some Jvm.ClassFile.FieldType.int), Jvm.Cond.code ({ cls := "com/example/nestor/nestor/log/MaxTimestampsFirstAtLeastPinLaw", name := "below", desc := "([JIIIJ)Z" } : Jvm.MethodName) method_3_code (6 : Nat) (Option.some Jvm.ClassFile.FieldType.boolean)]
set_option maxRecDepth 65536 in
theorem codes_eq : words1.filter isCode = codes1 := rfl
theorem w_codes : ∀ c ∈ words1.filter isCode, c.before args0 about1 = true := by
  rw [codes_eq]
  intro c hc
  simp only [codes1, List.mem_cons, List.not_mem_nil, or_false] at hc
  rcases hc with rfl | rfl | rfl
  · exact w_c0
  · exact w_c1
  · exact w_c2
set_option maxRecDepth 65536 in
theorem w_t1 : words1.all (fun c => isCode c || c.before args0 about1) = true := by decide +kernel
theorem w_tables : (allAtoms (Jvm.Cond.code x code maxLocals ret :: tables_1)).before args0 about1 = true := by
  rw [allAtoms_all]
  show words1.all (fun c => c.before args0 about1) = true
  refine all_split ?_ w_codes
  rw [w_t1]
set_option maxRecDepth 65536 in
theorem w_case : (Jvm.Cond.and given_1 narrow_1).before args0 about1 = true := by decide +kernel
theorem w_applies : (headSpec (Jvm.Cond.code x code maxLocals ret :: tables_1) room_1).applies x e0.platform about1 = true :=
  (Spec.applies_iff w_frames).mpr ⟨w_running, w_runnable, w_alone, w_named, w_hears, w_ripe, w_room, w_tables⟩
theorem atStart : AtStart classFile x code maxLocals ret World_1 tables_1 room_1 Calls_1 rest_1 Pre_1 launch0 p0 e0 about1 theMethod args0 below0 :=
  ⟨lists_1, trivial, launch0.admits_env _ _ _, launch0.least_env, fairChoices_fair.cas, fairChoices_fair.clock, w_frames, w_args, w_heap, w_applies, trivial, trivial, w_case⟩
end start1
theorem witness_1 : WitnessClaimed_1 := ⟨start1.p0, start1.e0, start1.about1, start1.theMethod, start1.args0, start1.below0, start1.atStart⟩
end Jvm.Pilot.@@N@@
