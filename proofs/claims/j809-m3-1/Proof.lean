import JvmDerived
import JvmDerived.Pilot.@@N@@Statement
import JvmDerived.Pilot.@@N@@Code
set_option linter.unusedVariables false
set_option linter.unusedSimpArgs false
@@BLOCK:NumsL.lean.txt@@
namespace Jvm.RoadKit
open Sem ClassFile Op Lib Jvm.Stand Jvm.Free Jvm.LawKit
section New
variable {p : Program} {l : Launch} {e : Env} {R : Room} {s : State} {m : MethodId} {args : Array Value} {below : List Frame} {meth : Method} {c : Code} {T : State} {locs : List Loc} {cells slots : Nat}
theorem retI (X : Stand p l e R s m args below meth c T locs cells slots) (hx : p.tables.exec = Jvm.exec) {pc : Nat} {Ls : Array Slot} {z : Int32} {rest : List Value} (hret : meth.sig.returnType = some .int) (hd : decode c.code pc = .ok (.ireturn, 1)) {fs : List Frame}
    (hl : ∀ (f : JFrame) (acts : List Action), f.method = m → f.locked = none → f.entered = [] → (doReturn e (T.setTop f) acts (some (.int z))).1 = T.setFrames fs) : Steps p.tables e below (T.setTop (mkF m pc Ls (.int z :: rest))) (T.setFrames fs) := by
  have hm' : T.vm.method? m = some meth := X.method'
  have hn : narrow .int (.int z) = .int z := rfl
  show Steps p.tables e below (T.setTop { method := m, pc := pc, locals := Ls, stack := _ :: rest, locked := none }) _
  jvm_step X.here [X.here.top, hx, hd, hm', hret, hn]
  first | (intro acts; rw [hl _ acts rfl rfl rfl]) | rw [hl _ _ rfl rfl rfl]
  exact Steps.refl _
end New
end Jvm.RoadKit
namespace Jvm.Pilot.@@N@@
open Jvm Jvm.ClassFile Sem Op Lib Jvm.Free Jvm.Stand Jvm.LawKit Jvm.RoadKit Bundle Jvm.Pilot.@@N@@.Jvm.D
theorem own_ge {Z : State} {n0 : Nat} {h : Heap} {b : Addr} (X : Old Z n0 h) (q : h.size ≤ b) : n0 ≤ b := Nat.le_trans (X.1 ▸ X.2.1) q
theorem own_irr (x : Int32) : ¬ (x < x) := by rw [Int32.lt_iff_toInt_lt]; exact Int.lt_irrefl _
theorem own_fld {s : State} {args : Array Value} {t : Term} {C n d : String} {k : Int32} {w : Addr} (ht : t.eval args s none [] s = some (.ref w)) (h : (Jvm.Cond.eq (Term.field t C n d) (Term.int k)).value args s none s [] = some true) : Fld s s.heap w C n d (.int k) := by
  have q := eqv_i (Term.int_eval (k)) h
  rw [fld_at ht] at q
  exact Fld.start q
abbrev vI (x : Int32) : Slot := .val (.int x)
abbrev vR (x : Addr) : Slot := .val (.ref x)
theorem own_fldN {s : State} {args : Array Value} {t : Term} {C n d : String} {w : Addr} (ht : t.eval args s none [] s = some (.ref w)) (h : (Jvm.Cond.eq (Term.field t C n d) Term.null).value args s none s [] = some true) : Fld s s.heap w C n d .null := by
  have q := null_v h
  rw [fld_at ht] at q
  exact Fld.start q
theorem own_fldR {s : State} {args : Array Value} {t : Term} {C n d : String} {w x : Addr} (ht : t.eval args s none [] s = some (.ref w)) (h : (Term.field t C n d).eval args s none [] s = some (.ref x)) : Fld s s.heap w C n d (.ref x) := by
  rw [fld_at ht] at h
  exact Fld.start h
theorem own_and255 (x : Int32) : ¬ (255 : Int32) < (x &&& 255) := by
  have e : (x &&& 255).toInt = x.toInt % 2 ^ 8 := Jvm.Kit.i32_mask x 255 (k := 8) (by decide) (by decide)
  rw [Int32.lt_iff_toInt_lt, e]
  have : (255 : Int32).toInt = 255 := rfl
  omega
theorem own_ch (x : Int32) : ¬ (255 : Int32) < (nar .char ((x &&& 255).toUInt32.toUInt16.toUInt32.toInt32)) := by
  rw [i2c_mask]
  show ¬ (255 : Int32) < ((x &&& 255).toUInt32.toUInt16.toUInt32.toInt32)
  rw [i2c_mask]
  exact own_and255 x
theorem own_ch1 (x : Int32) : ¬ (255 : Int32) < ((x &&& 255).toUInt32.toUInt16.toUInt32.toInt32) := by
  rw [i2c_mask]
  exact own_and255 x
def own_Mir (Z : State) (C : String) (m : Addr) : Prop := ∃ (c : ClassId) (k : Class), Z.vm.findClass C = some c ∧ Z.vm.classes[c]? = some k ∧ k.mirror = some m
section OwnK
variable {p : Program} {l : Launch} {e : Env} {R : Room} {s : State} {m : MethodId} {args : Array Value} {below : List Frame} {meth : Method} {c : Code} {T : State} {locs : List Loc} {cells slots : Nat} {Z : State} {h : Heap} {a : Addr} {C : String}
theorem own_ldcM (X : Stand p l e R s m args below meth c T locs cells slots) (hx : p.tables.exec = Jvm.exec) (hZ : Z.Warmed39 s.vm) {a0 : Array Value} {own : String} {index : Nat} (hown : s.vm.findClass own = some m.cls) (w : (Cond.classLink own index C).before a0 Z = true) (eT : T.heap = h) {mr : Addr} (M : own_Mir Z C mr)
    {g : JFrame} (hg : g.method = m) (hd : decode c.code g.pc = .ok (.ldc index, 2)) :
    ∃ T', Stand p l e R s m args below meth c T' locs cells slots ∧ T'.heap = h ∧ ∀ target, Steps p.tables e below (T'.setTop { g with pc := g.pc + 2, stack := .ref mr :: g.stack }) target → Steps p.tables e below (T.setTop g) target := by
  obtain ⟨cc, kc, m1, m2, m3⟩ := M
  obtain ⟨k', q, ek⟩ := hZ.alike.2.2 _ _ m2
  have ev : (Term.mirror C).eval args s none [] s = some (.ref mr) := by
    have f1 : s.vm.findClass C = some cc := by rw [hZ.alike.findClass]; exact m1
    have f2 : k'.mirror = some mr := by rw [ek]; exact m3
    simp [Term.eval, f1, q, f2]
  obtain ⟨vm', X', st⟩ := X.ldcMirror hx hown (mvT hZ w) ev hg hd
  exact ⟨_, X', eT, st⟩
theorem own_gcls (X : Stand p l e R s m args below meth c T locs cells slots) (hx : p.tables.exec = Jvm.exec) (hZ : Z.Warmed39 s.vm) {a0 : Array Value} {own : String} {index : Nat} (hown : s.vm.findClass own = some m.cls)
    (w1 : (Cond.methodLink own index ⟨"java/lang/Object", "getClass", "()Ljava/lang/Class;"⟩).before a0 Z = true) (w2 : (Cond.declares ⟨"java/lang/Object", "getClass", "()Ljava/lang/Class;"⟩).before a0 Z = true) (w3 : (Cond.noSuperclass "java/lang/Object").before a0 Z = true) (w4 : (Cond.selects C ⟨"java/lang/Object", "getClass", "()Ljava/lang/Class;"⟩ ⟨"java/lang/Object", "getClass", "()Ljava/lang/Class;"⟩).before a0 Z = true)
    (w5 : (Cond.instanceMethod ⟨"java/lang/Object", "getClass", "()Ljava/lang/Class;"⟩).before a0 Z = true) (w6 : (Cond.native ⟨"java/lang/Object", "getClass", "()Ljava/lang/Class;"⟩).before a0 Z = true) (eT : T.heap = h) (E : Exa Z h a C) {mr : Addr} (M : own_Mir Z C mr)
    {g : JFrame} (hg : g.method = m) (hsize : g.locals.size = c.maxLocals) {rest : List Value} (hs : g.stack = .ref a :: rest) (hd : decode c.code g.pc = .ok (.invokevirtual index, 3)) (hf : 1 ≤ R.frames) {W : Nat} (hW : 2 * g.monitorRoom + (rest.map fun v => v.category).sum ≤ W) (hl : W + (nativeFrameWords "java/lang/Object" "getClass" 1 + 11) ≤ R.locals) :
    ∃ T', Stand p l e R s m args below meth c T' locs cells slots ∧ T'.heap = h ∧ ∀ target, Steps p.tables e below (T'.setTop { g with pc := g.pc + 3, stack := .ref mr :: rest }) target → Steps p.tables e below (T.setTop g) target := by
  obtain ⟨cB, kB, i1, i2, i3⟩ := isOf hZ eT E
  obtain ⟨cc, kc, m1, m2, m3⟩ := M
  rw [hZ.alike.findClass] at i1
  cases i1.symm.trans m1
  obtain ⟨k', q, ek⟩ := hZ.alike.2.2 _ _ m2
  obtain ⟨vm', X', st⟩ := X.getClassOf hx hown (mvT hZ w1) (mvT hZ w2) (nf_top (args := #[]) (mvT hZ w3)) (mvT hZ w4) (mvT hZ w5) (mvT hZ w6) (by rw [hZ.alike.findClass]; exact m1) i3 q (by rw [ek]; exact m3) hg hsize hs hd hf (by omega)
  exact ⟨_, X', eT, st⟩
theorem own_NSroot {a0 : Array Value} {O K : String} {n : Nat} (w : (Cond.noSuperclass O).before a0 Z = true) (wk : (Cond.instantiable K n).before a0 Z = true) (hn : O ≠ K) : NS Z O K := by
  obtain ⟨c, k, h1, h2, h3, -, -⟩ := Cond.noSuperclass_spec w
  obtain ⟨t, -, g1, -⟩ := Cond.instantiable_spec wk
  have ne := ids_ne h1 g1 hn
  refine ⟨c, t, h1, g1, fun fuel => ?_⟩
  cases fuel with
  | zero => rfl
  | succ f => simp [Vm.isSubclassAux, ne, h2, h3]
theorem own_NSno {a0 : Array Value} {C S K : String} {n : Nat} (w : (Cond.superclass C S).before a0 Z = true) (wk : (Cond.instantiable K n).before a0 Z = true) (nn : NS Z C K) (hn : C ≠ K) : ∃ c t, Z.vm.findClass C = some c ∧ Z.vm.findClass K = some t ∧ Z.vm.assignable c t = false := by
  obtain ⟨c, t, h0, g0, n3⟩ := nn
  obtain ⟨p, k, kp, h1, h2, h3, h4, h5, -, h7⟩ := Cond.superclass_spec h0 w
  obtain ⟨t', k', g1, g2, g3, g4, -⟩ := Cond.instantiable_spec wk
  cases g0.symm.trans g1
  have ne := ids_ne h0 g0 hn
  have g5 : k'.isInterface = false := by simpa using (Bool.or_eq_false_iff.mp g4).1
  refine ⟨c, t, h0, g0, ?_⟩
  show Z.vm.assignableAux (255 + 1) c t = false
  simp [Vm.assignableAux, ne, h2, g2, h5, g3, g5, Vm.isSubclass, n3]
end OwnK
theorem own_mono {l : Launch} {y : MethodName} {S : Spec} {P : Array Value → State → Prop} {K : Program → Env → List Frame → State → Array Value → Prop} {Q Q' : Array Value → State → Outcome → State → Prop} (h : MetFree l y S P K Q) (hq : ∀ a s o t, Q a s o t → Q' a s o t) : MetFree l y S P K Q' := fun p e a b c s m args below hf hA hP hK => by
  obtain ⟨n, o, h1, h2, h3, h4⟩ := h p e a b c s m args below hf hA hP hK
  exact ⟨n, o, h1, h2, h3, hq _ _ _ _ h4⟩
theorem own_strs_in : ∀ w ∈ Bundle.stringAtoms, w ∈ tables_1 := by decide +kernel
theorem own_strs {A0 : Array Value} {Z : State} (hw : ∀ d ∈ tables_1, d.before A0 Z = true) : ∀ a ∈ Bundle.stringAtoms, a.before A0 Z = true := fun a h => hw a (own_strs_in a h)
theorem d1_0 : decode method_2_code 0 = .ok (.iload_n 0, 1) := by decide +kernel
theorem d1_1 : decode method_2_code 1 = .ok (.iconst 3, 1) := by decide +kernel
theorem d1_2 : decode method_2_code 2 = .ok (.iand, 1) := by decide +kernel
theorem d1_3 : decode method_2_code 3 = .ok (.istore_n 1, 1) := by decide +kernel
theorem d1_4 : decode method_2_code 4 = .ok (.iload_n 1, 1) := by decide +kernel
theorem d1_5 : decode method_2_code 5 = .ok (.ifCond .ne 7, 3) := by decide +kernel
theorem d1_8 : decode method_2_code 8 = .ok (.getstatic 7, 3) := by decide +kernel
theorem d1_11 : decode method_2_code 11 = .ok (.areturn, 1) := by decide +kernel
theorem pn_com_example_deposita_deposita_formats_MappedIsRefusedPinLaw : plainName "com/example/deposita/deposita/formats/MappedIsRefusedPinLaw" = true := by first | (simp [plainName, overriddenIn]; done) | decide +kernel
theorem ef_1 (m : MethodId) (x0 : Int32) : entryFrame m #[(.int x0)] 2 = mkF m 0 #[vI x0, .unset] [] := by first | (simp [entryFrame, mkF, argsToLocals, Value.category]; done) | rfl
def Q1k0 (Z : State) (p0 : Int32) (w_NO_DOI : Addr) (h0 : Heap) (n0 : Nat) (v : Option Value) (h : Heap) (L : List Loc) : Prop := v = some (.ref w_NO_DOI) ∧ Fr n0 L ∧ h = h0
set_option maxRecDepth 65536 in
set_option maxHeartbeats 40000000 in
theorem rm1k0 (l : Launch) (Z : State) (A0 : Array Value) (hw : ∀ d ∈ tables_1, d.before A0 Z = true) (ws : List Jvm.Cond) (p0 : Int32) (w_NO_DOI : Addr) (h0 : Heap) (n0 : Nat) (OLD : Old Z n0 h0) (c_1 : (p0 &&& (3 : Int32)) = (0 : Int32)) (f_2 : Sta Z Z.heap "com/example/deposita/deposita/core/Rule" "NO_DOI" "Lcom/example/deposita/deposita/core/Rule;" (.ref w_NO_DOI)) :
    MetFree l (⟨"com/example/deposita/deposita/formats/MappedIsRefusedPinLaw", "pick", "(I)Lcom/example/deposita/deposita/core/Rule;"⟩ : MethodName) (head1 (Jvm.Cond.code (⟨"com/example/deposita/deposita/formats/MappedIsRefusedPinLaw", "pick", "(I)Lcom/example/deposita/deposita/core/Rule;"⟩ : MethodName) method_2_code 2 (some (.object "com/example/deposita/deposita/core/Rule")) :: ws) ({ frames := 0, cells := 0, slots := 0, locals := 0 } : Room)) (fun a U => a = #[(.int p0)] ∧ Z.Warmed39 U.vm ∧ U.heap = h0) (fun _ _ _ _ _ => True) (fun _ U o U' => ∃ v L, o = .returned v ∧ Q1k0 Z p0 w_NO_DOI h0 n0 v U'.heap L ∧ FrameEnd U o U' L ({ frames := 0, cells := 0, slots := 0, locals := 0 } : Room).cells ({ frames := 0, cells := 0, slots := 0, locals := 0 } : Room).slots) := by
  refine MetFree.of_bodySF (plainFor_of_name pn_com_example_deposita_deposita_formats_MappedIsRefusedPinLaw) hisR ?_
  intro p e s m args below meth c s₁ Bd hml0 hP hK
  obtain ⟨rfl, hZ, hh⟩ := hP
  have hx := Bd.exec
  have hby := Bd.bytes
  have hml : c.maxLocals = 2 := hml0
  have hown : s.vm.findClass "com/example/deposita/deposita/formats/MappedIsRefusedPinLaw" = some m.cls := findClass_of_methodNamed Bd.named
  have hnm := (name_of_methodNamed Bd.named Bd.method).1
  have X0 : Stand p l e ({ frames := 0, cells := 0, slots := 0, locals := 0 } : Room) s m #[(.int p0)] below meth c s₁ [] 0 0 := Stand.of_body Bd
  have e0 : s₁.heap = h0 := by rw [← hh, Bd.state]; rfl
  have N0 := Fr.nil n0
  have pre0 : ∀ t, Steps p.tables e below (s₁.setTop (mkF m 0 #[vI p0, .unset] [])) t → Steps p.tables e below (s₁.setTop (entryFrame m #[(.int p0)] 2)) t := fun t k => castTop (ef_1 m p0) k
  obtain ⟨T3, X3, e3, st3⟩ := getS2 X0 hx hZ hown (host := "") (Or.inl (hw _ (List.mem_of_getElem? (i := 235) rfl))) Via.refl e0 (f_2.ext OLD.2) (g := (mkF m 8 #[vI p0, vI (0 : Int32)] [])) rfl (hb hby d1_8)
  obtain ⟨fs, hr, hrun, hended, hW, hsame⟩ := X3.leave (v := some (.ref w_NO_DOI)) (fun h => by rw [Bd.returns] at h; cases h)
  refine ⟨_, _, pre0 _ ?_, hrun, hended, _, _, rfl, ?_, ⟨_, rfl⟩, hW, hsame.mono (by decide) (by decide)⟩
  · show Steps p.tables e below (s₁.setTop (mkF m 0 #[vI p0, .unset] [])) _
    refine XS.iloadN X0.here hx rfl (hb hby d1_0) rfl ?_
    refine XS.iconst X0.here hx rfl (hb hby d1_1) ?_
    show Steps p.tables e below (s₁.setTop (mkF m 2 #[vI p0, .unset] [(.int (3 : Int32)), (.int p0)])) _
    refine XS.iand X0.here hx rfl (hb hby d1_2) rfl ?_
    show Steps p.tables e below (s₁.setTop (mkF m 3 #[vI p0, .unset] [(.int (p0 &&& (3 : Int32)))])) _
    rw [c_1]
    show Steps p.tables e below (s₁.setTop (mkF m 3 #[vI p0, .unset] [(.int (0 : Int32))])) _
    refine XS.istoreN X0.here hx rfl (hb hby d1_3) rfl (l' := #[vI p0, vI (0 : Int32)]) rfl ?_
    refine XS.iloadN X0.here hx rfl (hb hby d1_4) rfl ?_
    show Steps p.tables e below (s₁.setTop (mkF m 5 #[vI p0, vI (0 : Int32)] [(.int (0 : Int32))])) _
    refine XS.ifNo X0.here hx rfl (hb hby d1_5) rfl ((if0 _ _).trans (teq (by decide : (0 : Int32) = (0 : Int32))).2) ?_
    refine st3 _ ?_
    show Steps p.tables e below (T3.setTop (mkF m 11 #[vI p0, vI (0 : Int32)] [(.ref w_NO_DOI)])) _
    jvm_step X3.here [X3.here.top, hx, (hb hby d1_11), X3.method', Bd.returns, Value.isRef, FieldType.isReference]
    first | (intro acts; rw [hr _ acts rfl rfl rfl]) | rw [hr _ _ rfl rfl rfl]
    exact Steps.refl _
  · show Q1k0 Z p0 w_NO_DOI h0 n0 _ T3.heap _
    rw [e3]
    exact ⟨rfl, N0, rfl⟩
theorem d1_12 : decode method_2_code 12 = .ok (.iload_n 1, 1) := by decide +kernel
theorem d1_13 : decode method_2_code 13 = .ok (.iconst 1, 1) := by decide +kernel
theorem d1_14 : decode method_2_code 14 = .ok (.if_icmp .ne 7, 3) := by decide +kernel
theorem d1_17 : decode method_2_code 17 = .ok (.getstatic 13, 3) := by decide +kernel
theorem d1_20 : decode method_2_code 20 = .ok (.areturn, 1) := by decide +kernel
def Q1k1 (Z : State) (p0 : Int32) (w_ISBN_CHECK_DIGIT : Addr) (h0 : Heap) (n0 : Nat) (v : Option Value) (h : Heap) (L : List Loc) : Prop := v = some (.ref w_ISBN_CHECK_DIGIT) ∧ Fr n0 L ∧ h = h0
set_option maxRecDepth 65536 in
set_option maxHeartbeats 40000000 in
theorem rm1k1 (l : Launch) (Z : State) (A0 : Array Value) (hw : ∀ d ∈ tables_1, d.before A0 Z = true) (ws : List Jvm.Cond) (p0 : Int32) (w_ISBN_CHECK_DIGIT : Addr) (h0 : Heap) (n0 : Nat) (OLD : Old Z n0 h0) (c_1 : (p0 &&& (3 : Int32)) = (1 : Int32)) (f_2 : Sta Z Z.heap "com/example/deposita/deposita/core/Rule" "ISBN_CHECK_DIGIT" "Lcom/example/deposita/deposita/core/Rule;" (.ref w_ISBN_CHECK_DIGIT)) :
    MetFree l (⟨"com/example/deposita/deposita/formats/MappedIsRefusedPinLaw", "pick", "(I)Lcom/example/deposita/deposita/core/Rule;"⟩ : MethodName) (head1 (Jvm.Cond.code (⟨"com/example/deposita/deposita/formats/MappedIsRefusedPinLaw", "pick", "(I)Lcom/example/deposita/deposita/core/Rule;"⟩ : MethodName) method_2_code 2 (some (.object "com/example/deposita/deposita/core/Rule")) :: ws) ({ frames := 0, cells := 0, slots := 0, locals := 0 } : Room)) (fun a U => a = #[(.int p0)] ∧ Z.Warmed39 U.vm ∧ U.heap = h0) (fun _ _ _ _ _ => True) (fun _ U o U' => ∃ v L, o = .returned v ∧ Q1k1 Z p0 w_ISBN_CHECK_DIGIT h0 n0 v U'.heap L ∧ FrameEnd U o U' L ({ frames := 0, cells := 0, slots := 0, locals := 0 } : Room).cells ({ frames := 0, cells := 0, slots := 0, locals := 0 } : Room).slots) := by
  refine MetFree.of_bodySF (plainFor_of_name pn_com_example_deposita_deposita_formats_MappedIsRefusedPinLaw) hisR ?_
  intro p e s m args below meth c s₁ Bd hml0 hP hK
  obtain ⟨rfl, hZ, hh⟩ := hP
  have hx := Bd.exec
  have hby := Bd.bytes
  have hml : c.maxLocals = 2 := hml0
  have hown : s.vm.findClass "com/example/deposita/deposita/formats/MappedIsRefusedPinLaw" = some m.cls := findClass_of_methodNamed Bd.named
  have hnm := (name_of_methodNamed Bd.named Bd.method).1
  have X0 : Stand p l e ({ frames := 0, cells := 0, slots := 0, locals := 0 } : Room) s m #[(.int p0)] below meth c s₁ [] 0 0 := Stand.of_body Bd
  have e0 : s₁.heap = h0 := by rw [← hh, Bd.state]; rfl
  have N0 := Fr.nil n0
  have pre0 : ∀ t, Steps p.tables e below (s₁.setTop (mkF m 0 #[vI p0, .unset] [])) t → Steps p.tables e below (s₁.setTop (entryFrame m #[(.int p0)] 2)) t := fun t k => castTop (ef_1 m p0) k
  obtain ⟨T3, X3, e3, st3⟩ := getS2 X0 hx hZ hown (host := "") (Or.inl (hw _ (List.mem_of_getElem? (i := 260) rfl))) Via.refl e0 (f_2.ext OLD.2) (g := (mkF m 17 #[vI p0, vI (1 : Int32)] [])) rfl (hb hby d1_17)
  obtain ⟨fs, hr, hrun, hended, hW, hsame⟩ := X3.leave (v := some (.ref w_ISBN_CHECK_DIGIT)) (fun h => by rw [Bd.returns] at h; cases h)
  refine ⟨_, _, pre0 _ ?_, hrun, hended, _, _, rfl, ?_, ⟨_, rfl⟩, hW, hsame.mono (by decide) (by decide)⟩
  · show Steps p.tables e below (s₁.setTop (mkF m 0 #[vI p0, .unset] [])) _
    refine XS.iloadN X0.here hx rfl (hb hby d1_0) rfl ?_
    refine XS.iconst X0.here hx rfl (hb hby d1_1) ?_
    show Steps p.tables e below (s₁.setTop (mkF m 2 #[vI p0, .unset] [(.int (3 : Int32)), (.int p0)])) _
    refine XS.iand X0.here hx rfl (hb hby d1_2) rfl ?_
    show Steps p.tables e below (s₁.setTop (mkF m 3 #[vI p0, .unset] [(.int (p0 &&& (3 : Int32)))])) _
    rw [c_1]
    show Steps p.tables e below (s₁.setTop (mkF m 3 #[vI p0, .unset] [(.int (1 : Int32))])) _
    refine XS.istoreN X0.here hx rfl (hb hby d1_3) rfl (l' := #[vI p0, vI (1 : Int32)]) rfl ?_
    refine XS.iloadN X0.here hx rfl (hb hby d1_4) rfl ?_
    show Steps p.tables e below (s₁.setTop (mkF m 5 #[vI p0, vI (1 : Int32)] [(.int (1 : Int32))])) _
    refine XS.ifYes X0.here hx rfl (pc0 := 5) (pc' := 12) rfl (hb hby d1_5) rfl ((if0 _ _).trans (feq (by decide : ¬ ((1 : Int32) = (0 : Int32)))).2) (by decide) (by decide) ?_
    refine XS.iloadN X0.here hx rfl (hb hby d1_12) rfl ?_
    show Steps p.tables e below (s₁.setTop (mkF m 13 #[vI p0, vI (1 : Int32)] [(.int (1 : Int32))])) _
    refine XS.iconst X0.here hx rfl (hb hby d1_13) ?_
    refine XS.icmpNo X0.here hx rfl (hb hby d1_14) rfl (teq (by decide : (1 : Int32) = (1 : Int32))).2 ?_
    show Steps p.tables e below (s₁.setTop (mkF m 17 #[vI p0, vI (1 : Int32)] [])) _
    refine st3 _ ?_
    show Steps p.tables e below (T3.setTop (mkF m 20 #[vI p0, vI (1 : Int32)] [(.ref w_ISBN_CHECK_DIGIT)])) _
    jvm_step X3.here [X3.here.top, hx, (hb hby d1_20), X3.method', Bd.returns, Value.isRef, FieldType.isReference]
    first | (intro acts; rw [hr _ acts rfl rfl rfl]) | rw [hr _ _ rfl rfl rfl]
    exact Steps.refl _
  · show Q1k1 Z p0 w_ISBN_CHECK_DIGIT h0 n0 _ T3.heap _
    rw [e3]
    exact ⟨rfl, N0, rfl⟩
theorem d1_21 : decode method_2_code 21 = .ok (.iload_n 1, 1) := by decide +kernel
theorem d1_22 : decode method_2_code 22 = .ok (.iconst 2, 1) := by decide +kernel
theorem d1_23 : decode method_2_code 23 = .ok (.if_icmp .ne 7, 3) := by decide +kernel
theorem d1_26 : decode method_2_code 26 = .ok (.getstatic 16, 3) := by decide +kernel
theorem d1_29 : decode method_2_code 29 = .ok (.areturn, 1) := by decide +kernel
def Q1k2 (Z : State) (p0 : Int32) (w_DOI_SYNTAX : Addr) (h0 : Heap) (n0 : Nat) (v : Option Value) (h : Heap) (L : List Loc) : Prop := v = some (.ref w_DOI_SYNTAX) ∧ Fr n0 L ∧ h = h0
set_option maxRecDepth 65536 in
set_option maxHeartbeats 40000000 in
theorem rm1k2 (l : Launch) (Z : State) (A0 : Array Value) (hw : ∀ d ∈ tables_1, d.before A0 Z = true) (ws : List Jvm.Cond) (p0 : Int32) (w_DOI_SYNTAX : Addr) (h0 : Heap) (n0 : Nat) (OLD : Old Z n0 h0) (c_1 : (p0 &&& (3 : Int32)) = (2 : Int32)) (f_2 : Sta Z Z.heap "com/example/deposita/deposita/core/Rule" "DOI_SYNTAX" "Lcom/example/deposita/deposita/core/Rule;" (.ref w_DOI_SYNTAX)) :
    MetFree l (⟨"com/example/deposita/deposita/formats/MappedIsRefusedPinLaw", "pick", "(I)Lcom/example/deposita/deposita/core/Rule;"⟩ : MethodName) (head1 (Jvm.Cond.code (⟨"com/example/deposita/deposita/formats/MappedIsRefusedPinLaw", "pick", "(I)Lcom/example/deposita/deposita/core/Rule;"⟩ : MethodName) method_2_code 2 (some (.object "com/example/deposita/deposita/core/Rule")) :: ws) ({ frames := 0, cells := 0, slots := 0, locals := 0 } : Room)) (fun a U => a = #[(.int p0)] ∧ Z.Warmed39 U.vm ∧ U.heap = h0) (fun _ _ _ _ _ => True) (fun _ U o U' => ∃ v L, o = .returned v ∧ Q1k2 Z p0 w_DOI_SYNTAX h0 n0 v U'.heap L ∧ FrameEnd U o U' L ({ frames := 0, cells := 0, slots := 0, locals := 0 } : Room).cells ({ frames := 0, cells := 0, slots := 0, locals := 0 } : Room).slots) := by
  refine MetFree.of_bodySF (plainFor_of_name pn_com_example_deposita_deposita_formats_MappedIsRefusedPinLaw) hisR ?_
  intro p e s m args below meth c s₁ Bd hml0 hP hK
  obtain ⟨rfl, hZ, hh⟩ := hP
  have hx := Bd.exec
  have hby := Bd.bytes
  have hml : c.maxLocals = 2 := hml0
  have hown : s.vm.findClass "com/example/deposita/deposita/formats/MappedIsRefusedPinLaw" = some m.cls := findClass_of_methodNamed Bd.named
  have hnm := (name_of_methodNamed Bd.named Bd.method).1
  have X0 : Stand p l e ({ frames := 0, cells := 0, slots := 0, locals := 0 } : Room) s m #[(.int p0)] below meth c s₁ [] 0 0 := Stand.of_body Bd
  have e0 : s₁.heap = h0 := by rw [← hh, Bd.state]; rfl
  have N0 := Fr.nil n0
  have pre0 : ∀ t, Steps p.tables e below (s₁.setTop (mkF m 0 #[vI p0, .unset] [])) t → Steps p.tables e below (s₁.setTop (entryFrame m #[(.int p0)] 2)) t := fun t k => castTop (ef_1 m p0) k
  obtain ⟨T3, X3, e3, st3⟩ := getS2 X0 hx hZ hown (host := "") (Or.inl (hw _ (List.mem_of_getElem? (i := 7) rfl))) Via.refl e0 (f_2.ext OLD.2) (g := (mkF m 26 #[vI p0, vI (2 : Int32)] [])) rfl (hb hby d1_26)
  obtain ⟨fs, hr, hrun, hended, hW, hsame⟩ := X3.leave (v := some (.ref w_DOI_SYNTAX)) (fun h => by rw [Bd.returns] at h; cases h)
  refine ⟨_, _, pre0 _ ?_, hrun, hended, _, _, rfl, ?_, ⟨_, rfl⟩, hW, hsame.mono (by decide) (by decide)⟩
  · show Steps p.tables e below (s₁.setTop (mkF m 0 #[vI p0, .unset] [])) _
    refine XS.iloadN X0.here hx rfl (hb hby d1_0) rfl ?_
    refine XS.iconst X0.here hx rfl (hb hby d1_1) ?_
    show Steps p.tables e below (s₁.setTop (mkF m 2 #[vI p0, .unset] [(.int (3 : Int32)), (.int p0)])) _
    refine XS.iand X0.here hx rfl (hb hby d1_2) rfl ?_
    show Steps p.tables e below (s₁.setTop (mkF m 3 #[vI p0, .unset] [(.int (p0 &&& (3 : Int32)))])) _
    rw [c_1]
    show Steps p.tables e below (s₁.setTop (mkF m 3 #[vI p0, .unset] [(.int (2 : Int32))])) _
    refine XS.istoreN X0.here hx rfl (hb hby d1_3) rfl (l' := #[vI p0, vI (2 : Int32)]) rfl ?_
    refine XS.iloadN X0.here hx rfl (hb hby d1_4) rfl ?_
    show Steps p.tables e below (s₁.setTop (mkF m 5 #[vI p0, vI (2 : Int32)] [(.int (2 : Int32))])) _
    refine XS.ifYes X0.here hx rfl (pc0 := 5) (pc' := 12) rfl (hb hby d1_5) rfl ((if0 _ _).trans (feq (by decide : ¬ ((2 : Int32) = (0 : Int32)))).2) (by decide) (by decide) ?_
    refine XS.iloadN X0.here hx rfl (hb hby d1_12) rfl ?_
    show Steps p.tables e below (s₁.setTop (mkF m 13 #[vI p0, vI (2 : Int32)] [(.int (2 : Int32))])) _
    refine XS.iconst X0.here hx rfl (hb hby d1_13) ?_
    refine XS.icmpYes X0.here hx rfl (pc0 := 14) (pc' := 21) rfl (hb hby d1_14) rfl (feq (by decide : ¬ ((2 : Int32) = (1 : Int32)))).2 (by decide) (by decide) ?_
    show Steps p.tables e below (s₁.setTop (mkF m 21 #[vI p0, vI (2 : Int32)] [])) _
    refine XS.iloadN X0.here hx rfl (hb hby d1_21) rfl ?_
    refine XS.iconst X0.here hx rfl (hb hby d1_22) ?_
    show Steps p.tables e below (s₁.setTop (mkF m 23 #[vI p0, vI (2 : Int32)] [(.int (2 : Int32)), (.int (2 : Int32))])) _
    refine XS.icmpNo X0.here hx rfl (hb hby d1_23) rfl (teq (by decide : (2 : Int32) = (2 : Int32))).2 ?_
    refine st3 _ ?_
    show Steps p.tables e below (T3.setTop (mkF m 29 #[vI p0, vI (2 : Int32)] [(.ref w_DOI_SYNTAX)])) _
    jvm_step X3.here [X3.here.top, hx, (hb hby d1_29), X3.method', Bd.returns, Value.isRef, FieldType.isReference]
    first | (intro acts; rw [hr _ acts rfl rfl rfl]) | rw [hr _ _ rfl rfl rfl]
    exact Steps.refl _
  · show Q1k2 Z p0 w_DOI_SYNTAX h0 n0 _ T3.heap _
    rw [e3]
    exact ⟨rfl, N0, rfl⟩
theorem d1_30 : decode method_2_code 30 = .ok (.getstatic 19, 3) := by decide +kernel
theorem d1_33 : decode method_2_code 33 = .ok (.areturn, 1) := by decide +kernel
def Q1k3 (Z : State) (p0 : Int32) (w_CODE : Addr) (h0 : Heap) (n0 : Nat) (v : Option Value) (h : Heap) (L : List Loc) : Prop := v = some (.ref w_CODE) ∧ Fr n0 L ∧ h = h0
set_option maxRecDepth 65536 in
set_option maxHeartbeats 40000000 in
theorem rm1k3 (l : Launch) (Z : State) (A0 : Array Value) (hw : ∀ d ∈ tables_1, d.before A0 Z = true) (ws : List Jvm.Cond) (p0 : Int32) (w_CODE : Addr) (h0 : Heap) (n0 : Nat) (OLD : Old Z n0 h0) (c_1 : (p0 &&& (3 : Int32)) = (3 : Int32)) (f_2 : Sta Z Z.heap "com/example/deposita/deposita/core/Rule" "CODE" "Lcom/example/deposita/deposita/core/Rule;" (.ref w_CODE)) :
    MetFree l (⟨"com/example/deposita/deposita/formats/MappedIsRefusedPinLaw", "pick", "(I)Lcom/example/deposita/deposita/core/Rule;"⟩ : MethodName) (head1 (Jvm.Cond.code (⟨"com/example/deposita/deposita/formats/MappedIsRefusedPinLaw", "pick", "(I)Lcom/example/deposita/deposita/core/Rule;"⟩ : MethodName) method_2_code 2 (some (.object "com/example/deposita/deposita/core/Rule")) :: ws) ({ frames := 0, cells := 0, slots := 0, locals := 0 } : Room)) (fun a U => a = #[(.int p0)] ∧ Z.Warmed39 U.vm ∧ U.heap = h0) (fun _ _ _ _ _ => True) (fun _ U o U' => ∃ v L, o = .returned v ∧ Q1k3 Z p0 w_CODE h0 n0 v U'.heap L ∧ FrameEnd U o U' L ({ frames := 0, cells := 0, slots := 0, locals := 0 } : Room).cells ({ frames := 0, cells := 0, slots := 0, locals := 0 } : Room).slots) := by
  refine MetFree.of_bodySF (plainFor_of_name pn_com_example_deposita_deposita_formats_MappedIsRefusedPinLaw) hisR ?_
  intro p e s m args below meth c s₁ Bd hml0 hP hK
  obtain ⟨rfl, hZ, hh⟩ := hP
  have hx := Bd.exec
  have hby := Bd.bytes
  have hml : c.maxLocals = 2 := hml0
  have hown : s.vm.findClass "com/example/deposita/deposita/formats/MappedIsRefusedPinLaw" = some m.cls := findClass_of_methodNamed Bd.named
  have hnm := (name_of_methodNamed Bd.named Bd.method).1
  have X0 : Stand p l e ({ frames := 0, cells := 0, slots := 0, locals := 0 } : Room) s m #[(.int p0)] below meth c s₁ [] 0 0 := Stand.of_body Bd
  have e0 : s₁.heap = h0 := by rw [← hh, Bd.state]; rfl
  have N0 := Fr.nil n0
  have pre0 : ∀ t, Steps p.tables e below (s₁.setTop (mkF m 0 #[vI p0, .unset] [])) t → Steps p.tables e below (s₁.setTop (entryFrame m #[(.int p0)] 2)) t := fun t k => castTop (ef_1 m p0) k
  obtain ⟨T3, X3, e3, st3⟩ := getS2 X0 hx hZ hown (host := "") (Or.inl (hw _ (List.mem_of_getElem? (i := 255) rfl))) Via.refl e0 (f_2.ext OLD.2) (g := (mkF m 30 #[vI p0, vI (3 : Int32)] [])) rfl (hb hby d1_30)
  obtain ⟨fs, hr, hrun, hended, hW, hsame⟩ := X3.leave (v := some (.ref w_CODE)) (fun h => by rw [Bd.returns] at h; cases h)
  refine ⟨_, _, pre0 _ ?_, hrun, hended, _, _, rfl, ?_, ⟨_, rfl⟩, hW, hsame.mono (by decide) (by decide)⟩
  · show Steps p.tables e below (s₁.setTop (mkF m 0 #[vI p0, .unset] [])) _
    refine XS.iloadN X0.here hx rfl (hb hby d1_0) rfl ?_
    refine XS.iconst X0.here hx rfl (hb hby d1_1) ?_
    show Steps p.tables e below (s₁.setTop (mkF m 2 #[vI p0, .unset] [(.int (3 : Int32)), (.int p0)])) _
    refine XS.iand X0.here hx rfl (hb hby d1_2) rfl ?_
    show Steps p.tables e below (s₁.setTop (mkF m 3 #[vI p0, .unset] [(.int (p0 &&& (3 : Int32)))])) _
    rw [c_1]
    show Steps p.tables e below (s₁.setTop (mkF m 3 #[vI p0, .unset] [(.int (3 : Int32))])) _
    refine XS.istoreN X0.here hx rfl (hb hby d1_3) rfl (l' := #[vI p0, vI (3 : Int32)]) rfl ?_
    refine XS.iloadN X0.here hx rfl (hb hby d1_4) rfl ?_
    show Steps p.tables e below (s₁.setTop (mkF m 5 #[vI p0, vI (3 : Int32)] [(.int (3 : Int32))])) _
    refine XS.ifYes X0.here hx rfl (pc0 := 5) (pc' := 12) rfl (hb hby d1_5) rfl ((if0 _ _).trans (feq (by decide : ¬ ((3 : Int32) = (0 : Int32)))).2) (by decide) (by decide) ?_
    refine XS.iloadN X0.here hx rfl (hb hby d1_12) rfl ?_
    show Steps p.tables e below (s₁.setTop (mkF m 13 #[vI p0, vI (3 : Int32)] [(.int (3 : Int32))])) _
    refine XS.iconst X0.here hx rfl (hb hby d1_13) ?_
    refine XS.icmpYes X0.here hx rfl (pc0 := 14) (pc' := 21) rfl (hb hby d1_14) rfl (feq (by decide : ¬ ((3 : Int32) = (1 : Int32)))).2 (by decide) (by decide) ?_
    show Steps p.tables e below (s₁.setTop (mkF m 21 #[vI p0, vI (3 : Int32)] [])) _
    refine XS.iloadN X0.here hx rfl (hb hby d1_21) rfl ?_
    refine XS.iconst X0.here hx rfl (hb hby d1_22) ?_
    show Steps p.tables e below (s₁.setTop (mkF m 23 #[vI p0, vI (3 : Int32)] [(.int (2 : Int32)), (.int (3 : Int32))])) _
    refine XS.icmpYes X0.here hx rfl (pc0 := 23) (pc' := 30) rfl (hb hby d1_23) rfl (feq (by decide : ¬ ((3 : Int32) = (2 : Int32)))).2 (by decide) (by decide) ?_
    refine st3 _ ?_
    show Steps p.tables e below (T3.setTop (mkF m 33 #[vI p0, vI (3 : Int32)] [(.ref w_CODE)])) _
    jvm_step X3.here [X3.here.top, hx, (hb hby d1_33), X3.method', Bd.returns, Value.isRef, FieldType.isReference]
    first | (intro acts; rw [hr _ acts rfl rfl rfl]) | rw [hr _ _ rfl rfl rfl]
    exact Steps.refl _
  · show Q1k3 Z p0 w_CODE h0 n0 _ T3.heap _
    rw [e3]
    exact ⟨rfl, N0, rfl⟩
theorem own_and3 (x : Int32) : (x &&& 3) = 0 ∨ (x &&& 3) = 1 ∨ (x &&& 3) = 2 ∨ (x &&& 3) = 3 := by
  have e1 : (x &&& (3 : Int32)).toInt = x.toInt % 2 ^ 2 := Jvm.Kit.i32_mask x 3 (k := 2) (by decide) (by decide)
  have p : (x &&& (3 : Int32)).toInt = 0 ∨ (x &&& (3 : Int32)).toInt = 1 ∨ (x &&& (3 : Int32)).toInt = 2 ∨ (x &&& (3 : Int32)).toInt = 3 := by omega
  rcases p with q | q | q | q
  · exact Or.inl (Int32.toInt_inj.mp q)
  · exact Or.inr (Or.inl (Int32.toInt_inj.mp q))
  · exact Or.inr (Or.inr (Or.inl (Int32.toInt_inj.mp q)))
  · exact Or.inr (Or.inr (Or.inr (Int32.toInt_inj.mp q)))
def QPick (Z : State) (h0 : Heap) (n0 : Nat) (v : Option Value) (h : Heap) (L : List Loc) : Prop := ∃ w : Addr, v = some (.ref w) ∧ Fr n0 L ∧ h = h0
theorem rmPick (l : Launch) (Z : State) (A0 : Array Value) (hw : ∀ d ∈ tables_1, d.before A0 Z = true) (ws : List Jvm.Cond) (p0 : Int32) (w_NO_DOI : Addr) (w_ISBN_CHECK_DIGIT : Addr) (w_DOI_SYNTAX : Addr) (w_CODE : Addr) (h0 : Heap) (n0 : Nat) (OLD : Old Z n0 h0) (S_NO_DOI : Sta Z Z.heap "com/example/deposita/deposita/core/Rule" "NO_DOI" "Lcom/example/deposita/deposita/core/Rule;" (.ref w_NO_DOI)) (S_ISBN_CHECK_DIGIT : Sta Z Z.heap "com/example/deposita/deposita/core/Rule" "ISBN_CHECK_DIGIT" "Lcom/example/deposita/deposita/core/Rule;" (.ref w_ISBN_CHECK_DIGIT)) (S_DOI_SYNTAX : Sta Z Z.heap "com/example/deposita/deposita/core/Rule" "DOI_SYNTAX" "Lcom/example/deposita/deposita/core/Rule;" (.ref w_DOI_SYNTAX)) (S_CODE : Sta Z Z.heap "com/example/deposita/deposita/core/Rule" "CODE" "Lcom/example/deposita/deposita/core/Rule;" (.ref w_CODE)) :
    MetFree l (⟨"com/example/deposita/deposita/formats/MappedIsRefusedPinLaw", "pick", "(I)Lcom/example/deposita/deposita/core/Rule;"⟩ : MethodName) (head1 (Jvm.Cond.code (⟨"com/example/deposita/deposita/formats/MappedIsRefusedPinLaw", "pick", "(I)Lcom/example/deposita/deposita/core/Rule;"⟩ : MethodName) method_2_code 2 (some (.object "com/example/deposita/deposita/core/Rule")) :: ws) ({ frames := 0, cells := 0, slots := 0, locals := 0 } : Room)) (fun a U => a = #[(.int p0)] ∧ Z.Warmed39 U.vm ∧ U.heap = h0) (fun _ _ _ _ _ => True) (fun _ U o U' => ∃ v L, o = .returned v ∧ QPick Z h0 n0 v U'.heap L ∧ FrameEnd U o U' L ({ frames := 0, cells := 0, slots := 0, locals := 0 } : Room).cells ({ frames := 0, cells := 0, slots := 0, locals := 0 } : Room).slots) := by
  rcases own_and3 p0 with hk | hk | hk | hk
  · exact own_mono (rm1k0 l Z A0 hw ws p0 w_NO_DOI h0 n0 OLD hk S_NO_DOI) (fun _ _ _ _ ⟨v, L, h1, ⟨h2, h3, h4⟩, h5⟩ => ⟨v, L, h1, ⟨_, h2, h3, h4⟩, h5⟩)
  · exact own_mono (rm1k1 l Z A0 hw ws p0 w_ISBN_CHECK_DIGIT h0 n0 OLD hk S_ISBN_CHECK_DIGIT) (fun _ _ _ _ ⟨v, L, h1, ⟨h2, h3, h4⟩, h5⟩ => ⟨v, L, h1, ⟨_, h2, h3, h4⟩, h5⟩)
  · exact own_mono (rm1k2 l Z A0 hw ws p0 w_DOI_SYNTAX h0 n0 OLD hk S_DOI_SYNTAX) (fun _ _ _ _ ⟨v, L, h1, ⟨h2, h3, h4⟩, h5⟩ => ⟨v, L, h1, ⟨_, h2, h3, h4⟩, h5⟩)
  · exact own_mono (rm1k3 l Z A0 hw ws p0 w_CODE h0 n0 OLD hk S_CODE) (fun _ _ _ _ ⟨v, L, h1, ⟨h2, h3, h4⟩, h5⟩ => ⟨v, L, h1, ⟨_, h2, h3, h4⟩, h5⟩)
theorem d3_0 : decode jdk_43_method_3_code 0 = .ok (.iload_n 0, 1) := by decide +kernel
theorem d3_1 : decode jdk_43_method_3_code 1 = .ok (.sipush 255, 3) := by decide +kernel
theorem d3_4 : decode jdk_43_method_3_code 4 = .ok (.if_icmp .gt 7, 3) := by decide +kernel
theorem d3_7 : decode jdk_43_method_3_code 7 = .ok (.iconst 1, 1) := by decide +kernel
theorem d3_8 : decode jdk_43_method_3_code 8 = .ok (.goto 4, 3) := by decide +kernel
theorem d3_12 : decode jdk_43_method_3_code 12 = .ok (.ireturn, 1) := by decide +kernel
theorem pn_java_lang_StringLatin1 : plainName "java/lang/StringLatin1" = true := by first | (simp [plainName, overriddenIn]; done) | decide +kernel
theorem ef_3 (m : MethodId) (x0 : Int32) : entryFrame m #[(.int x0)] 1 = mkF m 0 #[vI x0] [] := by first | (simp [entryFrame, mkF, argsToLocals, Value.category]; done) | rfl
def Q3 (Z : State) (p0 : Int32) (h0 : Heap) (n0 : Nat) (v : Option Value) (h : Heap) (L : List Loc) : Prop := v = some (.int (1 : Int32)) ∧ Fr n0 L ∧ h = h0
set_option maxRecDepth 65536 in
set_option maxHeartbeats 40000000 in
theorem rm3 (l : Launch) (Z : State) (A0 : Array Value) (hw : ∀ d ∈ tables_1, d.before A0 Z = true) (ws : List Jvm.Cond) (p0 : Int32) (h0 : Heap) (n0 : Nat) (OLD : Old Z n0 h0) (c_1 : ¬ ((255 : Int32) < p0)) :
    MetFree l (⟨"java/lang/StringLatin1", "canEncode", "(C)Z"⟩ : MethodName) (head1 (Jvm.Cond.code (⟨"java/lang/StringLatin1", "canEncode", "(C)Z"⟩ : MethodName) jdk_43_method_3_code 1 (some .boolean) :: ws) ({ frames := 0, cells := 0, slots := 0, locals := 0 } : Room)) (fun a U => a = #[(.int p0)] ∧ Z.Warmed39 U.vm ∧ U.heap = h0) (fun _ _ _ _ _ => True) (fun _ U o U' => ∃ v L, o = .returned v ∧ Q3 Z p0 h0 n0 v U'.heap L ∧ FrameEnd U o U' L ({ frames := 0, cells := 0, slots := 0, locals := 0 } : Room).cells ({ frames := 0, cells := 0, slots := 0, locals := 0 } : Room).slots) := by
  refine MetFree.of_bodySF (plainFor_of_name pn_java_lang_StringLatin1) hisR ?_
  intro p e s m args below meth c s₁ Bd hml0 hP hK
  obtain ⟨rfl, hZ, hh⟩ := hP
  have hx := Bd.exec
  have hby := Bd.bytes
  have hml : c.maxLocals = 1 := hml0
  have hown : s.vm.findClass "java/lang/StringLatin1" = some m.cls := findClass_of_methodNamed Bd.named
  have hnm := (name_of_methodNamed Bd.named Bd.method).1
  have X0 : Stand p l e ({ frames := 0, cells := 0, slots := 0, locals := 0 } : Room) s m #[(.int p0)] below meth c s₁ [] 0 0 := Stand.of_body Bd
  have e0 : s₁.heap = h0 := by rw [← hh, Bd.state]; rfl
  have N0 := Fr.nil n0
  have pre0 : ∀ t, Steps p.tables e below (s₁.setTop (mkF m 0 #[vI p0] [])) t → Steps p.tables e below (s₁.setTop (entryFrame m #[(.int p0)] 1)) t := fun t k => castTop (ef_3 m p0) k
  obtain ⟨fs, hr, hrun, hended, hW, hsame⟩ := X0.leave (v := some (.int (1 : Int32))) (fun h => by rw [Bd.returns] at h; cases h)
  refine ⟨_, _, pre0 _ ?_, hrun, hended, _, _, rfl, ?_, ⟨_, rfl⟩, hW, hsame.mono (by decide) (by decide)⟩
  · show Steps p.tables e below (s₁.setTop (mkF m 0 #[vI p0] [])) _
    refine XS.iloadN X0.here hx rfl (hb hby d3_0) rfl ?_
    refine XS.sipush X0.here hx rfl (hb hby d3_1) ?_
    show Steps p.tables e below (s₁.setTop (mkF m 4 #[vI p0] [(.int (255 : Int32)), (.int p0)])) _
    refine XS.icmpNo X0.here hx rfl (hb hby d3_4) rfl (flt c_1).2.2.1 ?_
    refine XS.iconst X0.here hx rfl (hb hby d3_7) ?_
    show Steps p.tables e below (s₁.setTop (mkF m 8 #[vI p0] [(.int (1 : Int32))])) _
    refine XS.goto X0.here hx rfl (pc0 := 8) (pc' := 12) rfl (hb hby d3_8) (by decide) (by decide) ?_
    show Steps p.tables e below (s₁.setTop (mkF m 12 #[vI p0] [(.int (1 : Int32))])) _
    exact retN X0 hx (t := .boolean) Bd.returns (by simp) (hb hby d3_12) hr
  · show Q3 Z p0 h0 n0 _ s₁.heap _
    rw [e0]
    exact ⟨rfl, N0, rfl⟩
theorem d4_0 : decode jdk_43_method_46_code 0 = .ok (.iconst 1, 1) := by decide +kernel
theorem d4_1 : decode jdk_43_method_46_code 1 = .ok (.newarray .byte, 2) := by decide +kernel
theorem d4_3 : decode jdk_43_method_46_code 3 = .ok (.dup, 1) := by decide +kernel
theorem d4_4 : decode jdk_43_method_46_code 4 = .ok (.iconst 0, 1) := by decide +kernel
theorem d4_5 : decode jdk_43_method_46_code 5 = .ok (.iload_n 0, 1) := by decide +kernel
theorem d4_6 : decode jdk_43_method_46_code 6 = .ok (.i2b, 1) := by decide +kernel
theorem d4_7 : decode jdk_43_method_46_code 7 = .ok (.bastore, 1) := by decide +kernel
theorem d4_8 : decode jdk_43_method_46_code 8 = .ok (.areturn, 1) := by decide +kernel
theorem ef_4 (m : MethodId) (x0 : Int32) : entryFrame m #[(.int x0)] 1 = mkF m 0 #[vI x0] [] := by first | (simp [entryFrame, mkF, argsToLocals, Value.category]; done) | rfl
def Q4 (Z : State) (p0 : Int32) (h0 : Heap) (n0 : Nat) (v : Option Value) (h : Heap) (L : List Loc) : Prop := ∃ b1 : Addr, ∃ k1 : ClassId, v = some (.ref b1) ∧ Fr n0 L ∧ Keep h0 h [] ∧ h0.size ≤ b1 ∧ Arv Z h b1 k1 .byte (1 : Int32) [(.int (nar .byte (p0.toInt8.toInt32)))] (.int (0 : Int32))
set_option maxRecDepth 65536 in
set_option maxHeartbeats 40000000 in
theorem rm4 (l : Launch) (Z : State) (A0 : Array Value) (hw : ∀ d ∈ tables_1, d.before A0 Z = true) (ws : List Jvm.Cond) (p0 : Int32) (h0 : Heap) (n0 : Nat) (OLD : Old Z n0 h0) :
    MetFree l (⟨"java/lang/StringLatin1", "toBytes", "(C)[B"⟩ : MethodName) (head1 (Jvm.Cond.code (⟨"java/lang/StringLatin1", "toBytes", "(C)[B"⟩ : MethodName) jdk_43_method_46_code 1 (some (.array .byte)) :: ws) ({ frames := 0, cells := 1, slots := 1, locals := 0 } : Room)) (fun a U => a = #[(.int p0)] ∧ Z.Warmed39 U.vm ∧ U.heap = h0) (fun _ _ _ _ _ => True) (fun _ U o U' => ∃ v L, o = .returned v ∧ Q4 Z p0 h0 n0 v U'.heap L ∧ FrameEnd U o U' L ({ frames := 0, cells := 1, slots := 1, locals := 0 } : Room).cells ({ frames := 0, cells := 1, slots := 1, locals := 0 } : Room).slots) := by
  refine MetFree.of_bodySF (plainFor_of_name pn_java_lang_StringLatin1) hisR ?_
  intro p e s m args below meth c s₁ Bd hml0 hP hK
  obtain ⟨rfl, hZ, hh⟩ := hP
  have hx := Bd.exec
  have hby := Bd.bytes
  have hml : c.maxLocals = 1 := hml0
  have hown : s.vm.findClass "java/lang/StringLatin1" = some m.cls := findClass_of_methodNamed Bd.named
  have hnm := (name_of_methodNamed Bd.named Bd.method).1
  have X0 : Stand p l e ({ frames := 0, cells := 1, slots := 1, locals := 0 } : Room) s m #[(.int p0)] below meth c s₁ [] 0 0 := Stand.of_body Bd
  have e0 : s₁.heap = h0 := by rw [← hh, Bd.state]; rfl
  have N0 := Fr.nil n0
  have pre0 : ∀ t, Steps p.tables e below (s₁.setTop (mkF m 0 #[vI p0] [])) t → Steps p.tables e below (s₁.setTop (entryFrame m #[(.int p0)] 1)) t := fun t k => castTop (ef_4 m p0) k
  obtain ⟨T1, h1, k1, X1, e1, E1, A1, st1⟩ := newP X0 hx hZ (hw _ (List.mem_of_getElem? (i := 24) rfl)) e0 (g := (mkF m 1 #[vI p0] [(.int (1 : Int32))])) rfl (hb hby d4_1) rfl (by decide) (cap := 1) (by decide) (by decide) (by decide) (by decide)
  obtain ⟨b1, g1⟩ : ∃ z, z = h0.size := ⟨_, rfl⟩
  rw [← g1] at A1 st1
  have K_2 : Keep h0 h1 [] := (Keep.refl h0 []).ext E1
  have f_3 : Arv Z h1 b1 k1 .byte (1 : Int32) [(.int (0 : Int32))] (.int (0 : Int32)) := (Arv.new A1 (by decide)).pad (pad_rep [] (.int (0 : Int32)) 1)
  obtain ⟨cl4, Ar4, q4, s4, n4, hh4, gg4⟩ := id (f_3)
  have hin4 : ¬ ((0 : Int32) < 0 ∨ cl4.slots.size ≤ ((0 : Int32)).toNatClampNeg) := inb_of s4 ⟨by decide, by decide⟩
  obtain ⟨T5, h5, X5, e5, W5, st5⟩ := stB X1 hx hZ e1 Ar4 (j := (0 : Int32)) hin4 (g := (mkF m 7 #[vI p0] [(.int (p0.toInt8.toInt32)), (.int (0 : Int32)), (.ref b1), (.ref b1)])) rfl rfl (hb hby d4_7)
  have ge_6 : n0 ≤ b1 := own_ge OLD (Nat.le_of_eq g1.symm)
  have N5 := Fr.snoc X5 N0 ge_6
  have f_7 : Arv Z h5 b1 k1 .byte (1 : Int32) [(.int (nar .byte (p0.toInt8.toInt32)))] (.int (0 : Int32)) := Arv.set Ar4 q4 s4 n4 hh4 gg4 (fits_nar_byte _) W5 0 rfl (Nat.le_of_ble_eq_true rfl)
  have K_8 : Keep h0 h5 [] := K_2.wr W5 (Or.inr (Nat.le_trans (Keep.refl h0 []).1 (Nat.le_of_eq g1.symm)))
  obtain ⟨fs, hr, hrun, hended, hW, hsame⟩ := X5.leave (v := some (.ref b1)) (fun h => by rw [Bd.returns] at h; cases h)
  refine ⟨_, _, pre0 _ ?_, hrun, hended, _, _, rfl, ?_, ⟨_, rfl⟩, hW, hsame.mono (by decide) (by decide)⟩
  · show Steps p.tables e below (s₁.setTop (mkF m 0 #[vI p0] [])) _
    refine XS.iconst X0.here hx rfl (hb hby d4_0) ?_
    refine st1 _ ?_
    show Steps p.tables e below (T1.setTop (mkF m 3 #[vI p0] [(.ref b1)])) _
    refine XS.dup X1.here hx rfl (hb hby d4_3) rfl rfl ?_
    refine XS.iconst X1.here hx rfl (hb hby d4_4) ?_
    show Steps p.tables e below (T1.setTop (mkF m 5 #[vI p0] [(.int (0 : Int32)), (.ref b1), (.ref b1)])) _
    refine XS.iloadN X1.here hx rfl (hb hby d4_5) rfl ?_
    refine XS.i2b X1.here hx rfl (hb hby d4_6) rfl ?_
    show Steps p.tables e below (T1.setTop (mkF m 7 #[vI p0] [(.int (p0.toInt8.toInt32)), (.int (0 : Int32)), (.ref b1), (.ref b1)])) _
    refine st5 _ ?_
    show Steps p.tables e below (T5.setTop (mkF m 8 #[vI p0] [(.ref b1)])) _
    jvm_step X5.here [X5.here.top, hx, (hb hby d4_8), X5.method', Bd.returns, Value.isRef, FieldType.isReference]
    first | (intro acts; rw [hr _ acts rfl rfl rfl]) | rw [hr _ _ rfl rfl rfl]
    exact Steps.refl _
  · show Q4 Z p0 h0 n0 _ T5.heap _
    rw [e5]
    exact ⟨b1, k1, rfl, N5, K_8, (Nat.le_trans (Keep.refl h0 []).1 (Nat.le_of_eq g1.symm)), f_7⟩
theorem d5_0 : decode jdk_42_method_151_code 0 = .ok (.aload_n 0, 1) := by decide +kernel
theorem d5_1 : decode jdk_42_method_151_code 1 = .ok (.invokespecial 1, 3) := by decide +kernel
theorem d5_4 : decode jdk_42_method_151_code 4 = .ok (.aload_n 0, 1) := by decide +kernel
theorem d5_5 : decode jdk_42_method_151_code 5 = .ok (.aload_n 1, 1) := by decide +kernel
theorem d5_6 : decode jdk_42_method_151_code 6 = .ok (.putfield 9, 3) := by decide +kernel
theorem d5_9 : decode jdk_42_method_151_code 9 = .ok (.aload_n 0, 1) := by decide +kernel
theorem d5_10 : decode jdk_42_method_151_code 10 = .ok (.iload_n 2, 1) := by decide +kernel
theorem d5_11 : decode jdk_42_method_151_code 11 = .ok (.putfield 15, 3) := by decide +kernel
theorem d5_14 : decode jdk_42_method_151_code 14 = .ok (.return_, 1) := by decide +kernel
theorem pn_java_lang_String : plainName "java/lang/String" = true := by first | (simp [plainName, overriddenIn]; done) | decide +kernel
theorem ef_5 (m : MethodId) (x0 : Addr) (x1 : Addr) (x2 : Int32) : entryFrame m #[(.ref x0), (.ref x1), (.int x2)] 3 = mkF m 0 #[vR x0, vR x1, vI x2] [] := by first | (simp [entryFrame, mkF, argsToLocals, Value.category]; done) | rfl
def Q5 (Z : State) (a0 : Addr) (a1 : Addr) (p2 : Int32) (u_value_a0 : Value) (u_coder_a0 : Value) (h0 : Heap) (n0 : Nat) (v : Option Value) (h : Heap) (L : List Loc) : Prop := v = none ∧ Fr n0 L ∧ Keep h0 h [a0] ∧ Exa Z h a0 "java/lang/String" ∧ Fld Z h a0 "java/lang/String" "value" "[B" (.ref a1) ∧ Fld Z h a0 "java/lang/String" "coder" "B" (.int (nar .byte p2))
set_option maxRecDepth 65536 in
set_option maxHeartbeats 40000000 in
theorem rm5 (l : Launch) (Z : State) (A0 : Array Value) (hw : ∀ d ∈ tables_1, d.before A0 Z = true) (ws : List Jvm.Cond) (a0 : Addr) (a1 : Addr) (p2 : Int32) (u_value_a0 : Value) (u_coder_a0 : Value) (h0 : Heap) (n0 : Nat) (OLD : Old Z n0 h0) (f_2 : Exa Z h0 a0 "java/lang/String") (f_3 : Fld Z h0 a0 "java/lang/String" "value" "[B" u_value_a0) (ge_a0 : n0 ≤ a0) (f_8 : Fld Z h0 a0 "java/lang/String" "coder" "B" u_coder_a0) :
    MetFree l (⟨"java/lang/String", "<init>", "([BB)V"⟩ : MethodName) (head1 (Jvm.Cond.code (⟨"java/lang/String", "<init>", "([BB)V"⟩ : MethodName) jdk_42_method_151_code 3 none :: ws) ({ frames := 1, cells := 0, slots := 0, locals := 12 } : Room)) (fun a U => a = #[(.ref a0), (.ref a1), (.int p2)] ∧ Z.Warmed39 U.vm ∧ U.heap = h0) (fun _ _ _ _ _ => True) (fun _ U o U' => ∃ v L, o = .returned v ∧ Q5 Z a0 a1 p2 u_value_a0 u_coder_a0 h0 n0 v U'.heap L ∧ FrameEnd U o U' L ({ frames := 1, cells := 0, slots := 0, locals := 12 } : Room).cells ({ frames := 1, cells := 0, slots := 0, locals := 12 } : Room).slots) := by
  refine MetFree.of_bodySF (plainFor_of_name pn_java_lang_String) hisR ?_
  intro p e s m args below meth c s₁ Bd hml0 hP hK
  obtain ⟨rfl, hZ, hh⟩ := hP
  have hx := Bd.exec
  have hby := Bd.bytes
  have hml : c.maxLocals = 3 := hml0
  have hown : s.vm.findClass "java/lang/String" = some m.cls := findClass_of_methodNamed Bd.named
  have hnm := (name_of_methodNamed Bd.named Bd.method).1
  have X0 : Stand p l e ({ frames := 1, cells := 0, slots := 0, locals := 12 } : Room) s m #[(.ref a0), (.ref a1), (.int p2)] below meth c s₁ [] 0 0 := Stand.of_body Bd
  have e0 : s₁.heap = h0 := by rw [← hh, Bd.state]; rfl
  have N0 := Fr.nil n0
  have pre0 : ∀ t, Steps p.tables e below (s₁.setTop (mkF m 0 #[vR a0, vR a1, vI p2] [])) t → Steps p.tables e below (s₁.setTop (entryFrame m #[(.ref a0), (.ref a1), (.int p2)] 3)) t := fun t k => castTop (ef_5 m a0 a1 p2) k
  obtain ⟨T1, X1, e1, st1⟩ := initO X0 hx hZ hown (hw _ (List.mem_of_getElem? (i := 29) rfl)) (hw _ (List.mem_of_getElem? (i := 30) rfl)) (hw _ (List.mem_of_getElem? (i := 31) rfl)) e0 (g := (mkF m 1 #[vR a0, vR a1, vI p2] [(.ref a0)])) rfl (by rw [hml]; rfl) rfl (hb hby d5_1) (by decide) (W := 0) (by show 2 * 0 + _ ≤ _; exact Nat.le_of_eq rfl) (by decide)
  obtain ⟨T4, h4, X4, e4, W4, st4⟩ := putF X1 hx hZ hown (host := "") (Or.inl (hw _ (List.mem_of_getElem? (i := 32) rfl))) Via.refl e1 f_3 f_2 (Or.inr ⟨(hw _ (List.mem_of_getElem? (i := 33) rfl)), rfl, hnm⟩) (hw _ (List.mem_of_getElem? (i := 20) rfl)) (ty := (.array .byte)) (by decide) rfl rfl (g := (mkF m 6 #[vR a0, vR a1, vI p2] [(.ref a1), (.ref a0)])) rfl rfl (hb hby d5_6)
  have N4 := Fr.snoc X4 N0 ge_a0
  have f_5 := f_3.same W4
  have K_6 : Keep h0 h4 [a0] := (Keep.refl h0 [a0]).wr W4 (Or.inl (List.mem_of_getElem? (i := 0) rfl))
  have f_7 := f_2.wr W4
  have f_9 := f_8.other W4 (Or.inr (slot_ne (Or.inr (hw _ (List.mem_of_getElem? (i := 35) rfl))) (Or.inr (hw _ (List.mem_of_getElem? (i := 33) rfl))) (by decide) (t := .byte) (t' := (.array .byte)) (by decide) (by decide)))
  obtain ⟨T10, h10, X10, e10, W10, st10⟩ := putFN X4 hx hZ hown (hw _ (List.mem_of_getElem? (i := 34) rfl)) Via.refl e4 f_9 f_7 (Or.inr ⟨(hw _ (List.mem_of_getElem? (i := 35) rfl)), rfl, hnm⟩) (hw _ (List.mem_of_getElem? (i := 20) rfl)) (ty := .byte) (v' := (.int (nar .byte p2))) (by decide) rfl (fits_nar_byte _) (g := (mkF m 11 #[vR a0, vR a1, vI p2] [(.int p2), (.ref a0)])) rfl rfl (hb hby d5_11)
  have N10 := Fr.snoc X10 N4 ge_a0
  have f_11 := f_9.same W10
  have K_12 : Keep h0 h10 [a0] := K_6.wr W10 (Or.inl (List.mem_of_getElem? (i := 0) rfl))
  have f_13 := f_7.wr W10
  have f_14 := f_5.other W10 (Or.inr (slot_ne (Or.inr (hw _ (List.mem_of_getElem? (i := 33) rfl))) (Or.inr (hw _ (List.mem_of_getElem? (i := 35) rfl))) (by decide) (t := (.array .byte)) (t' := .byte) (by decide) (by decide)))
  obtain ⟨fs, hr, hrun, hended, hW, hsame⟩ := X10.leave (v := none) (fun _ => rfl)
  refine ⟨_, _, pre0 _ ?_, hrun, hended, _, _, rfl, ?_, ⟨_, rfl⟩, hW, hsame.mono (by decide) (by decide)⟩
  · show Steps p.tables e below (s₁.setTop (mkF m 0 #[vR a0, vR a1, vI p2] [])) _
    refine XS.aloadN X0.here hx rfl (hb hby d5_0) rfl rfl ?_
    refine st1 _ ?_
    show Steps p.tables e below (T1.setTop (mkF m 4 #[vR a0, vR a1, vI p2] [])) _
    refine XS.aloadN X1.here hx rfl (hb hby d5_4) rfl rfl ?_
    refine XS.aloadN X1.here hx rfl (hb hby d5_5) rfl rfl ?_
    show Steps p.tables e below (T1.setTop (mkF m 6 #[vR a0, vR a1, vI p2] [(.ref a1), (.ref a0)])) _
    refine st4 _ ?_
    refine XS.aloadN X4.here hx rfl (hb hby d5_9) rfl rfl ?_
    show Steps p.tables e below (T4.setTop (mkF m 10 #[vR a0, vR a1, vI p2] [(.ref a0)])) _
    refine XS.iloadN X4.here hx rfl (hb hby d5_10) rfl ?_
    refine st10 _ ?_
    show Steps p.tables e below (T10.setTop (mkF m 14 #[vR a0, vR a1, vI p2] [])) _
    exact X10.returnOut hx Bd.returns (hb hby d5_14) hr
  · show Q5 Z a0 a1 p2 u_value_a0 u_coder_a0 h0 n0 _ T10.heap _
    rw [e10]
    exact ⟨rfl, N10, K_12, f_13, f_14, f_11⟩
theorem pd_0 : parseMethodDescriptor "(C)Z" = some ⟨[.char], some .boolean⟩ := by decide +kernel
theorem pd_1 : parseMethodDescriptor "(C)[B" = some ⟨[.char], some (.array .byte)⟩ := by decide +kernel
theorem pd_2 : parseMethodDescriptor "([BB)V" = some ⟨[(.array .byte), .byte], none⟩ := by decide +kernel
theorem d2_0 : decode jdk_42_method_139_code 0 = .ok (.getstatic 38, 3) := by decide +kernel
theorem d2_3 : decode jdk_42_method_139_code 3 = .ok (.ifCond .eq 23, 3) := by decide +kernel
theorem d2_6 : decode jdk_42_method_139_code 6 = .ok (.iload_n 0, 1) := by decide +kernel
theorem d2_7 : decode jdk_42_method_139_code 7 = .ok (.invokestatic 1015, 3) := by decide +kernel
theorem d2_10 : decode jdk_42_method_139_code 10 = .ok (.ifCond .eq 16, 3) := by decide +kernel
theorem d2_13 : decode jdk_42_method_139_code 13 = .ok (.new 10, 3) := by decide +kernel
theorem d2_16 : decode jdk_42_method_139_code 16 = .ok (.dup, 1) := by decide +kernel
theorem d2_17 : decode jdk_42_method_139_code 17 = .ok (.iload_n 0, 1) := by decide +kernel
theorem d2_18 : decode jdk_42_method_139_code 18 = .ok (.invokestatic 1018, 3) := by decide +kernel
theorem d2_21 : decode jdk_42_method_139_code 21 = .ok (.iconst 0, 1) := by decide +kernel
theorem d2_22 : decode jdk_42_method_139_code 22 = .ok (.invokespecial 209, 3) := by decide +kernel
theorem d2_25 : decode jdk_42_method_139_code 25 = .ok (.areturn, 1) := by decide +kernel
theorem ef_2 (m : MethodId) (x0 : Int32) : entryFrame m #[(.int x0)] 1 = mkF m 0 #[vI x0] [] := by first | (simp [entryFrame, mkF, argsToLocals, Value.category]; done) | rfl
def Q2 (Z : State) (w_COMPACT_STRINGS : Int32) (p0 : Int32) (h0 : Heap) (n0 : Nat) (v : Option Value) (h : Heap) (L : List Loc) : Prop := ∃ b6 : Addr, v = some (.ref b6) ∧ Fr n0 L ∧ Keep h0 h [] ∧ h0.size ≤ b6 ∧ Exa Z h b6 "java/lang/String"
set_option maxRecDepth 65536 in
set_option maxHeartbeats 40000000 in
theorem rm2 (l : Launch) (Z : State) (A0 : Array Value) (hw : ∀ d ∈ tables_1, d.before A0 Z = true) (ws : List Jvm.Cond) (w_COMPACT_STRINGS : Int32) (p0 : Int32) (h0 : Heap) (n0 : Nat) (OLD : Old Z n0 h0) (c_1 : ¬ (w_COMPACT_STRINGS = (0 : Int32))) (c_2 : ¬ ((255 : Int32) < p0)) (f_3 : Sta Z Z.heap "java/lang/String" "COMPACT_STRINGS" "Z" (.int w_COMPACT_STRINGS)) :
    MetFree l (⟨"java/lang/String", "valueOf", "(C)Ljava/lang/String;"⟩ : MethodName) (head1 (Jvm.Cond.code (⟨"java/lang/String", "valueOf", "(C)Ljava/lang/String;"⟩ : MethodName) jdk_42_method_139_code 1 (some (.object "java/lang/String")) :: ws) ({ frames := 2, cells := 2, slots := 5, locals := 27 } : Room)) (fun a U => a = #[(.int p0)] ∧ Z.Warmed39 U.vm ∧ U.heap = h0) (fun _ _ _ _ _ => True) (fun _ U o U' => ∃ v L, o = .returned v ∧ Q2 Z w_COMPACT_STRINGS p0 h0 n0 v U'.heap L ∧ FrameEnd U o U' L ({ frames := 2, cells := 2, slots := 5, locals := 27 } : Room).cells ({ frames := 2, cells := 2, slots := 5, locals := 27 } : Room).slots) := by
  refine MetFree.of_bodySF (plainFor_of_name pn_java_lang_String) hisR ?_
  intro p e s m args below meth c s₁ Bd hml0 hP hK
  obtain ⟨rfl, hZ, hh⟩ := hP
  have hx := Bd.exec
  have hby := Bd.bytes
  have hml : c.maxLocals = 1 := hml0
  have hown : s.vm.findClass "java/lang/String" = some m.cls := findClass_of_methodNamed Bd.named
  have hnm := (name_of_methodNamed Bd.named Bd.method).1
  have X0 : Stand p l e ({ frames := 2, cells := 2, slots := 5, locals := 27 } : Room) s m #[(.int p0)] below meth c s₁ [] 0 0 := Stand.of_body Bd
  have e0 : s₁.heap = h0 := by rw [← hh, Bd.state]; rfl
  have N0 := Fr.nil n0
  have pre0 : ∀ t, Steps p.tables e below (s₁.setTop (mkF m 0 #[vI p0] [])) t → Steps p.tables e below (s₁.setTop (entryFrame m #[(.int p0)] 1)) t := fun t k => castTop (ef_2 m p0) k
  obtain ⟨T4, X4, e4, st4⟩ := getS2 X0 hx hZ hown (host := "") (Or.inl (hw _ (List.mem_of_getElem? (i := 14) rfl))) Via.refl e0 (f_3.ext OLD.2) (g := (mkF m 0 #[vI p0] [])) rfl (hb hby d2_0)
  obtain ⟨_, _, ⟨T5, L5, k5, n5⟩, -, X5, ⟨Lc5, hQ5, l5, y5, z5⟩, st5⟩ := Jvm.LawKit.callS X4 hx (y := (⟨"java/lang/StringLatin1", "canEncode", "(C)Z"⟩ : MethodName)) hown (mvT hZ (hw _ (List.mem_of_getElem? (i := 15) rfl))) (mvT hZ (hw _ (List.mem_of_getElem? (i := 16) rfl))) (mvT hZ (hw _ (List.mem_of_getElem? (i := 17) rfl))) (mvT hZ (hw _ (List.mem_of_getElem? (i := 18) rfl))) (by decide) (backOf (W := 0) (rm3 l Z A0 hw [] p0 h0 n0 OLD c_2) hZ (hw _ (List.mem_of_getElem? (i := 18) rfl)) (hw _ (List.mem_of_getElem? (i := 17) rfl)) (by decide) (by decide)) (g := (mkF m 7 #[vI p0] [(.int p0)])) rfl (by rw [hml]; rfl) (argsL := [(.int p0)]) (rest := []) (lenOf pd_0 rfl) rfl (by show 2 * 0 + _ ≤ _; exact Nat.le_of_eq rfl) (hb hby d2_7) (fun _ _ => ⟨rfl, e4, (by decide : 0 + 0 ≤ _), (by decide : 0 + 0 ≤ _)⟩)
  dsimp only [Pt.U, Pt.locs, Pt.cells, Pt.slots] at X5 l5 y5 z5 st5 hQ5
  subst l5 y5 z5
  obtain ⟨rfl, N5q, e5⟩ := hQ5
  have N5 := Fr.app N0 N5q
  obtain ⟨T6, h6, X6, e6, E6, A6, D6, M6, st6⟩ := newO X5 hx hZ hown (hw _ (List.mem_of_getElem? (i := 19) rfl)) (hw _ (List.mem_of_getElem? (i := 20) rfl)) (hw _ (List.mem_of_getElem? (i := 12) rfl)) e5 (g := (mkF m 13 #[vI p0] [])) rfl (hb hby d2_13) (by decide) (by decide)
  obtain ⟨b6, g6⟩ : ∃ z, z = h0.size := ⟨_, rfl⟩
  rw [← g6] at A6 D6 M6 st6
  have K_7 : Keep h0 h6 [] := (Keep.refl h0 []).ext E6
  have f_8 : Fld Z h6 b6 "java/lang/String" "value" "[B" .null := (D6 (Or.inr (hw _ (List.mem_of_getElem? (i := 33) rfl))) (ty := (.array .byte)) (by decide))
  have f_9 : Fld Z h6 b6 "java/lang/String" "coder" "B" (.int (0 : Int32)) := (D6 (Or.inr (hw _ (List.mem_of_getElem? (i := 35) rfl))) (ty := .byte) (by decide))
  have O_11 := Old.ext OLD E6
  obtain ⟨_, _, ⟨T10, L10, k10, n10⟩, -, X10, ⟨Lc10, hQ10, l10, y10, z10⟩, st10⟩ := Jvm.LawKit.callS X6 hx (y := (⟨"java/lang/StringLatin1", "toBytes", "(C)[B"⟩ : MethodName)) hown (mvT hZ (hw _ (List.mem_of_getElem? (i := 21) rfl))) (mvT hZ (hw _ (List.mem_of_getElem? (i := 22) rfl))) (mvT hZ (hw _ (List.mem_of_getElem? (i := 17) rfl))) (mvT hZ (hw _ (List.mem_of_getElem? (i := 23) rfl))) (by decide) (backOf (W := 2) (rm4 l Z A0 hw [] p0 h6 n0 O_11 ) hZ (hw _ (List.mem_of_getElem? (i := 23) rfl)) (hw _ (List.mem_of_getElem? (i := 17) rfl)) (by decide) (by decide)) (g := (mkF m 18 #[vI p0] [(.int p0), (.ref b6), (.ref b6)])) rfl (by rw [hml]; rfl) (argsL := [(.int p0)]) (rest := [(.ref b6), (.ref b6)]) (lenOf pd_1 rfl) rfl (by show 2 * 0 + _ ≤ _; exact Nat.le_of_eq rfl) (hb hby d2_18) (fun _ _ => ⟨rfl, e6, (by decide : 1 + 1 ≤ _), (by decide : 4 + 1 ≤ _)⟩)
  dsimp only [Pt.U, Pt.locs, Pt.cells, Pt.slots] at X10 l10 y10 z10 st10 hQ10
  subst l10 y10 z10
  obtain ⟨b1_10, k1_10, rfl, N10q, K10, g10_0, g10_1⟩ := hQ10
  have N10 := Fr.app N5 N10q
  have K_12 : Keep h0 T10.heap [] := Keep.trans K_7 K10 all0
  have f_13 := A6.keep K10
  have f_14 := f_8.keep K10 nin0
  have ge_15 : n0 ≤ b6 := own_ge OLD (Nat.le_of_eq g6.symm)
  have f_16 := f_9.keep K10 nin0
  have O_18 := Old.keep O_11 K10 all0
  obtain ⟨_, _, ⟨T17, L17, k17, n17⟩, -, X17, ⟨Lc17, hQ17, l17, y17, z17⟩, st17⟩ := X10.specialBack hx (y := (⟨"java/lang/String", "<init>", "([BB)V"⟩ : MethodName)) rfl hown (mvT hZ (hw _ (List.mem_of_getElem? (i := 25) rfl))) (mvT hZ (hw _ (List.mem_of_getElem? (i := 26) rfl))) (mvT hZ (hw _ (List.mem_of_getElem? (i := 28) rfl))) (by decide) (backOf (W := 1) (rm5 l Z A0 hw [] b6 b1_10 (0 : Int32) .null (.int (0 : Int32)) T10.heap n0 O_18 f_13 f_14 ge_15 f_16) hZ (hw _ (List.mem_of_getElem? (i := 28) rfl)) (hw _ (List.mem_of_getElem? (i := 12) rfl)) (by decide) (by decide)) (g := (mkF m 22 #[vI p0] [(.int (0 : Int32)), (.ref b1_10), (.ref b6), (.ref b6)])) rfl (by rw [hml]; rfl) (Steps.refl _) (a := b6) (argsL := [(.ref b1_10), (.int (0 : Int32))]) (rest := [(.ref b6)]) (lenOf pd_2 rfl) rfl (by show 2 * 0 + _ ≤ _; exact Nat.le_of_eq rfl) (hb hby d2_22) (fun _ _ => ⟨rfl, rfl, (by decide : 2 + 0 ≤ _), (by decide : 5 + 0 ≤ _)⟩)
  dsimp only [Pt.U, Pt.locs, Pt.cells, Pt.slots] at X17 l17 y17 z17 st17 hQ17
  subst l17 y17 z17
  obtain ⟨rfl, N17q, K17, g17_0, g17_1, g17_2⟩ := hQ17
  have N17 := Fr.app N10 N17q
  have K_19 : Keep h0 T17.heap [] := Keep.trans K_12 K17 (allS (Or.inr (Nat.le_trans (Keep.refl h0 []).1 (Nat.le_of_eq g6.symm))) all0)
  obtain ⟨fs, hr, hrun, hended, hW, hsame⟩ := X17.leave (v := some (.ref b6)) (fun h => by rw [Bd.returns] at h; cases h)
  refine ⟨_, _, pre0 _ ?_, hrun, hended, _, _, rfl, ?_, ⟨_, rfl⟩, hW, hsame.mono (by decide) (by decide)⟩
  · show Steps p.tables e below (s₁.setTop (mkF m 0 #[vI p0] [])) _
    refine st4 _ ?_
    refine XS.ifNo X4.here hx rfl (hb hby d2_3) rfl ((if0 _ _).trans (feq c_1).1) ?_
    show Steps p.tables e below (T4.setTop (mkF m 6 #[vI p0] [])) _
    refine XS.iloadN X4.here hx rfl (hb hby d2_6) rfl ?_
    refine st5 _ ?_
    show Steps p.tables e below (T5.setTop (mkF m 10 #[vI p0] [(.int (1 : Int32))])) _
    refine XS.ifNo X5.here hx rfl (hb hby d2_10) rfl ((if0 _ _).trans (feq (by decide : ¬ ((1 : Int32) = (0 : Int32)))).1) ?_
    refine st6 _ ?_
    show Steps p.tables e below (T6.setTop (mkF m 16 #[vI p0] [(.ref b6)])) _
    refine XS.dup X6.here hx rfl (hb hby d2_16) rfl rfl ?_
    refine XS.iloadN X6.here hx rfl (hb hby d2_17) rfl ?_
    show Steps p.tables e below (T6.setTop (mkF m 18 #[vI p0] [(.int p0), (.ref b6), (.ref b6)])) _
    refine st10 _ ?_
    refine XS.iconst X10.here hx rfl (hb hby d2_21) ?_
    show Steps p.tables e below (T10.setTop (mkF m 22 #[vI p0] [(.int (0 : Int32)), (.ref b1_10), (.ref b6), (.ref b6)])) _
    refine st17.trans ?_
    show Steps p.tables e below (T17.setTop (mkF m 25 #[vI p0] [(.ref b6)])) _
    jvm_step X17.here [X17.here.top, hx, (hb hby d2_25), X17.method', Bd.returns, Value.isRef, FieldType.isReference]
    first | (intro acts; rw [hr _ acts rfl rfl rfl]) | rw [hr _ _ rfl rfl rfl]
    exact Steps.refl _
  · show Q2 Z w_COMPACT_STRINGS p0 h0 n0 _ T17.heap _
    exact ⟨b6, rfl, N17, K_19, (Nat.le_trans (Keep.refl h0 []).1 (Nat.le_of_eq g6.symm)), g17_0⟩
theorem d13_0 : decode jdk_52_method_21_code 0 = .ok (.iconst 0, 1) := by decide +kernel
theorem d13_1 : decode jdk_52_method_21_code 1 = .ok (.istore 5, 2) := by decide +kernel
theorem d13_3 : decode jdk_52_method_21_code 3 = .ok (.iload 5, 2) := by decide +kernel
theorem d13_5 : decode jdk_52_method_21_code 5 = .ok (.iload 4, 2) := by decide +kernel
theorem d13_7 : decode jdk_52_method_21_code 7 = .ok (.if_icmp .ge 37, 3) := by decide +kernel
theorem d13_10 : decode jdk_52_method_21_code 10 = .ok (.aload_n 0, 1) := by decide +kernel
theorem d13_11 : decode jdk_52_method_21_code 11 = .ok (.iload_n 1, 1) := by decide +kernel
theorem d13_12 : decode jdk_52_method_21_code 12 = .ok (.caload, 1) := by decide +kernel
theorem d13_13 : decode jdk_52_method_21_code 13 = .ok (.istore 6, 2) := by decide +kernel
theorem d13_15 : decode jdk_52_method_21_code 15 = .ok (.iload 6, 2) := by decide +kernel
theorem d13_17 : decode jdk_52_method_21_code 17 = .ok (.sipush 255, 3) := by decide +kernel
theorem d13_20 : decode jdk_52_method_21_code 20 = .ok (.if_icmp .le 6, 3) := by decide +kernel
theorem d13_26 : decode jdk_52_method_21_code 26 = .ok (.aload_n 2, 1) := by decide +kernel
theorem d13_27 : decode jdk_52_method_21_code 27 = .ok (.iload_n 3, 1) := by decide +kernel
theorem d13_28 : decode jdk_52_method_21_code 28 = .ok (.iload 6, 2) := by decide +kernel
theorem d13_30 : decode jdk_52_method_21_code 30 = .ok (.i2b, 1) := by decide +kernel
theorem d13_31 : decode jdk_52_method_21_code 31 = .ok (.bastore, 1) := by decide +kernel
theorem d13_32 : decode jdk_52_method_21_code 32 = .ok (.iinc 1 1, 3) := by decide +kernel
theorem d13_35 : decode jdk_52_method_21_code 35 = .ok (.iinc 3 1, 3) := by decide +kernel
theorem d13_38 : decode jdk_52_method_21_code 38 = .ok (.iinc 5 1, 3) := by decide +kernel
theorem d13_41 : decode jdk_52_method_21_code 41 = .ok (.goto (-38), 3) := by decide +kernel
theorem d13_44 : decode jdk_52_method_21_code 44 = .ok (.iload 4, 2) := by decide +kernel
theorem d13_46 : decode jdk_52_method_21_code 46 = .ok (.ireturn, 1) := by decide +kernel
theorem pn_java_lang_StringUTF16 : plainName "java/lang/StringUTF16" = true := by first | (simp [plainName, overriddenIn]; done) | decide +kernel
theorem ef_13 (m : MethodId) (x0 : Addr) (x1 : Int32) (x2 : Addr) (x3 : Int32) (x4 : Int32) : entryFrame m #[(.ref x0), (.int x1), (.ref x2), (.int x3), (.int x4)] 7 = mkF m 0 #[vR x0, vI x1, vR x2, vI x3, vI x4, .unset, .unset] [] := by first | (simp [entryFrame, mkF, argsToLocals, Value.category]; done) | rfl
def Q13s2 (Z : State) (c0 : Int32) (c1 : Int32) (kc : ClassId) (kb : ClassId) (a0 : Addr) (a2 : Addr) (h0 : Heap) (n0 : Nat) (v : Option Value) (h : Heap) (L : List Loc) : Prop := v = some (.int (2 : Int32)) ∧ Fr n0 L ∧ Keep h0 h [a2] ∧ Arv Z h a2 kb .byte (2 : Int32) [(.int (nar .byte (c0.toInt8.toInt32))), (.int (nar .byte (c1.toInt8.toInt32)))] (.int (0 : Int32))
set_option maxRecDepth 65536 in
set_option maxHeartbeats 40000000 in
theorem rm13s2 (l : Launch) (Z : State) (A0 : Array Value) (hw : ∀ d ∈ tables_1, d.before A0 Z = true) (ws : List Jvm.Cond) (c0 : Int32) (c1 : Int32) (kc : ClassId) (kb : ClassId) (a0 : Addr) (a2 : Addr) (h0 : Heap) (n0 : Nat) (OLD : Old Z n0 h0) (f_1 : Arv Z h0 a0 kc .char (2 : Int32) [(.int c0), (.int c1)] (.int (0 : Int32))) (f_2 : Arv Z h0 a2 kb .byte (2 : Int32) [(.int (0 : Int32)), (.int (0 : Int32))] (.int (0 : Int32))) (c_3 : ¬ ((255 : Int32) < c0)) (c_4 : ¬ ((255 : Int32) < c1)) (ge_a2 : n0 ≤ a2) (c_10 : a0 ≠ a2) :
    MetFree l (⟨"java/lang/StringUTF16", "compress", "([CI[BII)I"⟩ : MethodName) (head1 (Jvm.Cond.code (⟨"java/lang/StringUTF16", "compress", "([CI[BII)I"⟩ : MethodName) jdk_52_method_21_code 7 (some .int) :: ws) ({ frames := 0, cells := 0, slots := 0, locals := 0 } : Room)) (fun a U => a = #[(.ref a0), (.int (0 : Int32)), (.ref a2), (.int (0 : Int32)), (.int (2 : Int32))] ∧ Z.Warmed39 U.vm ∧ U.heap = h0) (fun _ _ _ _ _ => True) (fun _ U o U' => ∃ v L, o = .returned v ∧ Q13s2 Z c0 c1 kc kb a0 a2 h0 n0 v U'.heap L ∧ FrameEnd U o U' L ({ frames := 0, cells := 0, slots := 0, locals := 0 } : Room).cells ({ frames := 0, cells := 0, slots := 0, locals := 0 } : Room).slots) := by
  refine MetFree.of_bodySF (plainFor_of_name pn_java_lang_StringUTF16) hisR ?_
  intro p e s m args below meth c s₁ Bd hml0 hP hK
  obtain ⟨rfl, hZ, hh⟩ := hP
  have hx := Bd.exec
  have hby := Bd.bytes
  have hml : c.maxLocals = 7 := hml0
  have hown : s.vm.findClass "java/lang/StringUTF16" = some m.cls := findClass_of_methodNamed Bd.named
  have hnm := (name_of_methodNamed Bd.named Bd.method).1
  have X0 : Stand p l e ({ frames := 0, cells := 0, slots := 0, locals := 0 } : Room) s m #[(.ref a0), (.int (0 : Int32)), (.ref a2), (.int (0 : Int32)), (.int (2 : Int32))] below meth c s₁ [] 0 0 := Stand.of_body Bd
  have e0 : s₁.heap = h0 := by rw [← hh, Bd.state]; rfl
  have N0 := Fr.nil n0
  have pre0 : ∀ t, Steps p.tables e below (s₁.setTop (mkF m 0 #[vR a0, vI (0 : Int32), vR a2, vI (0 : Int32), vI (2 : Int32), .unset, .unset] [])) t → Steps p.tables e below (s₁.setTop (entryFrame m #[(.ref a0), (.int (0 : Int32)), (.ref a2), (.int (0 : Int32)), (.int (2 : Int32))] 7)) t := fun t k => castTop (ef_13 m a0 (0 : Int32) a2 (0 : Int32) (2 : Int32)) k
  obtain ⟨cl5, Ar5, q5, s5, n5, hh5, gg5⟩ := id (f_1)
  have hin5 : ¬ ((0 : Int32) < 0 ∨ cl5.slots.size ≤ ((0 : Int32)).toNatClampNeg) := inb_of s5 ⟨by decide, by decide⟩
  have hat5 : cl5.slots[((0 : Int32)).toNatClampNeg]? = some (.int c0) := hh5.at hin5 rfl
  obtain ⟨cl6, Ar6, q6, s6, n6, hh6, gg6⟩ := id (f_2)
  have hin6 : ¬ ((0 : Int32) < 0 ∨ cl6.slots.size ≤ ((0 : Int32)).toNatClampNeg) := inb_of s6 ⟨by decide, by decide⟩
  obtain ⟨T7, h7, X7, e7, W7, st7⟩ := stB X0 hx hZ e0 Ar6 (j := (0 : Int32)) hin6 (g := (mkF m 31 #[vR a0, vI (0 : Int32), vR a2, vI (0 : Int32), vI (2 : Int32), vI (0 : Int32), vI c0] [(.int (c0.toInt8.toInt32)), (.int (0 : Int32)), (.ref a2)])) rfl rfl (hb hby d13_31)
  have N7 := Fr.snoc X7 N0 ge_a2
  have f_8 : Arv Z h7 a2 kb .byte (2 : Int32) [(.int (nar .byte (c0.toInt8.toInt32))), (.int (0 : Int32))] (.int (0 : Int32)) := Arv.set Ar6 q6 s6 n6 hh6 gg6 (fits_nar_byte _) W7 0 rfl (Nat.le_of_ble_eq_true rfl)
  have K_9 : Keep h0 h7 [a2] := (Keep.refl h0 [a2]).wr W7 (Or.inl (List.mem_of_getElem? (i := 0) rfl))
  have f_11 := f_1.other W7 c_10
  obtain ⟨cl12, Ar12, q12, s12, n12, hh12, gg12⟩ := id (f_11)
  have hin12 : ¬ ((1 : Int32) < 0 ∨ cl12.slots.size ≤ ((1 : Int32)).toNatClampNeg) := inb_of s12 ⟨by decide, by decide⟩
  have hat12 : cl12.slots[((1 : Int32)).toNatClampNeg]? = some (.int c1) := hh12.at hin12 rfl
  obtain ⟨cl13, Ar13, q13, s13, n13, hh13, gg13⟩ := id (f_8)
  have hin13 : ¬ ((1 : Int32) < 0 ∨ cl13.slots.size ≤ ((1 : Int32)).toNatClampNeg) := inb_of s13 ⟨by decide, by decide⟩
  obtain ⟨T14, h14, X14, e14, W14, st14⟩ := stB X7 hx hZ e7 Ar13 (j := (1 : Int32)) hin13 (g := (mkF m 31 #[vR a0, vI (1 : Int32), vR a2, vI (1 : Int32), vI (2 : Int32), vI (1 : Int32), vI c1] [(.int (c1.toInt8.toInt32)), (.int (1 : Int32)), (.ref a2)])) rfl rfl (hb hby d13_31)
  have N14 := Fr.snoc X14 N7 ge_a2
  have f_15 : Arv Z h14 a2 kb .byte (2 : Int32) [(.int (nar .byte (c0.toInt8.toInt32))), (.int (nar .byte (c1.toInt8.toInt32)))] (.int (0 : Int32)) := Arv.set Ar13 q13 s13 n13 hh13 gg13 (fits_nar_byte _) W14 1 rfl (Nat.le_of_ble_eq_true rfl)
  have K_16 : Keep h0 h14 [a2] := K_9.wr W14 (Or.inl (List.mem_of_getElem? (i := 0) rfl))
  obtain ⟨fs, hr, hrun, hended, hW, hsame⟩ := X14.leave (v := some (.int (2 : Int32))) (fun h => by rw [Bd.returns] at h; cases h)
  refine ⟨_, _, pre0 _ ?_, hrun, hended, _, _, rfl, ?_, ⟨_, rfl⟩, hW, hsame.mono (by decide) (by decide)⟩
  · show Steps p.tables e below (s₁.setTop (mkF m 0 #[vR a0, vI (0 : Int32), vR a2, vI (0 : Int32), vI (2 : Int32), .unset, .unset] [])) _
    refine XS.iconst X0.here hx rfl (hb hby d13_0) ?_
    refine XS.istore X0.here hx rfl (hb hby d13_1) rfl (l' := #[vR a0, vI (0 : Int32), vR a2, vI (0 : Int32), vI (2 : Int32), vI (0 : Int32), .unset]) rfl ?_
    show Steps p.tables e below (s₁.setTop (mkF m 3 #[vR a0, vI (0 : Int32), vR a2, vI (0 : Int32), vI (2 : Int32), vI (0 : Int32), .unset] [])) _
    refine XS.iload X0.here hx rfl (hb hby d13_3) rfl ?_
    refine XS.iload X0.here hx rfl (hb hby d13_5) rfl ?_
    show Steps p.tables e below (s₁.setTop (mkF m 7 #[vR a0, vI (0 : Int32), vR a2, vI (0 : Int32), vI (2 : Int32), vI (0 : Int32), .unset] [(.int (2 : Int32)), (.int (0 : Int32))])) _
    refine XS.icmpNo X0.here hx rfl (hb hby d13_7) rfl (tlt (by decide : (0 : Int32) < (2 : Int32))).2.1 ?_
    refine XS.aloadN X0.here hx rfl (hb hby d13_10) rfl rfl ?_
    show Steps p.tables e below (s₁.setTop (mkF m 11 #[vR a0, vI (0 : Int32), vR a2, vI (0 : Int32), vI (2 : Int32), vI (0 : Int32), .unset] [(.ref a0)])) _
    refine XS.iloadN X0.here hx rfl (hb hby d13_11) rfl ?_
    refine X0.caload hx (j := (0 : Int32)) (v := (.int c0)) (by rw [e0]; exact Ar5.1) (State.isArrayOf_alike hZ.alike Ar5.2.1) Ar5.2.2 hin5 hat5 (g := (mkF m 12 #[vR a0, vI (0 : Int32), vR a2, vI (0 : Int32), vI (2 : Int32), vI (0 : Int32), .unset] [(.int (0 : Int32)), (.ref a0)])) rfl rfl (hb hby d13_12) _ ?_
    show Steps p.tables e below (s₁.setTop (mkF m 13 #[vR a0, vI (0 : Int32), vR a2, vI (0 : Int32), vI (2 : Int32), vI (0 : Int32), .unset] [(.int c0)])) _
    refine XS.istore X0.here hx rfl (hb hby d13_13) rfl (l' := #[vR a0, vI (0 : Int32), vR a2, vI (0 : Int32), vI (2 : Int32), vI (0 : Int32), vI c0]) rfl ?_
    refine XS.iload X0.here hx rfl (hb hby d13_15) rfl ?_
    show Steps p.tables e below (s₁.setTop (mkF m 17 #[vR a0, vI (0 : Int32), vR a2, vI (0 : Int32), vI (2 : Int32), vI (0 : Int32), vI c0] [(.int c0)])) _
    refine XS.sipush X0.here hx rfl (hb hby d13_17) ?_
    refine XS.icmpYes X0.here hx rfl (pc0 := 20) (pc' := 26) rfl (hb hby d13_20) rfl (flt c_3).2.2.2 (by decide) (by decide) ?_
    show Steps p.tables e below (s₁.setTop (mkF m 26 #[vR a0, vI (0 : Int32), vR a2, vI (0 : Int32), vI (2 : Int32), vI (0 : Int32), vI c0] [])) _
    refine XS.aloadN X0.here hx rfl (hb hby d13_26) rfl rfl ?_
    refine XS.iloadN X0.here hx rfl (hb hby d13_27) rfl ?_
    show Steps p.tables e below (s₁.setTop (mkF m 28 #[vR a0, vI (0 : Int32), vR a2, vI (0 : Int32), vI (2 : Int32), vI (0 : Int32), vI c0] [(.int (0 : Int32)), (.ref a2)])) _
    refine XS.iload X0.here hx rfl (hb hby d13_28) rfl ?_
    refine XS.i2b X0.here hx rfl (hb hby d13_30) rfl ?_
    show Steps p.tables e below (s₁.setTop (mkF m 31 #[vR a0, vI (0 : Int32), vR a2, vI (0 : Int32), vI (2 : Int32), vI (0 : Int32), vI c0] [(.int (c0.toInt8.toInt32)), (.int (0 : Int32)), (.ref a2)])) _
    refine st7 _ ?_
    refine XS.iinc X7.here hx rfl (hb hby d13_32) rfl (l' := #[vR a0, vI (1 : Int32), vR a2, vI (0 : Int32), vI (2 : Int32), vI (0 : Int32), vI c0]) rfl ?_
    show Steps p.tables e below (T7.setTop (mkF m 35 #[vR a0, vI (1 : Int32), vR a2, vI (0 : Int32), vI (2 : Int32), vI (0 : Int32), vI c0] [])) _
    refine XS.iinc X7.here hx rfl (hb hby d13_35) rfl (l' := #[vR a0, vI (1 : Int32), vR a2, vI (1 : Int32), vI (2 : Int32), vI (0 : Int32), vI c0]) rfl ?_
    refine XS.iinc X7.here hx rfl (hb hby d13_38) rfl (l' := #[vR a0, vI (1 : Int32), vR a2, vI (1 : Int32), vI (2 : Int32), vI (1 : Int32), vI c0]) rfl ?_
    show Steps p.tables e below (T7.setTop (mkF m 41 #[vR a0, vI (1 : Int32), vR a2, vI (1 : Int32), vI (2 : Int32), vI (1 : Int32), vI c0] [])) _
    refine XS.goto X7.here hx rfl (pc0 := 41) (pc' := 3) rfl (hb hby d13_41) (by decide) (by decide) ?_
    refine XS.iload X7.here hx rfl (hb hby d13_3) rfl ?_
    show Steps p.tables e below (T7.setTop (mkF m 5 #[vR a0, vI (1 : Int32), vR a2, vI (1 : Int32), vI (2 : Int32), vI (1 : Int32), vI c0] [(.int (1 : Int32))])) _
    refine XS.iload X7.here hx rfl (hb hby d13_5) rfl ?_
    refine XS.icmpNo X7.here hx rfl (hb hby d13_7) rfl (tlt (by decide : (1 : Int32) < (2 : Int32))).2.1 ?_
    show Steps p.tables e below (T7.setTop (mkF m 10 #[vR a0, vI (1 : Int32), vR a2, vI (1 : Int32), vI (2 : Int32), vI (1 : Int32), vI c0] [])) _
    refine XS.aloadN X7.here hx rfl (hb hby d13_10) rfl rfl ?_
    refine XS.iloadN X7.here hx rfl (hb hby d13_11) rfl ?_
    show Steps p.tables e below (T7.setTop (mkF m 12 #[vR a0, vI (1 : Int32), vR a2, vI (1 : Int32), vI (2 : Int32), vI (1 : Int32), vI c0] [(.int (1 : Int32)), (.ref a0)])) _
    refine X7.caload hx (j := (1 : Int32)) (v := (.int c1)) (by rw [e7]; exact Ar12.1) (State.isArrayOf_alike hZ.alike Ar12.2.1) Ar12.2.2 hin12 hat12 (g := (mkF m 12 #[vR a0, vI (1 : Int32), vR a2, vI (1 : Int32), vI (2 : Int32), vI (1 : Int32), vI c0] [(.int (1 : Int32)), (.ref a0)])) rfl rfl (hb hby d13_12) _ ?_
    refine XS.istore X7.here hx rfl (hb hby d13_13) rfl (l' := #[vR a0, vI (1 : Int32), vR a2, vI (1 : Int32), vI (2 : Int32), vI (1 : Int32), vI c1]) rfl ?_
    show Steps p.tables e below (T7.setTop (mkF m 15 #[vR a0, vI (1 : Int32), vR a2, vI (1 : Int32), vI (2 : Int32), vI (1 : Int32), vI c1] [])) _
    refine XS.iload X7.here hx rfl (hb hby d13_15) rfl ?_
    refine XS.sipush X7.here hx rfl (hb hby d13_17) ?_
    show Steps p.tables e below (T7.setTop (mkF m 20 #[vR a0, vI (1 : Int32), vR a2, vI (1 : Int32), vI (2 : Int32), vI (1 : Int32), vI c1] [(.int (255 : Int32)), (.int c1)])) _
    refine XS.icmpYes X7.here hx rfl (pc0 := 20) (pc' := 26) rfl (hb hby d13_20) rfl (flt c_4).2.2.2 (by decide) (by decide) ?_
    refine XS.aloadN X7.here hx rfl (hb hby d13_26) rfl rfl ?_
    show Steps p.tables e below (T7.setTop (mkF m 27 #[vR a0, vI (1 : Int32), vR a2, vI (1 : Int32), vI (2 : Int32), vI (1 : Int32), vI c1] [(.ref a2)])) _
    refine XS.iloadN X7.here hx rfl (hb hby d13_27) rfl ?_
    refine XS.iload X7.here hx rfl (hb hby d13_28) rfl ?_
    show Steps p.tables e below (T7.setTop (mkF m 30 #[vR a0, vI (1 : Int32), vR a2, vI (1 : Int32), vI (2 : Int32), vI (1 : Int32), vI c1] [(.int c1), (.int (1 : Int32)), (.ref a2)])) _
    refine XS.i2b X7.here hx rfl (hb hby d13_30) rfl ?_
    refine st14 _ ?_
    show Steps p.tables e below (T14.setTop (mkF m 32 #[vR a0, vI (1 : Int32), vR a2, vI (1 : Int32), vI (2 : Int32), vI (1 : Int32), vI c1] [])) _
    refine XS.iinc X14.here hx rfl (hb hby d13_32) rfl (l' := #[vR a0, vI (2 : Int32), vR a2, vI (1 : Int32), vI (2 : Int32), vI (1 : Int32), vI c1]) rfl ?_
    refine XS.iinc X14.here hx rfl (hb hby d13_35) rfl (l' := #[vR a0, vI (2 : Int32), vR a2, vI (2 : Int32), vI (2 : Int32), vI (1 : Int32), vI c1]) rfl ?_
    show Steps p.tables e below (T14.setTop (mkF m 38 #[vR a0, vI (2 : Int32), vR a2, vI (2 : Int32), vI (2 : Int32), vI (1 : Int32), vI c1] [])) _
    refine XS.iinc X14.here hx rfl (hb hby d13_38) rfl (l' := #[vR a0, vI (2 : Int32), vR a2, vI (2 : Int32), vI (2 : Int32), vI (2 : Int32), vI c1]) rfl ?_
    refine XS.goto X14.here hx rfl (pc0 := 41) (pc' := 3) rfl (hb hby d13_41) (by decide) (by decide) ?_
    show Steps p.tables e below (T14.setTop (mkF m 3 #[vR a0, vI (2 : Int32), vR a2, vI (2 : Int32), vI (2 : Int32), vI (2 : Int32), vI c1] [])) _
    refine XS.iload X14.here hx rfl (hb hby d13_3) rfl ?_
    refine XS.iload X14.here hx rfl (hb hby d13_5) rfl ?_
    show Steps p.tables e below (T14.setTop (mkF m 7 #[vR a0, vI (2 : Int32), vR a2, vI (2 : Int32), vI (2 : Int32), vI (2 : Int32), vI c1] [(.int (2 : Int32)), (.int (2 : Int32))])) _
    refine XS.icmpYes X14.here hx rfl (pc0 := 7) (pc' := 44) rfl (hb hby d13_7) rfl (flt (by decide : ¬ ((2 : Int32) < (2 : Int32)))).2.1 (by decide) (by decide) ?_
    refine XS.iload X14.here hx rfl (hb hby d13_44) rfl ?_
    show Steps p.tables e below (T14.setTop (mkF m 46 #[vR a0, vI (2 : Int32), vR a2, vI (2 : Int32), vI (2 : Int32), vI (2 : Int32), vI c1] [(.int (2 : Int32))])) _
    exact retI X14 hx Bd.returns (hb hby d13_46) hr
  · show Q13s2 Z c0 c1 kc kb a0 a2 h0 n0 _ T14.heap _
    rw [e14]
    exact ⟨rfl, N14, K_16, f_15⟩
theorem pd_3 : parseMethodDescriptor "([CI[BII)I" = some ⟨[(.array .char), .int, (.array .byte), .int, .int], some .int⟩ := by decide +kernel
theorem d12_0 : decode jdk_52_method_16_code 0 = .ok (.iload_n 2, 1) := by decide +kernel
theorem d12_1 : decode jdk_52_method_16_code 1 = .ok (.newarray .byte, 2) := by decide +kernel
theorem d12_3 : decode jdk_52_method_16_code 3 = .ok (.astore_n 3, 1) := by decide +kernel
theorem d12_4 : decode jdk_52_method_16_code 4 = .ok (.aload_n 0, 1) := by decide +kernel
theorem d12_5 : decode jdk_52_method_16_code 5 = .ok (.iload_n 1, 1) := by decide +kernel
theorem d12_6 : decode jdk_52_method_16_code 6 = .ok (.aload_n 3, 1) := by decide +kernel
theorem d12_7 : decode jdk_52_method_16_code 7 = .ok (.iconst 0, 1) := by decide +kernel
theorem d12_8 : decode jdk_52_method_16_code 8 = .ok (.iload_n 2, 1) := by decide +kernel
theorem d12_9 : decode jdk_52_method_16_code 9 = .ok (.invokestatic 115, 3) := by decide +kernel
theorem d12_12 : decode jdk_52_method_16_code 12 = .ok (.istore 4, 2) := by decide +kernel
theorem d12_14 : decode jdk_52_method_16_code 14 = .ok (.iload 4, 2) := by decide +kernel
theorem d12_16 : decode jdk_52_method_16_code 16 = .ok (.iload_n 2, 1) := by decide +kernel
theorem d12_17 : decode jdk_52_method_16_code 17 = .ok (.if_icmp .eq 40, 3) := by decide +kernel
theorem d12_57 : decode jdk_52_method_16_code 57 = .ok (.aload_n 3, 1) := by decide +kernel
theorem d12_58 : decode jdk_52_method_16_code 58 = .ok (.areturn, 1) := by decide +kernel
theorem ef_12 (m : MethodId) (x0 : Addr) (x1 : Int32) (x2 : Int32) : entryFrame m #[(.ref x0), (.int x1), (.int x2)] 6 = mkF m 0 #[vR x0, vI x1, vI x2, .unset, .unset, .unset] [] := by first | (simp [entryFrame, mkF, argsToLocals, Value.category]; done) | rfl
def Q12s2 (Z : State) (c0 : Int32) (c1 : Int32) (kc : ClassId) (a0 : Addr) (h0 : Heap) (n0 : Nat) (v : Option Value) (h : Heap) (L : List Loc) : Prop := ∃ b4 : Addr, ∃ k4 : ClassId, v = some (.ref b4) ∧ Fr n0 L ∧ Keep h0 h [] ∧ h0.size ≤ b4 ∧ Arv Z h b4 k4 .byte (2 : Int32) [(.int (nar .byte (c0.toInt8.toInt32))), (.int (nar .byte (c1.toInt8.toInt32)))] (.int (0 : Int32))
set_option maxRecDepth 65536 in
set_option maxHeartbeats 40000000 in
theorem rm12s2 (l : Launch) (Z : State) (A0 : Array Value) (hw : ∀ d ∈ tables_1, d.before A0 Z = true) (ws : List Jvm.Cond) (c0 : Int32) (c1 : Int32) (kc : ClassId) (a0 : Addr) (h0 : Heap) (n0 : Nat) (OLD : Old Z n0 h0) (f_1 : Arv Z h0 a0 kc .char (2 : Int32) [(.int c0), (.int c1)] (.int (0 : Int32))) (c_2 : ¬ ((255 : Int32) < c0)) (c_3 : ¬ ((255 : Int32) < c1)) :
    MetFree l (⟨"java/lang/StringUTF16", "compress", "([CII)[B"⟩ : MethodName) (head1 (Jvm.Cond.code (⟨"java/lang/StringUTF16", "compress", "([CII)[B"⟩ : MethodName) jdk_52_method_16_code 6 (some (.array .byte)) :: ws) ({ frames := 1, cells := 1, slots := 2, locals := 18 } : Room)) (fun a U => a = #[(.ref a0), (.int (0 : Int32)), (.int (2 : Int32))] ∧ Z.Warmed39 U.vm ∧ U.heap = h0) (fun _ _ _ _ _ => True) (fun _ U o U' => ∃ v L, o = .returned v ∧ Q12s2 Z c0 c1 kc a0 h0 n0 v U'.heap L ∧ FrameEnd U o U' L ({ frames := 1, cells := 1, slots := 2, locals := 18 } : Room).cells ({ frames := 1, cells := 1, slots := 2, locals := 18 } : Room).slots) := by
  refine MetFree.of_bodySF (plainFor_of_name pn_java_lang_StringUTF16) hisR ?_
  intro p e s m args below meth c s₁ Bd hml0 hP hK
  obtain ⟨rfl, hZ, hh⟩ := hP
  have hx := Bd.exec
  have hby := Bd.bytes
  have hml : c.maxLocals = 6 := hml0
  have hown : s.vm.findClass "java/lang/StringUTF16" = some m.cls := findClass_of_methodNamed Bd.named
  have hnm := (name_of_methodNamed Bd.named Bd.method).1
  have X0 : Stand p l e ({ frames := 1, cells := 1, slots := 2, locals := 18 } : Room) s m #[(.ref a0), (.int (0 : Int32)), (.int (2 : Int32))] below meth c s₁ [] 0 0 := Stand.of_body Bd
  have e0 : s₁.heap = h0 := by rw [← hh, Bd.state]; rfl
  have N0 := Fr.nil n0
  have pre0 : ∀ t, Steps p.tables e below (s₁.setTop (mkF m 0 #[vR a0, vI (0 : Int32), vI (2 : Int32), .unset, .unset, .unset] [])) t → Steps p.tables e below (s₁.setTop (entryFrame m #[(.ref a0), (.int (0 : Int32)), (.int (2 : Int32))] 6)) t := fun t k => castTop (ef_12 m a0 (0 : Int32) (2 : Int32)) k
  obtain ⟨T4, h4, k4, X4, e4, E4, A4, st4⟩ := newP X0 hx hZ (hw _ (List.mem_of_getElem? (i := 24) rfl)) e0 (g := (mkF m 1 #[vR a0, vI (0 : Int32), vI (2 : Int32), .unset, .unset, .unset] [(.int (2 : Int32))])) rfl (hb hby d12_1) rfl (by decide) (cap := 2) (by decide) (by decide) (by decide) (by decide)
  obtain ⟨b4, g4⟩ : ∃ z, z = h0.size := ⟨_, rfl⟩
  rw [← g4] at A4 st4
  have K_5 : Keep h0 h4 [] := (Keep.refl h0 []).ext E4
  have f_6 : Arv Z h4 b4 k4 .byte (2 : Int32) [(.int (0 : Int32)), (.int (0 : Int32))] (.int (0 : Int32)) := (Arv.new A4 (by decide)).pad (pad_rep [] (.int (0 : Int32)) 2)
  have f_7 := f_1.ext E4
  have ge_8 : n0 ≤ b4 := own_ge OLD (Nat.le_of_eq g4.symm)
  have ne_9 : a0 ≠ b4 := Nat.ne_of_lt (Nat.lt_of_lt_of_le f_1.lt (Nat.le_of_eq g4.symm))
  have O_11 := Old.ext OLD E4
  obtain ⟨_, _, ⟨T10, L10, k10, n10⟩, -, X10, ⟨Lc10, hQ10, l10, y10, z10⟩, st10⟩ := Jvm.LawKit.callS X4 hx (y := (⟨"java/lang/StringUTF16", "compress", "([CI[BII)I"⟩ : MethodName)) hown (mvT hZ (hw _ (List.mem_of_getElem? (i := 69) rfl))) (mvT hZ (hw _ (List.mem_of_getElem? (i := 70) rfl))) (mvT hZ (hw _ (List.mem_of_getElem? (i := 67) rfl))) (mvT hZ (hw _ (List.mem_of_getElem? (i := 71) rfl))) (by decide) (backOf (W := 0) (rm13s2 l Z A0 hw [] c0 c1 kc k4 a0 b4 h4 n0 O_11 f_7 f_6 c_2 c_3 ge_8 ne_9) hZ (hw _ (List.mem_of_getElem? (i := 71) rfl)) (hw _ (List.mem_of_getElem? (i := 67) rfl)) (by decide) (by decide)) (g := (mkF m 9 #[vR a0, vI (0 : Int32), vI (2 : Int32), vR b4, .unset, .unset] [(.int (2 : Int32)), (.int (0 : Int32)), (.ref b4), (.int (0 : Int32)), (.ref a0)])) rfl (by rw [hml]; rfl) (argsL := [(.ref a0), (.int (0 : Int32)), (.ref b4), (.int (0 : Int32)), (.int (2 : Int32))]) (rest := []) (lenOf pd_3 rfl) rfl (by show 2 * 0 + _ ≤ _; exact Nat.le_of_eq rfl) (hb hby d12_9) (fun _ _ => ⟨rfl, e4, (by decide : 1 + 0 ≤ _), (by decide : 2 + 0 ≤ _)⟩)
  dsimp only [Pt.U, Pt.locs, Pt.cells, Pt.slots] at X10 l10 y10 z10 st10 hQ10
  subst l10 y10 z10
  obtain ⟨rfl, N10q, K10, g10_0⟩ := hQ10
  have N10 := Fr.app N0 N10q
  have K_12 : Keep h0 T10.heap [] := Keep.trans K_5 K10 (allS (Or.inr (Nat.le_trans (Keep.refl h0 []).1 (Nat.le_of_eq g4.symm))) all0)
  obtain ⟨fs, hr, hrun, hended, hW, hsame⟩ := X10.leave (v := some (.ref b4)) (fun h => by rw [Bd.returns] at h; cases h)
  refine ⟨_, _, pre0 _ ?_, hrun, hended, _, _, rfl, ?_, ⟨_, rfl⟩, hW, hsame.mono (by decide) (by decide)⟩
  · show Steps p.tables e below (s₁.setTop (mkF m 0 #[vR a0, vI (0 : Int32), vI (2 : Int32), .unset, .unset, .unset] [])) _
    refine XS.iloadN X0.here hx rfl (hb hby d12_0) rfl ?_
    refine st4 _ ?_
    show Steps p.tables e below (T4.setTop (mkF m 3 #[vR a0, vI (0 : Int32), vI (2 : Int32), .unset, .unset, .unset] [(.ref b4)])) _
    refine XS.astoreN X4.here hx rfl (hb hby d12_3) rfl rfl (l' := #[vR a0, vI (0 : Int32), vI (2 : Int32), vR b4, .unset, .unset]) rfl ?_
    refine XS.aloadN X4.here hx rfl (hb hby d12_4) rfl rfl ?_
    show Steps p.tables e below (T4.setTop (mkF m 5 #[vR a0, vI (0 : Int32), vI (2 : Int32), vR b4, .unset, .unset] [(.ref a0)])) _
    refine XS.iloadN X4.here hx rfl (hb hby d12_5) rfl ?_
    refine XS.aloadN X4.here hx rfl (hb hby d12_6) rfl rfl ?_
    show Steps p.tables e below (T4.setTop (mkF m 7 #[vR a0, vI (0 : Int32), vI (2 : Int32), vR b4, .unset, .unset] [(.ref b4), (.int (0 : Int32)), (.ref a0)])) _
    refine XS.iconst X4.here hx rfl (hb hby d12_7) ?_
    refine XS.iloadN X4.here hx rfl (hb hby d12_8) rfl ?_
    show Steps p.tables e below (T4.setTop (mkF m 9 #[vR a0, vI (0 : Int32), vI (2 : Int32), vR b4, .unset, .unset] [(.int (2 : Int32)), (.int (0 : Int32)), (.ref b4), (.int (0 : Int32)), (.ref a0)])) _
    refine st10 _ ?_
    refine XS.istore X10.here hx rfl (hb hby d12_12) rfl (l' := #[vR a0, vI (0 : Int32), vI (2 : Int32), vR b4, vI (2 : Int32), .unset]) rfl ?_
    show Steps p.tables e below (T10.setTop (mkF m 14 #[vR a0, vI (0 : Int32), vI (2 : Int32), vR b4, vI (2 : Int32), .unset] [])) _
    refine XS.iload X10.here hx rfl (hb hby d12_14) rfl ?_
    refine XS.iloadN X10.here hx rfl (hb hby d12_16) rfl ?_
    show Steps p.tables e below (T10.setTop (mkF m 17 #[vR a0, vI (0 : Int32), vI (2 : Int32), vR b4, vI (2 : Int32), .unset] [(.int (2 : Int32)), (.int (2 : Int32))])) _
    refine XS.icmpYes X10.here hx rfl (pc0 := 17) (pc' := 57) rfl (hb hby d12_17) rfl (teq (by decide : (2 : Int32) = (2 : Int32))).1 (by decide) (by decide) ?_
    refine XS.aloadN X10.here hx rfl (hb hby d12_57) rfl rfl ?_
    show Steps p.tables e below (T10.setTop (mkF m 58 #[vR a0, vI (0 : Int32), vI (2 : Int32), vR b4, vI (2 : Int32), .unset] [(.ref b4)])) _
    jvm_step X10.here [X10.here.top, hx, (hb hby d12_58), X10.method', Bd.returns, Value.isRef, FieldType.isReference]
    first | (intro acts; rw [hr _ acts rfl rfl rfl]) | rw [hr _ _ rfl rfl rfl]
    exact Steps.refl _
  · show Q12s2 Z c0 c1 kc a0 h0 n0 _ T10.heap _
    exact ⟨b4, k4, rfl, N10, K_12, (Nat.le_trans (Keep.refl h0 []).1 (Nat.le_of_eq g4.symm)), g10_0⟩
theorem d14_0 : decode jdk_52_method_15_code 0 = .ok (.iload_n 1, 1) := by decide +kernel
theorem d14_1 : decode jdk_52_method_15_code 1 = .ok (.aload_n 0, 1) := by decide +kernel
theorem d14_2 : decode jdk_52_method_15_code 2 = .ok (.arraylength, 1) := by decide +kernel
theorem d14_3 : decode jdk_52_method_15_code 3 = .ok (.isub, 1) := by decide +kernel
theorem d14_4 : decode jdk_52_method_15_code 4 = .ok (.bipush 31, 2) := by decide +kernel
theorem d14_6 : decode jdk_52_method_15_code 6 = .ok (.iushr, 1) := by decide +kernel
theorem d14_7 : decode jdk_52_method_15_code 7 = .ok (.i2b, 1) := by decide +kernel
theorem d14_8 : decode jdk_52_method_15_code 8 = .ok (.ireturn, 1) := by decide +kernel
theorem ef_14 (m : MethodId) (x0 : Addr) (x1 : Int32) : entryFrame m #[(.ref x0), (.int x1)] 2 = mkF m 0 #[vR x0, vI x1] [] := by first | (simp [entryFrame, mkF, argsToLocals, Value.category]; done) | rfl
def Q14s2 (Z : State) (d0 : Int32) (d1 : Int32) (kb : ClassId) (a0 : Addr) (h0 : Heap) (n0 : Nat) (v : Option Value) (h : Heap) (L : List Loc) : Prop := v = some (.int (0 : Int32)) ∧ Fr n0 L ∧ h = h0
set_option maxRecDepth 65536 in
set_option maxHeartbeats 40000000 in
theorem rm14s2 (l : Launch) (Z : State) (A0 : Array Value) (hw : ∀ d ∈ tables_1, d.before A0 Z = true) (ws : List Jvm.Cond) (d0 : Int32) (d1 : Int32) (kb : ClassId) (a0 : Addr) (h0 : Heap) (n0 : Nat) (OLD : Old Z n0 h0) (f_1 : Arv Z h0 a0 kb .byte (2 : Int32) [(.int d0), (.int d1)] (.int (0 : Int32))) :
    MetFree l (⟨"java/lang/StringUTF16", "coderFromArrayLen", "([BI)B"⟩ : MethodName) (head1 (Jvm.Cond.code (⟨"java/lang/StringUTF16", "coderFromArrayLen", "([BI)B"⟩ : MethodName) jdk_52_method_15_code 2 (some .byte) :: ws) ({ frames := 0, cells := 0, slots := 0, locals := 0 } : Room)) (fun a U => a = #[(.ref a0), (.int (2 : Int32))] ∧ Z.Warmed39 U.vm ∧ U.heap = h0) (fun _ _ _ _ _ => True) (fun _ U o U' => ∃ v L, o = .returned v ∧ Q14s2 Z d0 d1 kb a0 h0 n0 v U'.heap L ∧ FrameEnd U o U' L ({ frames := 0, cells := 0, slots := 0, locals := 0 } : Room).cells ({ frames := 0, cells := 0, slots := 0, locals := 0 } : Room).slots) := by
  refine MetFree.of_bodySF (plainFor_of_name pn_java_lang_StringUTF16) hisR ?_
  intro p e s m args below meth c s₁ Bd hml0 hP hK
  obtain ⟨rfl, hZ, hh⟩ := hP
  have hx := Bd.exec
  have hby := Bd.bytes
  have hml : c.maxLocals = 2 := hml0
  have hown : s.vm.findClass "java/lang/StringUTF16" = some m.cls := findClass_of_methodNamed Bd.named
  have hnm := (name_of_methodNamed Bd.named Bd.method).1
  have X0 : Stand p l e ({ frames := 0, cells := 0, slots := 0, locals := 0 } : Room) s m #[(.ref a0), (.int (2 : Int32))] below meth c s₁ [] 0 0 := Stand.of_body Bd
  have e0 : s₁.heap = h0 := by rw [← hh, Bd.state]; rfl
  have N0 := Fr.nil n0
  have pre0 : ∀ t, Steps p.tables e below (s₁.setTop (mkF m 0 #[vR a0, vI (2 : Int32)] [])) t → Steps p.tables e below (s₁.setTop (entryFrame m #[(.ref a0), (.int (2 : Int32))] 2)) t := fun t k => castTop (ef_14 m a0 (2 : Int32)) k
  obtain ⟨cl2, Ar2, -, s2, n2, -, -⟩ := id (f_1)
  obtain ⟨fs, hr, hrun, hended, hW, hsame⟩ := X0.leave (v := some (.int (0 : Int32))) (fun h => by rw [Bd.returns] at h; cases h)
  refine ⟨_, _, pre0 _ ?_, hrun, hended, _, _, rfl, ?_, ⟨_, rfl⟩, hW, hsame.mono (by decide) (by decide)⟩
  · show Steps p.tables e below (s₁.setTop (mkF m 0 #[vR a0, vI (2 : Int32)] [])) _
    refine XS.iloadN X0.here hx rfl (hb hby d14_0) rfl ?_
    refine XS.aloadN X0.here hx rfl (hb hby d14_1) rfl rfl ?_
    show Steps p.tables e below (s₁.setTop (mkF m 2 #[vR a0, vI (2 : Int32)] [(.ref a0), (.int (2 : Int32))])) _
    refine X0.arraylength hx (by rw [e0]; exact Ar2.1) (State.isArrayOf_alike hZ.alike Ar2.2.1) (g := (mkF m 2 #[vR a0, vI (2 : Int32)] [(.ref a0), (.int (2 : Int32))])) rfl rfl (hb hby d14_2) _ ?_
    rw [len_of s2 n2]
    refine XS.isub X0.here hx rfl (hb hby d14_3) rfl ?_
    show Steps p.tables e below (s₁.setTop (mkF m 4 #[vR a0, vI (2 : Int32)] [(.int (0 : Int32))])) _
    refine XS.bipush X0.here hx rfl (hb hby d14_4) ?_
    refine XS.iushr X0.here hx rfl (hb hby d14_6) rfl ?_
    show Steps p.tables e below (s₁.setTop (mkF m 7 #[vR a0, vI (2 : Int32)] [(.int (0 : Int32))])) _
    refine XS.i2b X0.here hx rfl (hb hby d14_7) rfl ?_
    show Steps p.tables e below (s₁.setTop (mkF m 8 #[vR a0, vI (2 : Int32)] [(.int (0 : Int32))])) _
    exact retN X0 hx (t := .byte) Bd.returns (by simp) (hb hby d14_8) hr
  · show Q14s2 Z d0 d1 kb a0 h0 n0 _ s₁.heap _
    rw [e0]
    exact ⟨rfl, N0, rfl⟩
theorem pd_4 : parseMethodDescriptor "([CII)[B" = some ⟨[(.array .char), .int, .int], some (.array .byte)⟩ := by decide +kernel
theorem pd_5 : parseMethodDescriptor "([BI)B" = some ⟨[(.array .byte), .int], some .byte⟩ := by decide +kernel
theorem d11_0 : decode jdk_42_method_149_code 0 = .ok (.aload_n 0, 1) := by decide +kernel
theorem d11_1 : decode jdk_42_method_149_code 1 = .ok (.invokespecial 1, 3) := by decide +kernel
theorem d11_4 : decode jdk_42_method_149_code 4 = .ok (.iload_n 3, 1) := by decide +kernel
theorem d11_5 : decode jdk_42_method_149_code 5 = .ok (.ifCond .ne 22, 3) := by decide +kernel
theorem d11_27 : decode jdk_42_method_149_code 27 = .ok (.getstatic 38, 3) := by decide +kernel
theorem d11_30 : decode jdk_42_method_149_code 30 = .ok (.ifCond .eq 28, 3) := by decide +kernel
theorem d11_33 : decode jdk_42_method_149_code 33 = .ok (.aload_n 1, 1) := by decide +kernel
theorem d11_34 : decode jdk_42_method_149_code 34 = .ok (.iload_n 2, 1) := by decide +kernel
theorem d11_35 : decode jdk_42_method_149_code 35 = .ok (.iload_n 3, 1) := by decide +kernel
theorem d11_36 : decode jdk_42_method_149_code 36 = .ok (.invokestatic 177, 3) := by decide +kernel
theorem d11_39 : decode jdk_42_method_149_code 39 = .ok (.astore 5, 2) := by decide +kernel
theorem d11_41 : decode jdk_42_method_149_code 41 = .ok (.aload_n 0, 1) := by decide +kernel
theorem d11_42 : decode jdk_42_method_149_code 42 = .ok (.aload 5, 2) := by decide +kernel
theorem d11_44 : decode jdk_42_method_149_code 44 = .ok (.iload_n 3, 1) := by decide +kernel
theorem d11_45 : decode jdk_42_method_149_code 45 = .ok (.invokestatic 47, 3) := by decide +kernel
theorem d11_48 : decode jdk_42_method_149_code 48 = .ok (.putfield 15, 3) := by decide +kernel
theorem d11_51 : decode jdk_42_method_149_code 51 = .ok (.aload_n 0, 1) := by decide +kernel
theorem d11_52 : decode jdk_42_method_149_code 52 = .ok (.aload 5, 2) := by decide +kernel
theorem d11_54 : decode jdk_42_method_149_code 54 = .ok (.putfield 9, 3) := by decide +kernel
theorem d11_57 : decode jdk_42_method_149_code 57 = .ok (.return_, 1) := by decide +kernel
theorem ef_11n4 (m : MethodId) (x0 : Addr) (x1 : Addr) (x2 : Int32) (x3 : Int32) : entryFrame m #[(.ref x0), (.ref x1), (.int x2), (.int x3), .null] 6 = mkF m 0 #[vR x0, vR x1, vI x2, vI x3, .val .null, .unset] [] := by first | (simp [entryFrame, mkF, argsToLocals, Value.category]; done) | rfl
def Q11s2 (Z : State) (c0 : Int32) (c1 : Int32) (kc : ClassId) (w_COMPACT_STRINGS : Int32) (a0 : Addr) (a1 : Addr) (u_coder_a0 : Value) (u_value_a0 : Value) (h0 : Heap) (n0 : Nat) (v : Option Value) (h : Heap) (L : List Loc) : Prop := ∃ b4_8 : Addr, ∃ k4_8 : ClassId, v = none ∧ Fr n0 L ∧ Keep h0 h [a0] ∧ h0.size ≤ b4_8 ∧ Arv Z h b4_8 k4_8 .byte (2 : Int32) [(.int (nar .byte (c0.toInt8.toInt32))), (.int (nar .byte (c1.toInt8.toInt32)))] (.int (0 : Int32)) ∧ Exa Z h a0 "java/lang/String" ∧ Fld Z h a0 "java/lang/String" "coder" "B" (.int (0 : Int32)) ∧ Fld Z h a0 "java/lang/String" "value" "[B" (.ref b4_8)
set_option maxRecDepth 65536 in
set_option maxHeartbeats 40000000 in
theorem rm11s2 (l : Launch) (Z : State) (A0 : Array Value) (hw : ∀ d ∈ tables_1, d.before A0 Z = true) (ws : List Jvm.Cond) (c0 : Int32) (c1 : Int32) (kc : ClassId) (w_COMPACT_STRINGS : Int32) (a0 : Addr) (a1 : Addr) (u_coder_a0 : Value) (u_value_a0 : Value) (h0 : Heap) (n0 : Nat) (OLD : Old Z n0 h0) (f_1 : Arv Z h0 a1 kc .char (2 : Int32) [(.int c0), (.int c1)] (.int (0 : Int32))) (c_2 : ¬ ((255 : Int32) < c0)) (c_3 : ¬ ((255 : Int32) < c1)) (c_4 : ¬ (w_COMPACT_STRINGS = (0 : Int32))) (f_6 : Sta Z Z.heap "java/lang/String" "COMPACT_STRINGS" "Z" (.int w_COMPACT_STRINGS)) (f_12 : Exa Z h0 a0 "java/lang/String") (f_14 : Fld Z h0 a0 "java/lang/String" "coder" "B" u_coder_a0) (ge_a0 : n0 ≤ a0) (f_20 : Fld Z h0 a0 "java/lang/String" "value" "[B" u_value_a0) :
    MetFree l (⟨"java/lang/String", "<init>", "([CIILjava/lang/Void;)V"⟩ : MethodName) (head1 (Jvm.Cond.code (⟨"java/lang/String", "<init>", "([CIILjava/lang/Void;)V"⟩ : MethodName) jdk_42_method_149_code 6 none :: ws) ({ frames := 2, cells := 1, slots := 2, locals := 35 } : Room)) (fun a U => a = #[(.ref a0), (.ref a1), (.int (0 : Int32)), (.int (2 : Int32)), .null] ∧ Z.Warmed39 U.vm ∧ U.heap = h0) (fun _ _ _ _ _ => True) (fun _ U o U' => ∃ v L, o = .returned v ∧ Q11s2 Z c0 c1 kc w_COMPACT_STRINGS a0 a1 u_coder_a0 u_value_a0 h0 n0 v U'.heap L ∧ FrameEnd U o U' L ({ frames := 2, cells := 1, slots := 2, locals := 35 } : Room).cells ({ frames := 2, cells := 1, slots := 2, locals := 35 } : Room).slots) := by
  refine MetFree.of_bodySF (plainFor_of_name pn_java_lang_String) hisR ?_
  intro p e s m args below meth c s₁ Bd hml0 hP hK
  obtain ⟨rfl, hZ, hh⟩ := hP
  have hx := Bd.exec
  have hby := Bd.bytes
  have hml : c.maxLocals = 6 := hml0
  have hown : s.vm.findClass "java/lang/String" = some m.cls := findClass_of_methodNamed Bd.named
  have hnm := (name_of_methodNamed Bd.named Bd.method).1
  have X0 : Stand p l e ({ frames := 2, cells := 1, slots := 2, locals := 35 } : Room) s m #[(.ref a0), (.ref a1), (.int (0 : Int32)), (.int (2 : Int32)), .null] below meth c s₁ [] 0 0 := Stand.of_body Bd
  have e0 : s₁.heap = h0 := by rw [← hh, Bd.state]; rfl
  have N0 := Fr.nil n0
  have pre0 : ∀ t, Steps p.tables e below (s₁.setTop (mkF m 0 #[vR a0, vR a1, vI (0 : Int32), vI (2 : Int32), .val .null, .unset] [])) t → Steps p.tables e below (s₁.setTop (entryFrame m #[(.ref a0), (.ref a1), (.int (0 : Int32)), (.int (2 : Int32)), .null] 6)) t := fun t k => castTop (ef_11n4 m a0 a1 (0 : Int32) (2 : Int32)) k
  obtain ⟨T5, X5, e5, st5⟩ := initO X0 hx hZ hown (hw _ (List.mem_of_getElem? (i := 29) rfl)) (hw _ (List.mem_of_getElem? (i := 30) rfl)) (hw _ (List.mem_of_getElem? (i := 31) rfl)) e0 (g := (mkF m 1 #[vR a0, vR a1, vI (0 : Int32), vI (2 : Int32), .val .null, .unset] [(.ref a0)])) rfl (by rw [hml]; rfl) rfl (hb hby d11_1) (by decide) (W := 0) (by show 2 * 0 + _ ≤ _; exact Nat.le_of_eq rfl) (by decide)
  obtain ⟨T7, X7, e7, st7⟩ := getS2 X5 hx hZ hown (host := "") (Or.inl (hw _ (List.mem_of_getElem? (i := 14) rfl))) Via.refl e5 (f_6.ext OLD.2) (g := (mkF m 27 #[vR a0, vR a1, vI (0 : Int32), vI (2 : Int32), .val .null, .unset] [])) rfl (hb hby d11_27)
  obtain ⟨_, _, ⟨T8, L8, k8, n8⟩, -, X8, ⟨Lc8, hQ8, l8, y8, z8⟩, st8⟩ := Jvm.LawKit.callS X7 hx (y := (⟨"java/lang/StringUTF16", "compress", "([CII)[B"⟩ : MethodName)) hown (mvT hZ (hw _ (List.mem_of_getElem? (i := 65) rfl))) (mvT hZ (hw _ (List.mem_of_getElem? (i := 66) rfl))) (mvT hZ (hw _ (List.mem_of_getElem? (i := 67) rfl))) (mvT hZ (hw _ (List.mem_of_getElem? (i := 68) rfl))) (by decide) (backOf (W := 0) (rm12s2 l Z A0 hw [] c0 c1 kc a1 h0 n0 OLD f_1 c_2 c_3) hZ (hw _ (List.mem_of_getElem? (i := 68) rfl)) (hw _ (List.mem_of_getElem? (i := 67) rfl)) (by decide) (by decide)) (g := (mkF m 36 #[vR a0, vR a1, vI (0 : Int32), vI (2 : Int32), .val .null, .unset] [(.int (2 : Int32)), (.int (0 : Int32)), (.ref a1)])) rfl (by rw [hml]; rfl) (argsL := [(.ref a1), (.int (0 : Int32)), (.int (2 : Int32))]) (rest := []) (lenOf pd_4 rfl) rfl (by show 2 * 0 + _ ≤ _; exact Nat.le_of_eq rfl) (hb hby d11_36) (fun _ _ => ⟨rfl, e7, (by decide : 0 + 1 ≤ _), (by decide : 0 + 2 ≤ _)⟩)
  dsimp only [Pt.U, Pt.locs, Pt.cells, Pt.slots] at X8 l8 y8 z8 st8 hQ8
  subst l8 y8 z8
  obtain ⟨b4_8, k4_8, rfl, N8q, K8, g8_0, g8_1⟩ := hQ8
  have N8 := Fr.app N0 N8q
  have K_9 : Keep h0 T8.heap [a0] := Keep.trans (Keep.refl h0 [a0]) K8 all0
  have O_11 := Old.keep OLD K8 all0
  obtain ⟨_, _, ⟨T10, L10, k10, n10⟩, -, X10, ⟨Lc10, hQ10, l10, y10, z10⟩, st10⟩ := Jvm.LawKit.callS X8 hx (y := (⟨"java/lang/StringUTF16", "coderFromArrayLen", "([BI)B"⟩ : MethodName)) hown (mvT hZ (hw _ (List.mem_of_getElem? (i := 72) rfl))) (mvT hZ (hw _ (List.mem_of_getElem? (i := 73) rfl))) (mvT hZ (hw _ (List.mem_of_getElem? (i := 67) rfl))) (mvT hZ (hw _ (List.mem_of_getElem? (i := 74) rfl))) (by decide) (backOf (W := 1) (rm14s2 l Z A0 hw [] (nar .byte (c0.toInt8.toInt32)) (nar .byte (c1.toInt8.toInt32)) k4_8 b4_8 T8.heap n0 O_11 g8_1) hZ (hw _ (List.mem_of_getElem? (i := 74) rfl)) (hw _ (List.mem_of_getElem? (i := 67) rfl)) (by decide) (by decide)) (g := (mkF m 45 #[vR a0, vR a1, vI (0 : Int32), vI (2 : Int32), .val .null, vR b4_8] [(.int (2 : Int32)), (.ref b4_8), (.ref a0)])) rfl (by rw [hml]; rfl) (argsL := [(.ref b4_8), (.int (2 : Int32))]) (rest := [(.ref a0)]) (lenOf pd_5 rfl) rfl (by show 2 * 0 + _ ≤ _; exact Nat.le_of_eq rfl) (hb hby d11_45) (fun _ _ => ⟨rfl, rfl, (by decide : 1 + 0 ≤ _), (by decide : 2 + 0 ≤ _)⟩)
  dsimp only [Pt.U, Pt.locs, Pt.cells, Pt.slots] at X10 l10 y10 z10 st10 hQ10
  subst l10 y10 z10
  obtain ⟨rfl, N10q, e10⟩ := hQ10
  have N10 := Fr.app N8 N10q
  have f_13 := f_12.keep K8
  have f_15 := f_14.keep K8 nin0
  obtain ⟨T16, h16, X16, e16, W16, st16⟩ := putFN X10 hx hZ hown (hw _ (List.mem_of_getElem? (i := 34) rfl)) Via.refl e10 f_15 f_13 (Or.inr ⟨(hw _ (List.mem_of_getElem? (i := 35) rfl)), rfl, hnm⟩) (hw _ (List.mem_of_getElem? (i := 20) rfl)) (ty := .byte) (v' := (.int (0 : Int32))) (by decide) (by decide) (by decide) (g := (mkF m 48 #[vR a0, vR a1, vI (0 : Int32), vI (2 : Int32), .val .null, vR b4_8] [(.int (0 : Int32)), (.ref a0)])) rfl rfl (hb hby d11_48)
  have N16 := Fr.snoc X16 N10 ge_a0
  have f_17 := f_15.same W16
  have K_18 : Keep h0 h16 [a0] := K_9.wr W16 (Or.inl (List.mem_of_getElem? (i := 0) rfl))
  have f_19 := f_13.wr W16
  have f_21 := f_20.keep K8 nin0
  have f_22 := f_21.other W16 (Or.inr (slot_ne (Or.inr (hw _ (List.mem_of_getElem? (i := 33) rfl))) (Or.inr (hw _ (List.mem_of_getElem? (i := 35) rfl))) (by decide) (t := (.array .byte)) (t' := .byte) (by decide) (by decide)))
  obtain ⟨T23, h23, X23, e23, W23, st23⟩ := putF X16 hx hZ hown (host := "") (Or.inl (hw _ (List.mem_of_getElem? (i := 32) rfl))) Via.refl e16 f_22 f_19 (Or.inr ⟨(hw _ (List.mem_of_getElem? (i := 33) rfl)), rfl, hnm⟩) (hw _ (List.mem_of_getElem? (i := 20) rfl)) (ty := (.array .byte)) (by decide) rfl rfl (g := (mkF m 54 #[vR a0, vR a1, vI (0 : Int32), vI (2 : Int32), .val .null, vR b4_8] [(.ref b4_8), (.ref a0)])) rfl rfl (hb hby d11_54)
  have N23 := Fr.snoc X23 N16 ge_a0
  have f_24 := f_22.same W23
  have K_25 : Keep h0 h23 [a0] := K_18.wr W23 (Or.inl (List.mem_of_getElem? (i := 0) rfl))
  have ne_26 : b4_8 ≠ a0 := Ne.symm (Nat.ne_of_lt (Nat.lt_of_lt_of_le f_12.lt g8_0))
  have f_27 := g8_1.other W16 ne_26
  have f_28 := f_27.other W23 ne_26
  have f_29 := f_19.wr W23
  have f_30 := f_17.other W23 (Or.inr (slot_ne (Or.inr (hw _ (List.mem_of_getElem? (i := 35) rfl))) (Or.inr (hw _ (List.mem_of_getElem? (i := 33) rfl))) (by decide) (t := .byte) (t' := (.array .byte)) (by decide) (by decide)))
  obtain ⟨fs, hr, hrun, hended, hW, hsame⟩ := X23.leave (v := none) (fun _ => rfl)
  refine ⟨_, _, pre0 _ ?_, hrun, hended, _, _, rfl, ?_, ⟨_, rfl⟩, hW, hsame.mono (by decide) (by decide)⟩
  · show Steps p.tables e below (s₁.setTop (mkF m 0 #[vR a0, vR a1, vI (0 : Int32), vI (2 : Int32), .val .null, .unset] [])) _
    refine XS.aloadN X0.here hx rfl (hb hby d11_0) rfl rfl ?_
    refine st5 _ ?_
    show Steps p.tables e below (T5.setTop (mkF m 4 #[vR a0, vR a1, vI (0 : Int32), vI (2 : Int32), .val .null, .unset] [])) _
    refine XS.iloadN X5.here hx rfl (hb hby d11_4) rfl ?_
    refine XS.ifYes X5.here hx rfl (pc0 := 5) (pc' := 27) rfl (hb hby d11_5) rfl ((if0 _ _).trans (feq (by decide : ¬ ((2 : Int32) = (0 : Int32)))).2) (by decide) (by decide) ?_
    show Steps p.tables e below (T5.setTop (mkF m 27 #[vR a0, vR a1, vI (0 : Int32), vI (2 : Int32), .val .null, .unset] [])) _
    refine st7 _ ?_
    refine XS.ifNo X7.here hx rfl (hb hby d11_30) rfl ((if0 _ _).trans (feq c_4).1) ?_
    show Steps p.tables e below (T7.setTop (mkF m 33 #[vR a0, vR a1, vI (0 : Int32), vI (2 : Int32), .val .null, .unset] [])) _
    refine XS.aloadN X7.here hx rfl (hb hby d11_33) rfl rfl ?_
    refine XS.iloadN X7.here hx rfl (hb hby d11_34) rfl ?_
    show Steps p.tables e below (T7.setTop (mkF m 35 #[vR a0, vR a1, vI (0 : Int32), vI (2 : Int32), .val .null, .unset] [(.int (0 : Int32)), (.ref a1)])) _
    refine XS.iloadN X7.here hx rfl (hb hby d11_35) rfl ?_
    refine st8 _ ?_
    show Steps p.tables e below (T8.setTop (mkF m 39 #[vR a0, vR a1, vI (0 : Int32), vI (2 : Int32), .val .null, .unset] [(.ref b4_8)])) _
    refine XS.astore X8.here hx rfl (hb hby d11_39) rfl rfl (l' := #[vR a0, vR a1, vI (0 : Int32), vI (2 : Int32), .val .null, vR b4_8]) rfl ?_
    refine XS.aloadN X8.here hx rfl (hb hby d11_41) rfl rfl ?_
    show Steps p.tables e below (T8.setTop (mkF m 42 #[vR a0, vR a1, vI (0 : Int32), vI (2 : Int32), .val .null, vR b4_8] [(.ref a0)])) _
    refine XS.aload X8.here hx rfl (hb hby d11_42) rfl rfl ?_
    refine XS.iloadN X8.here hx rfl (hb hby d11_44) rfl ?_
    show Steps p.tables e below (T8.setTop (mkF m 45 #[vR a0, vR a1, vI (0 : Int32), vI (2 : Int32), .val .null, vR b4_8] [(.int (2 : Int32)), (.ref b4_8), (.ref a0)])) _
    refine st10 _ ?_
    refine st16 _ ?_
    show Steps p.tables e below (T16.setTop (mkF m 51 #[vR a0, vR a1, vI (0 : Int32), vI (2 : Int32), .val .null, vR b4_8] [])) _
    refine XS.aloadN X16.here hx rfl (hb hby d11_51) rfl rfl ?_
    refine XS.aload X16.here hx rfl (hb hby d11_52) rfl rfl ?_
    show Steps p.tables e below (T16.setTop (mkF m 54 #[vR a0, vR a1, vI (0 : Int32), vI (2 : Int32), .val .null, vR b4_8] [(.ref b4_8), (.ref a0)])) _
    refine st23 _ ?_
    show Steps p.tables e below (T23.setTop (mkF m 57 #[vR a0, vR a1, vI (0 : Int32), vI (2 : Int32), .val .null, vR b4_8] [])) _
    exact X23.returnOut hx Bd.returns (hb hby d11_57) hr
  · show Q11s2 Z c0 c1 kc w_COMPACT_STRINGS a0 a1 u_coder_a0 u_value_a0 h0 n0 _ T23.heap _
    rw [e23]
    exact ⟨b4_8, k4_8, rfl, N23, K_25, (Nat.le_trans (Keep.refl h0 [a0]).1 g8_0), f_28, f_29, f_30, f_24⟩
theorem pd_6 : parseMethodDescriptor "([CIILjava/lang/Void;)V" = some ⟨[(.array .char), .int, .int, (.object "java/lang/Void")], none⟩ := by decide +kernel
theorem d10_0 : decode jdk_42_method_3_code 0 = .ok (.aload_n 0, 1) := by decide +kernel
theorem d10_1 : decode jdk_42_method_3_code 1 = .ok (.aload_n 1, 1) := by decide +kernel
theorem d10_2 : decode jdk_42_method_3_code 2 = .ok (.iconst 0, 1) := by decide +kernel
theorem d10_3 : decode jdk_42_method_3_code 3 = .ok (.aload_n 1, 1) := by decide +kernel
theorem d10_4 : decode jdk_42_method_3_code 4 = .ok (.arraylength, 1) := by decide +kernel
theorem d10_5 : decode jdk_42_method_3_code 5 = .ok (.aconst_null, 1) := by decide +kernel
theorem d10_6 : decode jdk_42_method_3_code 6 = .ok (.invokespecial 27, 3) := by decide +kernel
theorem d10_9 : decode jdk_42_method_3_code 9 = .ok (.return_, 1) := by decide +kernel
theorem ef_10 (m : MethodId) (x0 : Addr) (x1 : Addr) : entryFrame m #[(.ref x0), (.ref x1)] 2 = mkF m 0 #[vR x0, vR x1] [] := by first | (simp [entryFrame, mkF, argsToLocals, Value.category]; done) | rfl
def Q10s2 (Z : State) (c0 : Int32) (c1 : Int32) (kc : ClassId) (w_COMPACT_STRINGS : Int32) (a0 : Addr) (a1 : Addr) (u_coder_a0 : Value) (u_value_a0 : Value) (h0 : Heap) (n0 : Nat) (v : Option Value) (h : Heap) (L : List Loc) : Prop := ∃ b4_8_10 : Addr, ∃ k4_8_10 : ClassId, v = none ∧ Fr n0 L ∧ Keep h0 h [a0] ∧ h0.size ≤ b4_8_10 ∧ Arv Z h b4_8_10 k4_8_10 .byte (2 : Int32) [(.int (nar .byte (c0.toInt8.toInt32))), (.int (nar .byte (c1.toInt8.toInt32)))] (.int (0 : Int32)) ∧ Exa Z h a0 "java/lang/String" ∧ Fld Z h a0 "java/lang/String" "coder" "B" (.int (0 : Int32)) ∧ Fld Z h a0 "java/lang/String" "value" "[B" (.ref b4_8_10)
set_option maxRecDepth 65536 in
set_option maxHeartbeats 40000000 in
theorem rm10s2 (l : Launch) (Z : State) (A0 : Array Value) (hw : ∀ d ∈ tables_1, d.before A0 Z = true) (ws : List Jvm.Cond) (c0 : Int32) (c1 : Int32) (kc : ClassId) (w_COMPACT_STRINGS : Int32) (a0 : Addr) (a1 : Addr) (u_coder_a0 : Value) (u_value_a0 : Value) (h0 : Heap) (n0 : Nat) (OLD : Old Z n0 h0) (f_1 : Arv Z h0 a1 kc .char (2 : Int32) [(.int c0), (.int c1)] (.int (0 : Int32))) (c_2 : ¬ ((255 : Int32) < c0)) (c_3 : ¬ ((255 : Int32) < c1)) (c_4 : ¬ (w_COMPACT_STRINGS = (0 : Int32))) (f_6 : Sta Z Z.heap "java/lang/String" "COMPACT_STRINGS" "Z" (.int w_COMPACT_STRINGS)) (f_7 : Exa Z h0 a0 "java/lang/String") (f_8 : Fld Z h0 a0 "java/lang/String" "coder" "B" u_coder_a0) (ge_a0 : n0 ≤ a0) (f_9 : Fld Z h0 a0 "java/lang/String" "value" "[B" u_value_a0) :
    MetFree l (⟨"java/lang/String", "<init>", "([C)V"⟩ : MethodName) (head1 (Jvm.Cond.code (⟨"java/lang/String", "<init>", "([C)V"⟩ : MethodName) jdk_42_method_3_code 2 none :: ws) ({ frames := 3, cells := 1, slots := 2, locals := 52 } : Room)) (fun a U => a = #[(.ref a0), (.ref a1)] ∧ Z.Warmed39 U.vm ∧ U.heap = h0) (fun _ _ _ _ _ => True) (fun _ U o U' => ∃ v L, o = .returned v ∧ Q10s2 Z c0 c1 kc w_COMPACT_STRINGS a0 a1 u_coder_a0 u_value_a0 h0 n0 v U'.heap L ∧ FrameEnd U o U' L ({ frames := 3, cells := 1, slots := 2, locals := 52 } : Room).cells ({ frames := 3, cells := 1, slots := 2, locals := 52 } : Room).slots) := by
  refine MetFree.of_bodySF (plainFor_of_name pn_java_lang_String) hisR ?_
  intro p e s m args below meth c s₁ Bd hml0 hP hK
  obtain ⟨rfl, hZ, hh⟩ := hP
  have hx := Bd.exec
  have hby := Bd.bytes
  have hml : c.maxLocals = 2 := hml0
  have hown : s.vm.findClass "java/lang/String" = some m.cls := findClass_of_methodNamed Bd.named
  have hnm := (name_of_methodNamed Bd.named Bd.method).1
  have X0 : Stand p l e ({ frames := 3, cells := 1, slots := 2, locals := 52 } : Room) s m #[(.ref a0), (.ref a1)] below meth c s₁ [] 0 0 := Stand.of_body Bd
  have e0 : s₁.heap = h0 := by rw [← hh, Bd.state]; rfl
  have N0 := Fr.nil n0
  have pre0 : ∀ t, Steps p.tables e below (s₁.setTop (mkF m 0 #[vR a0, vR a1] [])) t → Steps p.tables e below (s₁.setTop (entryFrame m #[(.ref a0), (.ref a1)] 2)) t := fun t k => castTop (ef_10 m a0 a1) k
  obtain ⟨cl5, Ar5, -, s5, n5, -, -⟩ := id (f_1)
  obtain ⟨_, _, ⟨T10, L10, k10, n10⟩, -, X10, ⟨Lc10, hQ10, l10, y10, z10⟩, st10⟩ := X0.specialBack hx (y := (⟨"java/lang/String", "<init>", "([CIILjava/lang/Void;)V"⟩ : MethodName)) rfl hown (mvT hZ (hw _ (List.mem_of_getElem? (i := 62) rfl))) (mvT hZ (hw _ (List.mem_of_getElem? (i := 63) rfl))) (mvT hZ (hw _ (List.mem_of_getElem? (i := 64) rfl))) (by decide) (backOf (W := 0) (rm11s2 l Z A0 hw [] c0 c1 kc w_COMPACT_STRINGS a0 a1 u_coder_a0 u_value_a0 h0 n0 OLD f_1 c_2 c_3 c_4 f_6 f_7 f_8 ge_a0 f_9) hZ (hw _ (List.mem_of_getElem? (i := 64) rfl)) (hw _ (List.mem_of_getElem? (i := 12) rfl)) (by decide) (by decide)) (g := (mkF m 6 #[vR a0, vR a1] [.null, (.int (2 : Int32)), (.int (0 : Int32)), (.ref a1), (.ref a0)])) rfl (by rw [hml]; rfl) (Steps.refl _) (a := a0) (argsL := [(.ref a1), (.int (0 : Int32)), (.int (2 : Int32)), .null]) (rest := []) (lenOf pd_6 rfl) rfl (by show 2 * 0 + _ ≤ _; exact Nat.le_of_eq rfl) (hb hby d10_6) (fun _ _ => ⟨rfl, e0, (by decide : 0 + 1 ≤ _), (by decide : 0 + 2 ≤ _)⟩)
  dsimp only [Pt.U, Pt.locs, Pt.cells, Pt.slots] at X10 l10 y10 z10 st10 hQ10
  subst l10 y10 z10
  obtain ⟨b4_8_10, k4_8_10, rfl, N10q, K10, g10_0, g10_1, g10_2, g10_3, g10_4⟩ := hQ10
  have N10 := Fr.app N0 N10q
  have K_11 : Keep h0 T10.heap [a0] := Keep.trans (Keep.refl h0 [a0]) K10 (allS (Or.inl (List.mem_of_getElem? (i := 0) rfl)) all0)
  obtain ⟨fs, hr, hrun, hended, hW, hsame⟩ := X10.leave (v := none) (fun _ => rfl)
  refine ⟨_, _, pre0 _ ?_, hrun, hended, _, _, rfl, ?_, ⟨_, rfl⟩, hW, hsame.mono (by decide) (by decide)⟩
  · show Steps p.tables e below (s₁.setTop (mkF m 0 #[vR a0, vR a1] [])) _
    refine XS.aloadN X0.here hx rfl (hb hby d10_0) rfl rfl ?_
    refine XS.aloadN X0.here hx rfl (hb hby d10_1) rfl rfl ?_
    show Steps p.tables e below (s₁.setTop (mkF m 2 #[vR a0, vR a1] [(.ref a1), (.ref a0)])) _
    refine XS.iconst X0.here hx rfl (hb hby d10_2) ?_
    refine XS.aloadN X0.here hx rfl (hb hby d10_3) rfl rfl ?_
    show Steps p.tables e below (s₁.setTop (mkF m 4 #[vR a0, vR a1] [(.ref a1), (.int (0 : Int32)), (.ref a1), (.ref a0)])) _
    refine X0.arraylength hx (by rw [e0]; exact Ar5.1) (State.isArrayOf_alike hZ.alike Ar5.2.1) (g := (mkF m 4 #[vR a0, vR a1] [(.ref a1), (.int (0 : Int32)), (.ref a1), (.ref a0)])) rfl rfl (hb hby d10_4) _ ?_
    rw [len_of s5 n5]
    refine XS.aconstNull X0.here hx rfl (hb hby d10_5) ?_
    show Steps p.tables e below (s₁.setTop (mkF m 6 #[vR a0, vR a1] [.null, (.int (2 : Int32)), (.int (0 : Int32)), (.ref a1), (.ref a0)])) _
    refine st10.trans ?_
    show Steps p.tables e below (T10.setTop (mkF m 9 #[vR a0, vR a1] [])) _
    exact X10.returnOut hx Bd.returns (hb hby d10_9) hr
  · show Q10s2 Z c0 c1 kc w_COMPACT_STRINGS a0 a1 u_coder_a0 u_value_a0 h0 n0 _ T10.heap _
    exact ⟨b4_8_10, k4_8_10, rfl, N10, K_11, (Nat.le_trans (Keep.refl h0 [a0]).1 g10_0), g10_1, g10_2, g10_3, g10_4⟩
theorem d8_0 : decode jdk_30_method_1_code 0 = .ok (.aload_n 0, 1) := by decide +kernel
theorem d8_1 : decode jdk_30_method_1_code 1 = .ok (.invokespecial 1, 3) := by decide +kernel
theorem d8_4 : decode jdk_30_method_1_code 4 = .ok (.return_, 1) := by decide +kernel
theorem pn_java_lang_Record : plainName "java/lang/Record" = true := by first | (simp [plainName, overriddenIn]; done) | decide +kernel
theorem ef_8 (m : MethodId) (x0 : Addr) : entryFrame m #[(.ref x0)] 1 = mkF m 0 #[vR x0] [] := by first | (simp [entryFrame, mkF, argsToLocals, Value.category]; done) | rfl
def Q8 (Z : State) (a0 : Addr) (h0 : Heap) (n0 : Nat) (v : Option Value) (h : Heap) (L : List Loc) : Prop := v = none ∧ Fr n0 L ∧ h = h0
set_option maxRecDepth 65536 in
set_option maxHeartbeats 40000000 in
theorem rm8 (l : Launch) (Z : State) (A0 : Array Value) (hw : ∀ d ∈ tables_1, d.before A0 Z = true) (ws : List Jvm.Cond) (a0 : Addr) (h0 : Heap) (n0 : Nat) (OLD : Old Z n0 h0) :
    MetFree l (⟨"java/lang/Record", "<init>", "()V"⟩ : MethodName) (head1 (Jvm.Cond.code (⟨"java/lang/Record", "<init>", "()V"⟩ : MethodName) jdk_30_method_1_code 1 none :: ws) ({ frames := 1, cells := 0, slots := 0, locals := 12 } : Room)) (fun a U => a = #[(.ref a0)] ∧ Z.Warmed39 U.vm ∧ U.heap = h0) (fun _ _ _ _ _ => True) (fun _ U o U' => ∃ v L, o = .returned v ∧ Q8 Z a0 h0 n0 v U'.heap L ∧ FrameEnd U o U' L ({ frames := 1, cells := 0, slots := 0, locals := 12 } : Room).cells ({ frames := 1, cells := 0, slots := 0, locals := 12 } : Room).slots) := by
  refine MetFree.of_bodySF (plainFor_of_name pn_java_lang_Record) hisR ?_
  intro p e s m args below meth c s₁ Bd hml0 hP hK
  obtain ⟨rfl, hZ, hh⟩ := hP
  have hx := Bd.exec
  have hby := Bd.bytes
  have hml : c.maxLocals = 1 := hml0
  have hown : s.vm.findClass "java/lang/Record" = some m.cls := findClass_of_methodNamed Bd.named
  have hnm := (name_of_methodNamed Bd.named Bd.method).1
  have X0 : Stand p l e ({ frames := 1, cells := 0, slots := 0, locals := 12 } : Room) s m #[(.ref a0)] below meth c s₁ [] 0 0 := Stand.of_body Bd
  have e0 : s₁.heap = h0 := by rw [← hh, Bd.state]; rfl
  have N0 := Fr.nil n0
  have pre0 : ∀ t, Steps p.tables e below (s₁.setTop (mkF m 0 #[vR a0] [])) t → Steps p.tables e below (s₁.setTop (entryFrame m #[(.ref a0)] 1)) t := fun t k => castTop (ef_8 m a0) k
  obtain ⟨T1, X1, e1, st1⟩ := initO X0 hx hZ hown (hw _ (List.mem_of_getElem? (i := 44) rfl)) (hw _ (List.mem_of_getElem? (i := 30) rfl)) (hw _ (List.mem_of_getElem? (i := 31) rfl)) e0 (g := (mkF m 1 #[vR a0] [(.ref a0)])) rfl (by rw [hml]; rfl) rfl (hb hby d8_1) (by decide) (W := 0) (by show 2 * 0 + _ ≤ _; exact Nat.le_of_eq rfl) (by decide)
  obtain ⟨fs, hr, hrun, hended, hW, hsame⟩ := X1.leave (v := none) (fun _ => rfl)
  refine ⟨_, _, pre0 _ ?_, hrun, hended, _, _, rfl, ?_, ⟨_, rfl⟩, hW, hsame.mono (by decide) (by decide)⟩
  · show Steps p.tables e below (s₁.setTop (mkF m 0 #[vR a0] [])) _
    refine XS.aloadN X0.here hx rfl (hb hby d8_0) rfl rfl ?_
    refine st1 _ ?_
    show Steps p.tables e below (T1.setTop (mkF m 4 #[vR a0] [])) _
    exact X1.returnOut hx Bd.returns (hb hby d8_4) hr
  · show Q8 Z a0 h0 n0 _ T1.heap _
    rw [e1]
    exact ⟨rfl, N0, rfl⟩
theorem d9_0 : decode jdk_31_method_11_code 0 = .ok (.aload_n 0, 1) := by decide +kernel
theorem d9_1 : decode jdk_31_method_11_code 1 = .ok (.ifnonnull 12, 3) := by decide +kernel
theorem d9_13 : decode jdk_31_method_11_code 13 = .ok (.aload_n 0, 1) := by decide +kernel
theorem d9_14 : decode jdk_31_method_11_code 14 = .ok (.areturn, 1) := by decide +kernel
theorem pn_java_util_Objects : plainName "java/util/Objects" = true := by first | (simp [plainName, overriddenIn]; done) | decide +kernel
theorem ef_9 (m : MethodId) (x0 : Addr) (x1 : Addr) : entryFrame m #[(.ref x0), (.ref x1)] 2 = mkF m 0 #[vR x0, vR x1] [] := by first | (simp [entryFrame, mkF, argsToLocals, Value.category]; done) | rfl
def Q9 (Z : State) (a0 : Addr) (a1 : Addr) (h0 : Heap) (n0 : Nat) (v : Option Value) (h : Heap) (L : List Loc) : Prop := v = some (.ref a0) ∧ Fr n0 L ∧ h = h0
set_option maxRecDepth 65536 in
set_option maxHeartbeats 40000000 in
theorem rm9 (l : Launch) (Z : State) (A0 : Array Value) (hw : ∀ d ∈ tables_1, d.before A0 Z = true) (ws : List Jvm.Cond) (a0 : Addr) (a1 : Addr) (h0 : Heap) (n0 : Nat) (OLD : Old Z n0 h0) :
    MetFree l (⟨"java/util/Objects", "requireNonNull", "(Ljava/lang/Object;Ljava/lang/String;)Ljava/lang/Object;"⟩ : MethodName) (head1 (Jvm.Cond.code (⟨"java/util/Objects", "requireNonNull", "(Ljava/lang/Object;Ljava/lang/String;)Ljava/lang/Object;"⟩ : MethodName) jdk_31_method_11_code 2 (some (.object "java/lang/Object")) :: ws) ({ frames := 0, cells := 0, slots := 0, locals := 0 } : Room)) (fun a U => a = #[(.ref a0), (.ref a1)] ∧ Z.Warmed39 U.vm ∧ U.heap = h0) (fun _ _ _ _ _ => True) (fun _ U o U' => ∃ v L, o = .returned v ∧ Q9 Z a0 a1 h0 n0 v U'.heap L ∧ FrameEnd U o U' L ({ frames := 0, cells := 0, slots := 0, locals := 0 } : Room).cells ({ frames := 0, cells := 0, slots := 0, locals := 0 } : Room).slots) := by
  refine MetFree.of_bodySF (plainFor_of_name pn_java_util_Objects) hisR ?_
  intro p e s m args below meth c s₁ Bd hml0 hP hK
  obtain ⟨rfl, hZ, hh⟩ := hP
  have hx := Bd.exec
  have hby := Bd.bytes
  have hml : c.maxLocals = 2 := hml0
  have hown : s.vm.findClass "java/util/Objects" = some m.cls := findClass_of_methodNamed Bd.named
  have hnm := (name_of_methodNamed Bd.named Bd.method).1
  have X0 : Stand p l e ({ frames := 0, cells := 0, slots := 0, locals := 0 } : Room) s m #[(.ref a0), (.ref a1)] below meth c s₁ [] 0 0 := Stand.of_body Bd
  have e0 : s₁.heap = h0 := by rw [← hh, Bd.state]; rfl
  have N0 := Fr.nil n0
  have pre0 : ∀ t, Steps p.tables e below (s₁.setTop (mkF m 0 #[vR a0, vR a1] [])) t → Steps p.tables e below (s₁.setTop (entryFrame m #[(.ref a0), (.ref a1)] 2)) t := fun t k => castTop (ef_9 m a0 a1) k
  obtain ⟨fs, hr, hrun, hended, hW, hsame⟩ := X0.leave (v := some (.ref a0)) (fun h => by rw [Bd.returns] at h; cases h)
  refine ⟨_, _, pre0 _ ?_, hrun, hended, _, _, rfl, ?_, ⟨_, rfl⟩, hW, hsame.mono (by decide) (by decide)⟩
  · show Steps p.tables e below (s₁.setTop (mkF m 0 #[vR a0, vR a1] [])) _
    refine XS.aloadN X0.here hx rfl (hb hby d9_0) rfl rfl ?_
    refine XS.ifnonnullYes X0.here hx rfl (pc0 := 1) (pc' := 13) rfl (hb hby d9_1) rfl (by decide) (by decide) ?_
    show Steps p.tables e below (s₁.setTop (mkF m 13 #[vR a0, vR a1] [])) _
    refine XS.aloadN X0.here hx rfl (hb hby d9_13) rfl rfl ?_
    show Steps p.tables e below (s₁.setTop (mkF m 14 #[vR a0, vR a1] [(.ref a0)])) _
    jvm_step X0.here [X0.here.top, hx, (hb hby d9_14), X0.method', Bd.returns, Value.isRef, FieldType.isReference]
    first | (intro acts; rw [hr _ acts rfl rfl rfl]) | rw [hr _ _ rfl rfl rfl]
    exact Steps.refl _
  · show Q9 Z a0 a1 h0 n0 _ s₁.heap _
    rw [e0]
    exact ⟨rfl, N0, rfl⟩
theorem pd_7 : parseMethodDescriptor "()V" = some ⟨[], none⟩ := by decide +kernel
theorem pd_8 : parseMethodDescriptor "(Ljava/lang/Object;Ljava/lang/String;)Ljava/lang/Object;" = some ⟨[(.object "java/lang/Object"), (.object "java/lang/String")], some (.object "java/lang/Object")⟩ := by decide +kernel
theorem d7_0 : decode prog_10_method_1_code 0 = .ok (.aload_n 0, 1) := by decide +kernel
theorem d7_1 : decode prog_10_method_1_code 1 = .ok (.invokespecial 1, 3) := by decide +kernel
theorem d7_4 : decode prog_10_method_1_code 4 = .ok (.aload_n 1, 1) := by decide +kernel
theorem d7_5 : decode prog_10_method_1_code 5 = .ok (.ldc 7, 2) := by decide +kernel
theorem d7_7 : decode prog_10_method_1_code 7 = .ok (.invokestatic 9, 3) := by decide +kernel
theorem d7_10 : decode prog_10_method_1_code 10 = .ok (.pop, 1) := by decide +kernel
theorem d7_11 : decode prog_10_method_1_code 11 = .ok (.aload_n 2, 1) := by decide +kernel
theorem d7_12 : decode prog_10_method_1_code 12 = .ok (.ldc 15, 2) := by decide +kernel
theorem d7_14 : decode prog_10_method_1_code 14 = .ok (.invokestatic 9, 3) := by decide +kernel
theorem d7_17 : decode prog_10_method_1_code 17 = .ok (.pop, 1) := by decide +kernel
theorem d7_18 : decode prog_10_method_1_code 18 = .ok (.aload_n 0, 1) := by decide +kernel
theorem d7_19 : decode prog_10_method_1_code 19 = .ok (.aload_n 1, 1) := by decide +kernel
theorem d7_20 : decode prog_10_method_1_code 20 = .ok (.putfield 17, 3) := by decide +kernel
theorem d7_23 : decode prog_10_method_1_code 23 = .ok (.aload_n 0, 1) := by decide +kernel
theorem d7_24 : decode prog_10_method_1_code 24 = .ok (.aload_n 2, 1) := by decide +kernel
theorem d7_25 : decode prog_10_method_1_code 25 = .ok (.putfield 22, 3) := by decide +kernel
theorem d7_28 : decode prog_10_method_1_code 28 = .ok (.return_, 1) := by decide +kernel
theorem pn_com_example_deposita_deposita_core_Finding : plainName "com/example/deposita/deposita/core/Finding" = true := by first | (simp [plainName, overriddenIn]; done) | decide +kernel
theorem ef_7 (m : MethodId) (x0 : Addr) (x1 : Addr) (x2 : Addr) : entryFrame m #[(.ref x0), (.ref x1), (.ref x2)] 3 = mkF m 0 #[vR x0, vR x1, vR x2] [] := by first | (simp [entryFrame, mkF, argsToLocals, Value.category]; done) | rfl
def Q7 (Z : State) (a0 : Addr) (a1 : Addr) (a2 : Addr) (u_rule_a0 : Value) (u_where_a0 : Value) (h0 : Heap) (n0 : Nat) (v : Option Value) (h : Heap) (L : List Loc) : Prop := v = none ∧ Fr n0 L ∧ Keep h0 h [a0] ∧ Exa Z h a0 "com/example/deposita/deposita/core/Finding" ∧ Fld Z h a0 "com/example/deposita/deposita/core/Finding" "rule" "Lcom/example/deposita/deposita/core/Rule;" (.ref a1) ∧ Fld Z h a0 "com/example/deposita/deposita/core/Finding" "where" "Ljava/lang/String;" (.ref a2)
set_option maxRecDepth 65536 in
set_option maxHeartbeats 40000000 in
theorem rm7 (l : Launch) (Z : State) (A0 : Array Value) (hw : ∀ d ∈ tables_1, d.before A0 Z = true) (ws : List Jvm.Cond) (a0 : Addr) (a1 : Addr) (a2 : Addr) (u_rule_a0 : Value) (u_where_a0 : Value) (h0 : Heap) (n0 : Nat) (OLD : Old Z n0 h0) (f_1 : Exa Z h0 a0 "com/example/deposita/deposita/core/Finding") (f_2 : Fld Z h0 a0 "com/example/deposita/deposita/core/Finding" "rule" "Lcom/example/deposita/deposita/core/Rule;" u_rule_a0) (f_3 : Fld Z h0 a0 "com/example/deposita/deposita/core/Finding" "where" "Ljava/lang/String;" u_where_a0) (ge_a0 : n0 ≤ a0) :
    MetFree l (⟨"com/example/deposita/deposita/core/Finding", "<init>", "(Lcom/example/deposita/deposita/core/Rule;Ljava/lang/String;)V"⟩ : MethodName) (head1 (Jvm.Cond.code (⟨"com/example/deposita/deposita/core/Finding", "<init>", "(Lcom/example/deposita/deposita/core/Rule;Ljava/lang/String;)V"⟩ : MethodName) prog_10_method_1_code 3 none :: ws) ({ frames := 2, cells := 4, slots := 44, locals := 24 } : Room)) (fun a U => a = #[(.ref a0), (.ref a1), (.ref a2)] ∧ Z.Warmed39 U.vm ∧ U.heap = h0) (fun _ _ _ _ _ => True) (fun _ U o U' => ∃ v L, o = .returned v ∧ Q7 Z a0 a1 a2 u_rule_a0 u_where_a0 h0 n0 v U'.heap L ∧ ReturnedEndW U o U' L ({ frames := 2, cells := 4, slots := 44, locals := 24 } : Room).cells ({ frames := 2, cells := 4, slots := 44, locals := 24 } : Room).slots) := by
  refine MetFree.of_bodySF (plainFor_of_name pn_com_example_deposita_deposita_core_Finding) hisR ?_
  intro p e s m args below meth c s₁ Bd hml0 hP hK
  obtain ⟨rfl, hZ, hh⟩ := hP
  have hx := Bd.exec
  have hby := Bd.bytes
  have hml : c.maxLocals = 3 := hml0
  have hown : s.vm.findClass "com/example/deposita/deposita/core/Finding" = some m.cls := findClass_of_methodNamed Bd.named
  have hnm := (name_of_methodNamed Bd.named Bd.method).1
  have X0 : Stand p l e ({ frames := 2, cells := 4, slots := 44, locals := 24 } : Room) (s.setVm s.vm) m #[(.ref a0), (.ref a1), (.ref a2)] below meth c s₁ [] 0 0 := Stand.of_body Bd
  have e0 : s₁.heap = h0 := by rw [← hh, Bd.state]; rfl
  have hS0 : s.Since s.vm h0.size := (State.WarmedH.refl s).since _
  have hk0 : h0.size ≤ h0.size := Nat.le_refl _
  have hZ : Z.Warmed39 (s.setVm s.vm).vm := hZ
  have hown : (s.setVm s.vm).vm.findClass "com/example/deposita/deposita/core/Finding" = some m.cls := hown
  have N0 := Fr.nil n0
  have pre0 : ∀ t, Steps p.tables e below (s₁.setTop (mkF m 0 #[vR a0, vR a1, vR a2] [])) t → Steps p.tables e below (s₁.setTop (entryFrame m #[(.ref a0), (.ref a1), (.ref a2)] 3)) t := fun t k => castTop (ef_7 m a0 a1 a2) k
  obtain ⟨_, _, ⟨T4, L4, k4, n4⟩, -, X4, ⟨Lc4, hQ4, l4, y4, z4⟩, st4⟩ := X0.specialBack hx (y := (⟨"java/lang/Record", "<init>", "()V"⟩ : MethodName)) rfl hown (mvT hZ (hw _ (List.mem_of_getElem? (i := 39) rfl))) (mvT hZ (hw _ (List.mem_of_getElem? (i := 40) rfl))) (mvT hZ (hw _ (List.mem_of_getElem? (i := 43) rfl))) (by decide) (backOf (W := 0) (rm8 l Z A0 hw [] a0 h0 n0 OLD ) hZ (hw _ (List.mem_of_getElem? (i := 43) rfl)) (hw _ (List.mem_of_getElem? (i := 42) rfl)) (by decide) (by decide)) (g := (mkF m 1 #[vR a0, vR a1, vR a2] [(.ref a0)])) rfl (by rw [hml]; rfl) (Steps.refl _) (a := a0) (argsL := []) (rest := []) (lenOf pd_7 rfl) rfl (by show 2 * 0 + _ ≤ _; exact Nat.le_of_eq rfl) (hb hby d7_1) (fun _ _ => ⟨rfl, e0, (by decide : 0 + 0 ≤ _), (by decide : 0 + 0 ≤ _)⟩)
  dsimp only [Pt.U, Pt.locs, Pt.cells, Pt.slots] at X4 l4 y4 z4 st4 hQ4
  subst l4 y4 z4
  obtain ⟨rfl, N4q, e4⟩ := hQ4
  have N4 := Fr.app N0 N4q
  obtain ⟨b5, T5, h5, k5, X5, e5, E5, hS5, hk5, hZ5, hown5, st5⟩ := ldcS (s := s) X4 hx hZ hown (hw _ (List.mem_of_getElem? (i := 45) rfl)) (own_strs hw) e4 hS0 hk0 (g := (mkF m 5 #[vR a0, vR a1, vR a2] [(.ref a1)])) rfl (hb hby d7_5) (n := 16) (by decide) (by decide) (by decide) (by decide)
  have K_6 : Keep h0 h5 [a0] := (Keep.refl h0 [a0]).ext E5
  have O_8 := Old.ext OLD E5
  obtain ⟨_, _, ⟨T7, L7, k7, n7⟩, -, X7, ⟨Lc7, hQ7, l7, y7, z7⟩, st7⟩ := Jvm.LawKit.callS X5 hx (y := (⟨"java/util/Objects", "requireNonNull", "(Ljava/lang/Object;Ljava/lang/String;)Ljava/lang/Object;"⟩ : MethodName)) hown5 (mvT hZ5 (hw _ (List.mem_of_getElem? (i := 48) rfl))) (mvT hZ5 (hw _ (List.mem_of_getElem? (i := 49) rfl))) (mvT hZ5 (hw _ (List.mem_of_getElem? (i := 50) rfl))) (mvT hZ5 (hw _ (List.mem_of_getElem? (i := 51) rfl))) (by decide) (backOf (W := 0) (rm9 l Z A0 hw [] a1 b5 h5 n0 O_8 ) hZ5 (hw _ (List.mem_of_getElem? (i := 51) rfl)) (hw _ (List.mem_of_getElem? (i := 50) rfl)) (by decide) (by decide)) (g := (mkF m 7 #[vR a0, vR a1, vR a2] [(.ref b5), (.ref a1)])) rfl (by rw [hml]; rfl) (argsL := [(.ref a1), (.ref b5)]) (rest := []) (lenOf pd_8 rfl) rfl (by show 2 * 0 + _ ≤ _; exact Nat.le_of_eq rfl) (hb hby d7_7) (fun _ _ => ⟨rfl, e5, (by decide : 2 + 0 ≤ _), (by decide : 20 + 0 ≤ _)⟩)
  dsimp only [Pt.U, Pt.locs, Pt.cells, Pt.slots] at X7 l7 y7 z7 st7 hQ7
  subst l7 y7 z7
  obtain ⟨rfl, N7q, e7⟩ := hQ7
  have N7 := Fr.app N4 N7q
  obtain ⟨b9, T9, h9, k9, X9, e9, E9, hS9, hk9, hZ9, hown9, st9⟩ := ldcS (s := s) X7 hx hZ5 hown5 (hw _ (List.mem_of_getElem? (i := 52) rfl)) (own_strs hw) e7 hS5 hk5 (g := (mkF m 12 #[vR a0, vR a1, vR a2] [(.ref a2)])) rfl (hb hby d7_12) (n := 20) (by decide) (by decide) (by decide) (by decide)
  have K_10 : Keep h0 h9 [a0] := K_6.ext E9
  have O_12 := Old.ext O_8 E9
  obtain ⟨_, _, ⟨T11, L11, k11, n11⟩, -, X11, ⟨Lc11, hQ11, l11, y11, z11⟩, st11⟩ := Jvm.LawKit.callS X9 hx (y := (⟨"java/util/Objects", "requireNonNull", "(Ljava/lang/Object;Ljava/lang/String;)Ljava/lang/Object;"⟩ : MethodName)) hown9 (mvT hZ9 (hw _ (List.mem_of_getElem? (i := 48) rfl))) (mvT hZ9 (hw _ (List.mem_of_getElem? (i := 49) rfl))) (mvT hZ9 (hw _ (List.mem_of_getElem? (i := 50) rfl))) (mvT hZ9 (hw _ (List.mem_of_getElem? (i := 51) rfl))) (by decide) (backOf (W := 0) (rm9 l Z A0 hw [] a2 b9 h9 n0 O_12 ) hZ9 (hw _ (List.mem_of_getElem? (i := 51) rfl)) (hw _ (List.mem_of_getElem? (i := 50) rfl)) (by decide) (by decide)) (g := (mkF m 14 #[vR a0, vR a1, vR a2] [(.ref b9), (.ref a2)])) rfl (by rw [hml]; rfl) (argsL := [(.ref a2), (.ref b9)]) (rest := []) (lenOf pd_8 rfl) rfl (by show 2 * 0 + _ ≤ _; exact Nat.le_of_eq rfl) (hb hby d7_14) (fun _ _ => ⟨rfl, e9, (by decide : 4 + 0 ≤ _), (by decide : 44 + 0 ≤ _)⟩)
  dsimp only [Pt.U, Pt.locs, Pt.cells, Pt.slots] at X11 l11 y11 z11 st11 hQ11
  subst l11 y11 z11
  obtain ⟨rfl, N11q, e11⟩ := hQ11
  have N11 := Fr.app N7 N11q
  have f_13 := f_1.ext E5
  have f_14 := f_13.ext E9
  have f_15 := f_2.ext E5
  have f_16 := f_15.ext E9
  obtain ⟨T17, h17, X17, e17, W17, st17⟩ := putF X11 hx hZ9 hown9 (host := "") (Or.inl (hw _ (List.mem_of_getElem? (i := 53) rfl))) Via.refl e11 f_16 f_14 (Or.inr ⟨(hw _ (List.mem_of_getElem? (i := 54) rfl)), rfl, hnm⟩) (hw _ (List.mem_of_getElem? (i := 1) rfl)) (ty := (.object "com/example/deposita/deposita/core/Rule")) (by decide) rfl rfl (g := (mkF m 20 #[vR a0, vR a1, vR a2] [(.ref a1), (.ref a0)])) rfl rfl (hb hby d7_20)
  have N17 := Fr.snoc X17 N11 ge_a0
  have f_18 := f_16.same W17
  have K_19 : Keep h0 h17 [a0] := K_10.wr W17 (Or.inl (List.mem_of_getElem? (i := 0) rfl))
  have f_20 := f_14.wr W17
  have f_21 := f_3.ext E5
  have f_22 := f_21.ext E9
  have f_23 := f_22.other W17 (Or.inr (slot_ne (Or.inr (hw _ (List.mem_of_getElem? (i := 56) rfl))) (Or.inr (hw _ (List.mem_of_getElem? (i := 54) rfl))) (by decide) (t := (.object "java/lang/String")) (t' := (.object "com/example/deposita/deposita/core/Rule")) (by decide) (by decide)))
  obtain ⟨T24, h24, X24, e24, W24, st24⟩ := putF X17 hx hZ9 hown9 (host := "") (Or.inl (hw _ (List.mem_of_getElem? (i := 55) rfl))) Via.refl e17 f_23 f_20 (Or.inr ⟨(hw _ (List.mem_of_getElem? (i := 56) rfl)), rfl, hnm⟩) (hw _ (List.mem_of_getElem? (i := 1) rfl)) (ty := (.object "java/lang/String")) (by decide) rfl rfl (g := (mkF m 25 #[vR a0, vR a1, vR a2] [(.ref a2), (.ref a0)])) rfl rfl (hb hby d7_25)
  have N24 := Fr.snoc X24 N17 ge_a0
  have f_25 := f_23.same W24
  have K_26 : Keep h0 h24 [a0] := K_19.wr W24 (Or.inl (List.mem_of_getElem? (i := 0) rfl))
  have f_27 := f_20.wr W24
  have f_28 := f_18.other W24 (Or.inr (slot_ne (Or.inr (hw _ (List.mem_of_getElem? (i := 54) rfl))) (Or.inr (hw _ (List.mem_of_getElem? (i := 56) rfl))) (by decide) (t := (.object "com/example/deposita/deposita/core/Rule")) (t' := (.object "java/lang/String")) (by decide) (by decide)))
  obtain ⟨fs, hr, hrun, hended, hRW⟩ := X24.leaveW (s := s) hS9 (by rw [e24]; exact (Nat.le_trans (Nat.le_trans hk9 (Keep.of_wr W17).1) (Keep.of_wr W24).1)) (v := none) (fun _ => rfl)
  refine ⟨_, _, pre0 _ ?_, hrun, hended, _, _, rfl, ?_, hRW.1, hRW.2.1, hRW.2.2.1, hRW.2.2.2.mono (by decide) (by decide)⟩
  · show Steps p.tables e below (s₁.setTop (mkF m 0 #[vR a0, vR a1, vR a2] [])) _
    refine XS.aloadN X0.here hx rfl (hb hby d7_0) rfl rfl ?_
    refine st4.trans ?_
    show Steps p.tables e below (T4.setTop (mkF m 4 #[vR a0, vR a1, vR a2] [])) _
    refine XS.aloadN X4.here hx rfl (hb hby d7_4) rfl rfl ?_
    refine st5 _ ?_
    show Steps p.tables e below (T5.setTop (mkF m 7 #[vR a0, vR a1, vR a2] [(.ref b5), (.ref a1)])) _
    refine st7 _ ?_
    refine XS.pop X7.here hx rfl (hb hby d7_10) rfl rfl ?_
    show Steps p.tables e below (T7.setTop (mkF m 11 #[vR a0, vR a1, vR a2] [])) _
    refine XS.aloadN X7.here hx rfl (hb hby d7_11) rfl rfl ?_
    refine st9 _ ?_
    show Steps p.tables e below (T9.setTop (mkF m 14 #[vR a0, vR a1, vR a2] [(.ref b9), (.ref a2)])) _
    refine st11 _ ?_
    refine XS.pop X11.here hx rfl (hb hby d7_17) rfl rfl ?_
    show Steps p.tables e below (T11.setTop (mkF m 18 #[vR a0, vR a1, vR a2] [])) _
    refine XS.aloadN X11.here hx rfl (hb hby d7_18) rfl rfl ?_
    refine XS.aloadN X11.here hx rfl (hb hby d7_19) rfl rfl ?_
    show Steps p.tables e below (T11.setTop (mkF m 20 #[vR a0, vR a1, vR a2] [(.ref a1), (.ref a0)])) _
    refine st17 _ ?_
    refine XS.aloadN X17.here hx rfl (hb hby d7_23) rfl rfl ?_
    show Steps p.tables e below (T17.setTop (mkF m 24 #[vR a0, vR a1, vR a2] [(.ref a0)])) _
    refine XS.aloadN X17.here hx rfl (hb hby d7_24) rfl rfl ?_
    refine st24 _ ?_
    show Steps p.tables e below (T24.setTop (mkF m 28 #[vR a0, vR a1, vR a2] [])) _
    exact X24.returnOut hx Bd.returns (hb hby d7_28) hr
  · show Q7 Z a0 a1 a2 u_rule_a0 u_where_a0 h0 n0 _ T24.heap _
    rw [e24]
    exact ⟨rfl, N24, K_26, f_27, f_28, f_25⟩
theorem d17_0 : decode jdk_22_method_1_code 0 = .ok (.aload_n 0, 1) := by decide +kernel
theorem d17_1 : decode jdk_22_method_1_code 1 = .ok (.invokespecial 1, 3) := by decide +kernel
theorem d17_4 : decode jdk_22_method_1_code 4 = .ok (.return_, 1) := by decide +kernel
theorem pn_java_util_AbstractCollection : plainName "java/util/AbstractCollection" = true := by first | (simp [plainName, overriddenIn]; done) | decide +kernel
theorem ef_17 (m : MethodId) (x0 : Addr) : entryFrame m #[(.ref x0)] 1 = mkF m 0 #[vR x0] [] := by first | (simp [entryFrame, mkF, argsToLocals, Value.category]; done) | rfl
def Q17 (Z : State) (a0 : Addr) (h0 : Heap) (n0 : Nat) (v : Option Value) (h : Heap) (L : List Loc) : Prop := v = none ∧ Fr n0 L ∧ h = h0
set_option maxRecDepth 65536 in
set_option maxHeartbeats 40000000 in
theorem rm17 (l : Launch) (Z : State) (A0 : Array Value) (hw : ∀ d ∈ tables_1, d.before A0 Z = true) (ws : List Jvm.Cond) (a0 : Addr) (h0 : Heap) (n0 : Nat) (OLD : Old Z n0 h0) :
    MetFree l (⟨"java/util/AbstractCollection", "<init>", "()V"⟩ : MethodName) (head1 (Jvm.Cond.code (⟨"java/util/AbstractCollection", "<init>", "()V"⟩ : MethodName) jdk_22_method_1_code 1 none :: ws) ({ frames := 1, cells := 0, slots := 0, locals := 12 } : Room)) (fun a U => a = #[(.ref a0)] ∧ Z.Warmed39 U.vm ∧ U.heap = h0) (fun _ _ _ _ _ => True) (fun _ U o U' => ∃ v L, o = .returned v ∧ Q17 Z a0 h0 n0 v U'.heap L ∧ FrameEnd U o U' L ({ frames := 1, cells := 0, slots := 0, locals := 12 } : Room).cells ({ frames := 1, cells := 0, slots := 0, locals := 12 } : Room).slots) := by
  refine MetFree.of_bodySF (plainFor_of_name pn_java_util_AbstractCollection) hisR ?_
  intro p e s m args below meth c s₁ Bd hml0 hP hK
  obtain ⟨rfl, hZ, hh⟩ := hP
  have hx := Bd.exec
  have hby := Bd.bytes
  have hml : c.maxLocals = 1 := hml0
  have hown : s.vm.findClass "java/util/AbstractCollection" = some m.cls := findClass_of_methodNamed Bd.named
  have hnm := (name_of_methodNamed Bd.named Bd.method).1
  have X0 : Stand p l e ({ frames := 1, cells := 0, slots := 0, locals := 12 } : Room) s m #[(.ref a0)] below meth c s₁ [] 0 0 := Stand.of_body Bd
  have e0 : s₁.heap = h0 := by rw [← hh, Bd.state]; rfl
  have N0 := Fr.nil n0
  have pre0 : ∀ t, Steps p.tables e below (s₁.setTop (mkF m 0 #[vR a0] [])) t → Steps p.tables e below (s₁.setTop (entryFrame m #[(.ref a0)] 1)) t := fun t k => castTop (ef_17 m a0) k
  obtain ⟨T1, X1, e1, st1⟩ := initO X0 hx hZ hown (hw _ (List.mem_of_getElem? (i := 93) rfl)) (hw _ (List.mem_of_getElem? (i := 30) rfl)) (hw _ (List.mem_of_getElem? (i := 31) rfl)) e0 (g := (mkF m 1 #[vR a0] [(.ref a0)])) rfl (by rw [hml]; rfl) rfl (hb hby d17_1) (by decide) (W := 0) (by show 2 * 0 + _ ≤ _; exact Nat.le_of_eq rfl) (by decide)
  obtain ⟨fs, hr, hrun, hended, hW, hsame⟩ := X1.leave (v := none) (fun _ => rfl)
  refine ⟨_, _, pre0 _ ?_, hrun, hended, _, _, rfl, ?_, ⟨_, rfl⟩, hW, hsame.mono (by decide) (by decide)⟩
  · show Steps p.tables e below (s₁.setTop (mkF m 0 #[vR a0] [])) _
    refine XS.aloadN X0.here hx rfl (hb hby d17_0) rfl rfl ?_
    refine st1 _ ?_
    show Steps p.tables e below (T1.setTop (mkF m 4 #[vR a0] [])) _
    exact X1.returnOut hx Bd.returns (hb hby d17_4) hr
  · show Q17 Z a0 h0 n0 _ T1.heap _
    rw [e1]
    exact ⟨rfl, N0, rfl⟩
theorem d16_0 : decode jdk_39_method_1_code 0 = .ok (.aload_n 0, 1) := by decide +kernel
theorem d16_1 : decode jdk_39_method_1_code 1 = .ok (.invokespecial 1, 3) := by decide +kernel
theorem d16_4 : decode jdk_39_method_1_code 4 = .ok (.aload_n 0, 1) := by decide +kernel
theorem d16_5 : decode jdk_39_method_1_code 5 = .ok (.iconst 0, 1) := by decide +kernel
theorem d16_6 : decode jdk_39_method_1_code 6 = .ok (.putfield 7, 3) := by decide +kernel
theorem d16_9 : decode jdk_39_method_1_code 9 = .ok (.return_, 1) := by decide +kernel
theorem pn_java_util_AbstractList : plainName "java/util/AbstractList" = true := by first | (simp [plainName, overriddenIn]; done) | decide +kernel
theorem ef_16 (m : MethodId) (x0 : Addr) : entryFrame m #[(.ref x0)] 1 = mkF m 0 #[vR x0] [] := by first | (simp [entryFrame, mkF, argsToLocals, Value.category]; done) | rfl
def Q16 (Z : State) (a0 : Addr) (u_modCount_a0 : Value) (u_elementData_a0 : Value) (u_size_a0 : Value) (h0 : Heap) (n0 : Nat) (v : Option Value) (h : Heap) (L : List Loc) : Prop := v = none ∧ Fr n0 L ∧ Keep h0 h [a0] ∧ Exa Z h a0 "java/util/ArrayList" ∧ Fld Z h a0 "java/util/AbstractList" "modCount" "I" (.int (0 : Int32)) ∧ Fld Z h a0 "java/util/ArrayList" "elementData" "[Ljava/lang/Object;" u_elementData_a0 ∧ Fld Z h a0 "java/util/ArrayList" "size" "I" u_size_a0
set_option maxRecDepth 65536 in
set_option maxHeartbeats 40000000 in
theorem rm16 (l : Launch) (Z : State) (A0 : Array Value) (hw : ∀ d ∈ tables_1, d.before A0 Z = true) (ws : List Jvm.Cond) (a0 : Addr) (u_modCount_a0 : Value) (u_elementData_a0 : Value) (u_size_a0 : Value) (h0 : Heap) (n0 : Nat) (OLD : Old Z n0 h0) (f_1 : Exa Z h0 a0 "java/util/ArrayList") (f_2 : Fld Z h0 a0 "java/util/AbstractList" "modCount" "I" u_modCount_a0) (f_3 : Fld Z h0 a0 "java/util/ArrayList" "elementData" "[Ljava/lang/Object;" u_elementData_a0) (f_4 : Fld Z h0 a0 "java/util/ArrayList" "size" "I" u_size_a0) (ge_a0 : n0 ≤ a0) :
    MetFree l (⟨"java/util/AbstractList", "<init>", "()V"⟩ : MethodName) (head1 (Jvm.Cond.code (⟨"java/util/AbstractList", "<init>", "()V"⟩ : MethodName) jdk_39_method_1_code 1 none :: ws) ({ frames := 2, cells := 0, slots := 0, locals := 24 } : Room)) (fun a U => a = #[(.ref a0)] ∧ Z.Warmed39 U.vm ∧ U.heap = h0) (fun _ _ _ _ _ => True) (fun _ U o U' => ∃ v L, o = .returned v ∧ Q16 Z a0 u_modCount_a0 u_elementData_a0 u_size_a0 h0 n0 v U'.heap L ∧ FrameEnd U o U' L ({ frames := 2, cells := 0, slots := 0, locals := 24 } : Room).cells ({ frames := 2, cells := 0, slots := 0, locals := 24 } : Room).slots) := by
  refine MetFree.of_bodySF (plainFor_of_name pn_java_util_AbstractList) hisR ?_
  intro p e s m args below meth c s₁ Bd hml0 hP hK
  obtain ⟨rfl, hZ, hh⟩ := hP
  have hx := Bd.exec
  have hby := Bd.bytes
  have hml : c.maxLocals = 1 := hml0
  have hown : s.vm.findClass "java/util/AbstractList" = some m.cls := findClass_of_methodNamed Bd.named
  have hnm := (name_of_methodNamed Bd.named Bd.method).1
  have X0 : Stand p l e ({ frames := 2, cells := 0, slots := 0, locals := 24 } : Room) s m #[(.ref a0)] below meth c s₁ [] 0 0 := Stand.of_body Bd
  have e0 : s₁.heap = h0 := by rw [← hh, Bd.state]; rfl
  have N0 := Fr.nil n0
  have pre0 : ∀ t, Steps p.tables e below (s₁.setTop (mkF m 0 #[vR a0] [])) t → Steps p.tables e below (s₁.setTop (entryFrame m #[(.ref a0)] 1)) t := fun t k => castTop (ef_16 m a0) k
  obtain ⟨_, _, ⟨T5, L5, k5, n5⟩, -, X5, ⟨Lc5, hQ5, l5, y5, z5⟩, st5⟩ := X0.specialBack hx (y := (⟨"java/util/AbstractCollection", "<init>", "()V"⟩ : MethodName)) rfl hown (mvT hZ (hw _ (List.mem_of_getElem? (i := 87) rfl))) (mvT hZ (hw _ (List.mem_of_getElem? (i := 88) rfl))) (mvT hZ (hw _ (List.mem_of_getElem? (i := 92) rfl))) (by decide) (backOf (W := 0) (rm17 l Z A0 hw [] a0 h0 n0 OLD ) hZ (hw _ (List.mem_of_getElem? (i := 92) rfl)) (hw _ (List.mem_of_getElem? (i := 91) rfl)) (by decide) (by decide)) (g := (mkF m 1 #[vR a0] [(.ref a0)])) rfl (by rw [hml]; rfl) (Steps.refl _) (a := a0) (argsL := []) (rest := []) (lenOf pd_7 rfl) rfl (by show 2 * 0 + _ ≤ _; exact Nat.le_of_eq rfl) (hb hby d16_1) (fun _ _ => ⟨rfl, e0, (by decide : 0 + 0 ≤ _), (by decide : 0 + 0 ≤ _)⟩)
  dsimp only [Pt.U, Pt.locs, Pt.cells, Pt.slots] at X5 l5 y5 z5 st5 hQ5
  subst l5 y5 z5
  obtain ⟨rfl, N5q, e5⟩ := hQ5
  have N5 := Fr.app N0 N5q
  obtain ⟨T6, h6, X6, e6, W6, st6⟩ := putF X5 hx hZ hown (host := "") (Or.inl (hw _ (List.mem_of_getElem? (i := 94) rfl))) Via.refl e5 f_2 f_1 (Or.inl (hw _ (List.mem_of_getElem? (i := 95) rfl))) (hw _ (List.mem_of_getElem? (i := 76) rfl)) (ty := .int) (by decide) rfl rfl (g := (mkF m 6 #[vR a0] [(.int (0 : Int32)), (.ref a0)])) rfl rfl (hb hby d16_6)
  have N6 := Fr.snoc X6 N5 ge_a0
  have f_7 := f_2.same W6
  have K_8 : Keep h0 h6 [a0] := (Keep.refl h0 [a0]).wr W6 (Or.inl (List.mem_of_getElem? (i := 0) rfl))
  have f_9 := f_1.wr W6
  have f_10 := f_3.other W6 (Or.inr (slot_ne (Or.inl (hw _ (List.mem_of_getElem? (i := 98) rfl))) (Or.inl (hw _ (List.mem_of_getElem? (i := 95) rfl))) (by decide) (t := (.array (.object "java/lang/Object"))) (t' := .int) (by decide) (by decide)))
  have f_11 := f_4.other W6 (Or.inr (slot_ne (Or.inl (hw _ (List.mem_of_getElem? (i := 107) rfl))) (Or.inl (hw _ (List.mem_of_getElem? (i := 95) rfl))) (by decide) (t := .int) (t' := .int) (by decide) (by decide)))
  obtain ⟨fs, hr, hrun, hended, hW, hsame⟩ := X6.leave (v := none) (fun _ => rfl)
  refine ⟨_, _, pre0 _ ?_, hrun, hended, _, _, rfl, ?_, ⟨_, rfl⟩, hW, hsame.mono (by decide) (by decide)⟩
  · show Steps p.tables e below (s₁.setTop (mkF m 0 #[vR a0] [])) _
    refine XS.aloadN X0.here hx rfl (hb hby d16_0) rfl rfl ?_
    refine st5.trans ?_
    show Steps p.tables e below (T5.setTop (mkF m 4 #[vR a0] [])) _
    refine XS.aloadN X5.here hx rfl (hb hby d16_4) rfl rfl ?_
    refine XS.iconst X5.here hx rfl (hb hby d16_5) ?_
    show Steps p.tables e below (T5.setTop (mkF m 6 #[vR a0] [(.int (0 : Int32)), (.ref a0)])) _
    refine st6 _ ?_
    show Steps p.tables e below (T6.setTop (mkF m 9 #[vR a0] [])) _
    exact X6.returnOut hx Bd.returns (hb hby d16_9) hr
  · show Q16 Z a0 u_modCount_a0 u_elementData_a0 u_size_a0 h0 n0 _ T6.heap _
    rw [e6]
    exact ⟨rfl, N6, K_8, f_9, f_7, f_10, f_11⟩
theorem d15_0 : decode jdk_38_method_2_code 0 = .ok (.aload_n 0, 1) := by decide +kernel
theorem d15_1 : decode jdk_38_method_2_code 1 = .ok (.invokespecial 1, 3) := by decide +kernel
theorem d15_4 : decode jdk_38_method_2_code 4 = .ok (.aload_n 0, 1) := by decide +kernel
theorem d15_5 : decode jdk_38_method_2_code 5 = .ok (.getstatic 39, 3) := by decide +kernel
theorem d15_8 : decode jdk_38_method_2_code 8 = .ok (.putfield 9, 3) := by decide +kernel
theorem d15_11 : decode jdk_38_method_2_code 11 = .ok (.return_, 1) := by decide +kernel
theorem pn_java_util_ArrayList : plainName "java/util/ArrayList" = true := by first | (simp [plainName, overriddenIn]; done) | decide +kernel
theorem ef_15 (m : MethodId) (x0 : Addr) : entryFrame m #[(.ref x0)] 1 = mkF m 0 #[vR x0] [] := by first | (simp [entryFrame, mkF, argsToLocals, Value.category]; done) | rfl
def Q15 (Z : State) (a0 : Addr) (u_modCount_a0 : Value) (u_elementData_a0 : Value) (u_size_a0 : Value) (w_DEFAULTCAPACITY_EMPTY_ELEMENTDATA : Addr) (h0 : Heap) (n0 : Nat) (v : Option Value) (h : Heap) (L : List Loc) : Prop := v = none ∧ Fr n0 L ∧ Keep h0 h [a0] ∧ Exa Z h a0 "java/util/ArrayList" ∧ Fld Z h a0 "java/util/AbstractList" "modCount" "I" (.int (0 : Int32)) ∧ Fld Z h a0 "java/util/ArrayList" "elementData" "[Ljava/lang/Object;" (.ref w_DEFAULTCAPACITY_EMPTY_ELEMENTDATA) ∧ Fld Z h a0 "java/util/ArrayList" "size" "I" u_size_a0
set_option maxRecDepth 65536 in
set_option maxHeartbeats 40000000 in
theorem rm15 (l : Launch) (Z : State) (A0 : Array Value) (hw : ∀ d ∈ tables_1, d.before A0 Z = true) (ws : List Jvm.Cond) (a0 : Addr) (u_modCount_a0 : Value) (u_elementData_a0 : Value) (u_size_a0 : Value) (w_DEFAULTCAPACITY_EMPTY_ELEMENTDATA : Addr) (h0 : Heap) (n0 : Nat) (OLD : Old Z n0 h0) (f_1 : Exa Z h0 a0 "java/util/ArrayList") (f_2 : Fld Z h0 a0 "java/util/AbstractList" "modCount" "I" u_modCount_a0) (f_3 : Fld Z h0 a0 "java/util/ArrayList" "elementData" "[Ljava/lang/Object;" u_elementData_a0) (f_4 : Fld Z h0 a0 "java/util/ArrayList" "size" "I" u_size_a0) (ge_a0 : n0 ≤ a0) (f_7 : Sta Z Z.heap "java/util/ArrayList" "DEFAULTCAPACITY_EMPTY_ELEMENTDATA" "[Ljava/lang/Object;" (.ref w_DEFAULTCAPACITY_EMPTY_ELEMENTDATA)) :
    MetFree l (⟨"java/util/ArrayList", "<init>", "()V"⟩ : MethodName) (head1 (Jvm.Cond.code (⟨"java/util/ArrayList", "<init>", "()V"⟩ : MethodName) jdk_38_method_2_code 1 none :: ws) ({ frames := 3, cells := 0, slots := 0, locals := 36 } : Room)) (fun a U => a = #[(.ref a0)] ∧ Z.Warmed39 U.vm ∧ U.heap = h0) (fun _ _ _ _ _ => True) (fun _ U o U' => ∃ v L, o = .returned v ∧ Q15 Z a0 u_modCount_a0 u_elementData_a0 u_size_a0 w_DEFAULTCAPACITY_EMPTY_ELEMENTDATA h0 n0 v U'.heap L ∧ FrameEnd U o U' L ({ frames := 3, cells := 0, slots := 0, locals := 36 } : Room).cells ({ frames := 3, cells := 0, slots := 0, locals := 36 } : Room).slots) := by
  refine MetFree.of_bodySF (plainFor_of_name pn_java_util_ArrayList) hisR ?_
  intro p e s m args below meth c s₁ Bd hml0 hP hK
  obtain ⟨rfl, hZ, hh⟩ := hP
  have hx := Bd.exec
  have hby := Bd.bytes
  have hml : c.maxLocals = 1 := hml0
  have hown : s.vm.findClass "java/util/ArrayList" = some m.cls := findClass_of_methodNamed Bd.named
  have hnm := (name_of_methodNamed Bd.named Bd.method).1
  have X0 : Stand p l e ({ frames := 3, cells := 0, slots := 0, locals := 36 } : Room) s m #[(.ref a0)] below meth c s₁ [] 0 0 := Stand.of_body Bd
  have e0 : s₁.heap = h0 := by rw [← hh, Bd.state]; rfl
  have N0 := Fr.nil n0
  have pre0 : ∀ t, Steps p.tables e below (s₁.setTop (mkF m 0 #[vR a0] [])) t → Steps p.tables e below (s₁.setTop (entryFrame m #[(.ref a0)] 1)) t := fun t k => castTop (ef_15 m a0) k
  obtain ⟨_, _, ⟨T5, L5, k5, n5⟩, -, X5, ⟨Lc5, hQ5, l5, y5, z5⟩, st5⟩ := X0.specialBack hx (y := (⟨"java/util/AbstractList", "<init>", "()V"⟩ : MethodName)) rfl hown (mvT hZ (hw _ (List.mem_of_getElem? (i := 81) rfl))) (mvT hZ (hw _ (List.mem_of_getElem? (i := 82) rfl))) (mvT hZ (hw _ (List.mem_of_getElem? (i := 86) rfl))) (by decide) (backOf (W := 0) (rm16 l Z A0 hw [] a0 u_modCount_a0 u_elementData_a0 u_size_a0 h0 n0 OLD f_1 f_2 f_3 f_4 ge_a0) hZ (hw _ (List.mem_of_getElem? (i := 86) rfl)) (hw _ (List.mem_of_getElem? (i := 85) rfl)) (by decide) (by decide)) (g := (mkF m 1 #[vR a0] [(.ref a0)])) rfl (by rw [hml]; rfl) (Steps.refl _) (a := a0) (argsL := []) (rest := []) (lenOf pd_7 rfl) rfl (by show 2 * 0 + _ ≤ _; exact Nat.le_of_eq rfl) (hb hby d15_1) (fun _ _ => ⟨rfl, e0, (by decide : 0 + 0 ≤ _), (by decide : 0 + 0 ≤ _)⟩)
  dsimp only [Pt.U, Pt.locs, Pt.cells, Pt.slots] at X5 l5 y5 z5 st5 hQ5
  subst l5 y5 z5
  obtain ⟨rfl, N5q, K5, g5_0, g5_1, g5_2, g5_3⟩ := hQ5
  have N5 := Fr.app N0 N5q
  have K_6 : Keep h0 T5.heap [a0] := Keep.trans (Keep.refl h0 [a0]) K5 (allS (Or.inl (List.mem_of_getElem? (i := 0) rfl)) all0)
  have O_8 := Old.keep OLD K5 (allS ge_a0 all0)
  obtain ⟨T9, X9, e9, st9⟩ := getS2 X5 hx hZ hown (host := "") (Or.inl (hw _ (List.mem_of_getElem? (i := 96) rfl))) Via.refl rfl (f_7.ext O_8.2) (g := (mkF m 5 #[vR a0] [(.ref a0)])) rfl (hb hby d15_5)
  obtain ⟨T10, h10, X10, e10, W10, st10⟩ := putF X9 hx hZ hown (host := "") (Or.inl (hw _ (List.mem_of_getElem? (i := 97) rfl))) Via.refl e9 g5_2 g5_0 (Or.inl (hw _ (List.mem_of_getElem? (i := 98) rfl))) (hw _ (List.mem_of_getElem? (i := 76) rfl)) (ty := (.array (.object "java/lang/Object"))) (by decide) rfl rfl (g := (mkF m 8 #[vR a0] [(.ref w_DEFAULTCAPACITY_EMPTY_ELEMENTDATA), (.ref a0)])) rfl rfl (hb hby d15_8)
  have N10 := Fr.snoc X10 N5 ge_a0
  have f_11 := g5_2.same W10
  have K_12 : Keep h0 h10 [a0] := K_6.wr W10 (Or.inl (List.mem_of_getElem? (i := 0) rfl))
  have f_13 := g5_0.wr W10
  have f_14 := g5_1.other W10 (Or.inr (slot_ne (Or.inl (hw _ (List.mem_of_getElem? (i := 95) rfl))) (Or.inl (hw _ (List.mem_of_getElem? (i := 98) rfl))) (by decide) (t := .int) (t' := (.array (.object "java/lang/Object"))) (by decide) (by decide)))
  have f_15 := g5_3.other W10 (Or.inr (slot_ne (Or.inl (hw _ (List.mem_of_getElem? (i := 107) rfl))) (Or.inl (hw _ (List.mem_of_getElem? (i := 98) rfl))) (by decide) (t := .int) (t' := (.array (.object "java/lang/Object"))) (by decide) (by decide)))
  obtain ⟨fs, hr, hrun, hended, hW, hsame⟩ := X10.leave (v := none) (fun _ => rfl)
  refine ⟨_, _, pre0 _ ?_, hrun, hended, _, _, rfl, ?_, ⟨_, rfl⟩, hW, hsame.mono (by decide) (by decide)⟩
  · show Steps p.tables e below (s₁.setTop (mkF m 0 #[vR a0] [])) _
    refine XS.aloadN X0.here hx rfl (hb hby d15_0) rfl rfl ?_
    refine st5.trans ?_
    show Steps p.tables e below (T5.setTop (mkF m 4 #[vR a0] [])) _
    refine XS.aloadN X5.here hx rfl (hb hby d15_4) rfl rfl ?_
    refine st9 _ ?_
    show Steps p.tables e below (T9.setTop (mkF m 8 #[vR a0] [(.ref w_DEFAULTCAPACITY_EMPTY_ELEMENTDATA), (.ref a0)])) _
    refine st10 _ ?_
    show Steps p.tables e below (T10.setTop (mkF m 11 #[vR a0] [])) _
    exact X10.returnOut hx Bd.returns (hb hby d15_11) hr
  · show Q15 Z a0 u_modCount_a0 u_elementData_a0 u_size_a0 w_DEFAULTCAPACITY_EMPTY_ELEMENTDATA h0 n0 _ T10.heap _
    rw [e10]
    exact ⟨rfl, N10, K_12, f_13, f_14, f_11, f_15⟩
theorem d22_0 : decode jdk_29_method_65_code 0 = .ok (.iload_n 0, 1) := by decide +kernel
theorem d22_1 : decode jdk_29_method_65_code 1 = .ok (.iload_n 1, 1) := by decide +kernel
theorem d22_2 : decode jdk_29_method_65_code 2 = .ok (.if_icmp .lt 7, 3) := by decide +kernel
theorem d22_5 : decode jdk_29_method_65_code 5 = .ok (.iload_n 0, 1) := by decide +kernel
theorem d22_6 : decode jdk_29_method_65_code 6 = .ok (.goto 4, 3) := by decide +kernel
theorem d22_10 : decode jdk_29_method_65_code 10 = .ok (.ireturn, 1) := by decide +kernel
theorem ef_22 (m : MethodId) (x0 : Int32) (x1 : Int32) : entryFrame m #[(.int x0), (.int x1)] 2 = mkF m 0 #[vI x0, vI x1] [] := by first | (simp [entryFrame, mkF, argsToLocals, Value.category]; done) | rfl
def Q22a (Z : State)  (h0 : Heap) (n0 : Nat) (v : Option Value) (h : Heap) (L : List Loc) : Prop := v = some (.int (10 : Int32)) ∧ Fr n0 L ∧ h = h0
set_option maxRecDepth 65536 in
set_option maxHeartbeats 40000000 in
theorem rm22a (l : Launch) (Z : State) (A0 : Array Value) (hw : ∀ d ∈ tables_1, d.before A0 Z = true) (ws : List Jvm.Cond)  (h0 : Heap) (n0 : Nat) (OLD : Old Z n0 h0) :
    MetFree l (⟨"java/lang/Math", "max", "(II)I"⟩ : MethodName) (head1 (Jvm.Cond.code (⟨"java/lang/Math", "max", "(II)I"⟩ : MethodName) jdk_29_method_65_code 2 (some .int) :: ws) ({ frames := 0, cells := 0, slots := 0, locals := 0 } : Room)) (fun a U => a = #[(.int (10 : Int32)), (.int (1 : Int32))] ∧ Z.Warmed39 U.vm ∧ U.heap = h0) (fun _ _ _ _ _ => True) (fun _ U o U' => ∃ v L, o = .returned v ∧ Q22a Z  h0 n0 v U'.heap L ∧ FrameEnd U o U' L ({ frames := 0, cells := 0, slots := 0, locals := 0 } : Room).cells ({ frames := 0, cells := 0, slots := 0, locals := 0 } : Room).slots) := by
  refine MetFree.of_bodySF (Jvm.Free.JP.mathPlain rfl (by decide +kernel)) hisR ?_
  intro p e s m args below meth c s₁ Bd hml0 hP hK
  obtain ⟨rfl, hZ, hh⟩ := hP
  have hx := Bd.exec
  have hby := Bd.bytes
  have hml : c.maxLocals = 2 := hml0
  have hown : s.vm.findClass "java/lang/Math" = some m.cls := findClass_of_methodNamed Bd.named
  have hnm := (name_of_methodNamed Bd.named Bd.method).1
  have X0 : Stand p l e ({ frames := 0, cells := 0, slots := 0, locals := 0 } : Room) s m #[(.int (10 : Int32)), (.int (1 : Int32))] below meth c s₁ [] 0 0 := Stand.of_body Bd
  have e0 : s₁.heap = h0 := by rw [← hh, Bd.state]; rfl
  have N0 := Fr.nil n0
  have pre0 : ∀ t, Steps p.tables e below (s₁.setTop (mkF m 0 #[vI (10 : Int32), vI (1 : Int32)] [])) t → Steps p.tables e below (s₁.setTop (entryFrame m #[(.int (10 : Int32)), (.int (1 : Int32))] 2)) t := fun t k => castTop (ef_22 m (10 : Int32) (1 : Int32)) k
  obtain ⟨fs, hr, hrun, hended, hW, hsame⟩ := X0.leave (v := some (.int (10 : Int32))) (fun h => by rw [Bd.returns] at h; cases h)
  refine ⟨_, _, pre0 _ ?_, hrun, hended, _, _, rfl, ?_, ⟨_, rfl⟩, hW, hsame.mono (by decide) (by decide)⟩
  · show Steps p.tables e below (s₁.setTop (mkF m 0 #[vI (10 : Int32), vI (1 : Int32)] [])) _
    refine XS.iloadN X0.here hx rfl (hb hby d22_0) rfl ?_
    refine XS.iloadN X0.here hx rfl (hb hby d22_1) rfl ?_
    show Steps p.tables e below (s₁.setTop (mkF m 2 #[vI (10 : Int32), vI (1 : Int32)] [(.int (1 : Int32)), (.int (10 : Int32))])) _
    refine XS.icmpNo X0.here hx rfl (hb hby d22_2) rfl (flt (by decide : ¬ ((10 : Int32) < (1 : Int32)))).1 ?_
    refine XS.iloadN X0.here hx rfl (hb hby d22_5) rfl ?_
    show Steps p.tables e below (s₁.setTop (mkF m 6 #[vI (10 : Int32), vI (1 : Int32)] [(.int (10 : Int32))])) _
    refine XS.goto X0.here hx rfl (pc0 := 6) (pc' := 10) rfl (hb hby d22_6) (by decide) (by decide) ?_
    show Steps p.tables e below (s₁.setTop (mkF m 10 #[vI (10 : Int32), vI (1 : Int32)] [(.int (10 : Int32))])) _
    exact retI X0 hx Bd.returns (hb hby d22_10) hr
  · show Q22a Z  h0 n0 _ s₁.heap _
    rw [e0]
    exact ⟨rfl, N0, rfl⟩
theorem pd_9 : parseMethodDescriptor "(II)I" = some ⟨[.int, .int], some .int⟩ := by decide +kernel
theorem d21_0 : decode jdk_38_method_6_code 0 = .ok (.aload_n 0, 1) := by decide +kernel
theorem d21_1 : decode jdk_38_method_6_code 1 = .ok (.getfield 9, 3) := by decide +kernel
theorem d21_4 : decode jdk_38_method_6_code 4 = .ok (.arraylength, 1) := by decide +kernel
theorem d21_5 : decode jdk_38_method_6_code 5 = .ok (.istore_n 2, 1) := by decide +kernel
theorem d21_6 : decode jdk_38_method_6_code 6 = .ok (.iload_n 2, 1) := by decide +kernel
theorem d21_7 : decode jdk_38_method_6_code 7 = .ok (.ifCond .gt 13, 3) := by decide +kernel
theorem d21_10 : decode jdk_38_method_6_code 10 = .ok (.aload_n 0, 1) := by decide +kernel
theorem d21_11 : decode jdk_38_method_6_code 11 = .ok (.getfield 9, 3) := by decide +kernel
theorem d21_14 : decode jdk_38_method_6_code 14 = .ok (.getstatic 39, 3) := by decide +kernel
theorem d21_17 : decode jdk_38_method_6_code 17 = .ok (.if_acmp .eq 28, 3) := by decide +kernel
theorem d21_45 : decode jdk_38_method_6_code 45 = .ok (.aload_n 0, 1) := by decide +kernel
theorem d21_46 : decode jdk_38_method_6_code 46 = .ok (.bipush 10, 2) := by decide +kernel
theorem d21_48 : decode jdk_38_method_6_code 48 = .ok (.iload_n 1, 1) := by decide +kernel
theorem d21_49 : decode jdk_38_method_6_code 49 = .ok (.invokestatic 79, 3) := by decide +kernel
theorem d21_52 : decode jdk_38_method_6_code 52 = .ok (.anewarray 7, 3) := by decide +kernel
theorem d21_55 : decode jdk_38_method_6_code 55 = .ok (.dup_x1, 1) := by decide +kernel
theorem d21_56 : decode jdk_38_method_6_code 56 = .ok (.putfield 9, 3) := by decide +kernel
theorem d21_59 : decode jdk_38_method_6_code 59 = .ok (.areturn, 1) := by decide +kernel
theorem ef_21 (m : MethodId) (x0 : Addr) (x1 : Int32) : entryFrame m #[(.ref x0), (.int x1)] 4 = mkF m 0 #[vR x0, vI x1, .unset, .unset] [] := by first | (simp [entryFrame, mkF, argsToLocals, Value.category]; done) | rfl
def Q21 (Z : State) (w_DEFAULTCAPACITY_EMPTY_ELEMENTDATA : Addr) (k_w_DEFAULTCAPACITY_EMPTY_ELEMENTDATA : ClassId) (a0 : Addr) (h0 : Heap) (n0 : Nat) (v : Option Value) (h : Heap) (L : List Loc) : Prop := ∃ b12 : Addr, ∃ k12 : ClassId, v = some (.ref b12) ∧ Fr n0 L ∧ Keep h0 h [a0] ∧ h0.size ≤ b12 ∧ Exa Z h b12 "[Ljava/lang/Object;" ∧ Arv Z h b12 k12 (.object "java/lang/Object") (10 : Int32) [.null, .null, .null, .null, .null, .null, .null, .null, .null, .null] .null ∧ Exa Z h a0 "java/util/ArrayList" ∧ Fld Z h a0 "java/util/ArrayList" "elementData" "[Ljava/lang/Object;" (.ref b12) ∧ Fld Z h a0 "java/util/ArrayList" "size" "I" (.int (0 : Int32)) ∧ Fld Z h a0 "java/util/AbstractList" "modCount" "I" (.int (1 : Int32)) ∧ Ovr Z k12 "java/lang/Object"
set_option maxRecDepth 65536 in
set_option maxHeartbeats 40000000 in
theorem rm21 (l : Launch) (Z : State) (A0 : Array Value) (hw : ∀ d ∈ tables_1, d.before A0 Z = true) (ws : List Jvm.Cond) (w_DEFAULTCAPACITY_EMPTY_ELEMENTDATA : Addr) (k_w_DEFAULTCAPACITY_EMPTY_ELEMENTDATA : ClassId) (a0 : Addr) (h0 : Heap) (n0 : Nat) (OLD : Old Z n0 h0) (f_1 : Exa Z h0 a0 "java/util/ArrayList") (f_2 : Sta Z Z.heap "java/util/ArrayList" "DEFAULTCAPACITY_EMPTY_ELEMENTDATA" "[Ljava/lang/Object;" (.ref w_DEFAULTCAPACITY_EMPTY_ELEMENTDATA)) (f_3 : Fld Z h0 a0 "java/util/ArrayList" "elementData" "[Ljava/lang/Object;" (.ref w_DEFAULTCAPACITY_EMPTY_ELEMENTDATA)) (f_4 : Arv Z Z.heap w_DEFAULTCAPACITY_EMPTY_ELEMENTDATA k_w_DEFAULTCAPACITY_EMPTY_ELEMENTDATA (.object "java/lang/Object") (0 : Int32) [] .null) (f_5 : Fld Z h0 a0 "java/util/ArrayList" "size" "I" (.int (0 : Int32))) (f_6 : Fld Z h0 a0 "java/util/AbstractList" "modCount" "I" (.int (1 : Int32))) (ge_a0 : n0 ≤ a0) :
    MetFree l (⟨"java/util/ArrayList", "grow", "(I)[Ljava/lang/Object;"⟩ : MethodName) (head1 (Jvm.Cond.code (⟨"java/util/ArrayList", "grow", "(I)[Ljava/lang/Object;"⟩ : MethodName) jdk_38_method_6_code 4 (some (.array (.object "java/lang/Object"))) :: ws) ({ frames := 1, cells := 1, slots := 10, locals := 14 } : Room)) (fun a U => a = #[(.ref a0), (.int (1 : Int32))] ∧ Z.Warmed39 U.vm ∧ U.heap = h0) (fun _ _ _ _ _ => True) (fun _ U o U' => ∃ v L, o = .returned v ∧ Q21 Z w_DEFAULTCAPACITY_EMPTY_ELEMENTDATA k_w_DEFAULTCAPACITY_EMPTY_ELEMENTDATA a0 h0 n0 v U'.heap L ∧ FrameEnd U o U' L ({ frames := 1, cells := 1, slots := 10, locals := 14 } : Room).cells ({ frames := 1, cells := 1, slots := 10, locals := 14 } : Room).slots) := by
  refine MetFree.of_bodySF (plainFor_of_name pn_java_util_ArrayList) hisR ?_
  intro p e s m args below meth c s₁ Bd hml0 hP hK
  obtain ⟨rfl, hZ, hh⟩ := hP
  have hx := Bd.exec
  have hby := Bd.bytes
  have hml : c.maxLocals = 4 := hml0
  have hown : s.vm.findClass "java/util/ArrayList" = some m.cls := findClass_of_methodNamed Bd.named
  have hnm := (name_of_methodNamed Bd.named Bd.method).1
  have X0 : Stand p l e ({ frames := 1, cells := 1, slots := 10, locals := 14 } : Room) s m #[(.ref a0), (.int (1 : Int32))] below meth c s₁ [] 0 0 := Stand.of_body Bd
  have e0 : s₁.heap = h0 := by rw [← hh, Bd.state]; rfl
  have N0 := Fr.nil n0
  have pre0 : ∀ t, Steps p.tables e below (s₁.setTop (mkF m 0 #[vR a0, vI (1 : Int32), .unset, .unset] [])) t → Steps p.tables e below (s₁.setTop (entryFrame m #[(.ref a0), (.int (1 : Int32))] 4)) t := fun t k => castTop (ef_21 m a0 (1 : Int32)) k
  obtain ⟨T7, X7, e7, st7⟩ := getF X0 hx hZ hown (host := "") (Or.inl (hw _ (List.mem_of_getElem? (i := 97) rfl))) Via.refl e0 f_3 (g := (mkF m 1 #[vR a0, vI (1 : Int32), .unset, .unset] [(.ref a0)])) rfl rfl (hb hby d21_1)
  obtain ⟨cl8, Ar8, -, s8, n8, -, -⟩ := id ((f_4.ext OLD.2))
  obtain ⟨T9, X9, e9, st9⟩ := getF X7 hx hZ hown (host := "") (Or.inl (hw _ (List.mem_of_getElem? (i := 97) rfl))) Via.refl e7 f_3 (g := (mkF m 11 #[vR a0, vI (1 : Int32), vI (0 : Int32), .unset] [(.ref a0)])) rfl rfl (hb hby d21_11)
  obtain ⟨T10, X10, e10, st10⟩ := getS2 X9 hx hZ hown (host := "") (Or.inl (hw _ (List.mem_of_getElem? (i := 96) rfl))) Via.refl e9 (f_2.ext OLD.2) (g := (mkF m 14 #[vR a0, vI (1 : Int32), vI (0 : Int32), .unset] [(.ref w_DEFAULTCAPACITY_EMPTY_ELEMENTDATA)])) rfl (hb hby d21_14)
  obtain ⟨_, _, ⟨T11, L11, k11, n11⟩, -, X11, ⟨Lc11, hQ11, l11, y11, z11⟩, st11⟩ := Jvm.LawKit.callS X10 hx (y := (⟨"java/lang/Math", "max", "(II)I"⟩ : MethodName)) hown (mvT hZ (hw _ (List.mem_of_getElem? (i := 123) rfl))) (mvT hZ (hw _ (List.mem_of_getElem? (i := 124) rfl))) (mvT hZ (hw _ (List.mem_of_getElem? (i := 125) rfl))) (mvT hZ (hw _ (List.mem_of_getElem? (i := 126) rfl))) (by decide) (backOf (W := 1) (rm22a l Z A0 hw []  h0 n0 OLD ) hZ (hw _ (List.mem_of_getElem? (i := 126) rfl)) (hw _ (List.mem_of_getElem? (i := 125) rfl)) (by decide) (by decide)) (g := (mkF m 49 #[vR a0, vI (1 : Int32), vI (0 : Int32), .unset] [(.int (1 : Int32)), (.int (10 : Int32)), (.ref a0)])) rfl (by rw [hml]; rfl) (argsL := [(.int (10 : Int32)), (.int (1 : Int32))]) (rest := [(.ref a0)]) (lenOf pd_9 rfl) rfl (by show 2 * 0 + _ ≤ _; exact Nat.le_of_eq rfl) (hb hby d21_49) (fun _ _ => ⟨rfl, e10, (by decide : 0 + 0 ≤ _), (by decide : 0 + 0 ≤ _)⟩)
  dsimp only [Pt.U, Pt.locs, Pt.cells, Pt.slots] at X11 l11 y11 z11 st11 hQ11
  subst l11 y11 z11
  obtain ⟨rfl, N11q, e11⟩ := hQ11
  have N11 := Fr.app N0 N11q
  obtain ⟨T12, h12, k12, X12, e12, E12, A12, B12, O12, st12⟩ := newRE X11 hx hZ hown (hw _ (List.mem_of_getElem? (i := 127) rfl)) (hw _ (List.mem_of_getElem? (i := 128) rfl)) e11 (g := (mkF m 52 #[vR a0, vI (1 : Int32), vI (0 : Int32), .unset] [(.int (10 : Int32)), (.ref a0)])) rfl (hb hby d21_52) rfl (by decide) (cap := 10) (by decide) (by decide) (by decide) (by decide) (ad := "[Ljava/lang/Object;") (by decide)
  obtain ⟨b12, g12⟩ : ∃ z, z = h0.size := ⟨_, rfl⟩
  rw [← g12] at A12 B12 st12
  have K_13 : Keep h0 h12 [a0] := (Keep.refl h0 [a0]).ext E12
  have f_14 : Arv Z h12 b12 k12 (.object "java/lang/Object") (10 : Int32) [.null, .null, .null, .null, .null, .null, .null, .null, .null, .null] .null := (Arv.new A12 (by decide)).pad (pad_rep [] .null 10)
  have f_15 := f_1.ext E12
  have f_16 := f_3.ext E12
  obtain ⟨T17, h17, X17, e17, W17, st17⟩ := putF X12 hx hZ hown (host := "") (Or.inl (hw _ (List.mem_of_getElem? (i := 97) rfl))) Via.refl e12 f_16 f_15 (Or.inl (hw _ (List.mem_of_getElem? (i := 98) rfl))) (hw _ (List.mem_of_getElem? (i := 76) rfl)) (ty := (.array (.object "java/lang/Object"))) (by decide) rfl rfl (g := (mkF m 56 #[vR a0, vI (1 : Int32), vI (0 : Int32), .unset] [(.ref b12), (.ref a0), (.ref b12)])) rfl rfl (hb hby d21_56)
  have N17 := Fr.snoc X17 N11 ge_a0
  have f_18 := f_16.same W17
  have K_19 : Keep h0 h17 [a0] := K_13.wr W17 (Or.inl (List.mem_of_getElem? (i := 0) rfl))
  have f_20 := B12.wr W17
  have ne_21 : b12 ≠ a0 := Ne.symm (Nat.ne_of_lt (Nat.lt_of_lt_of_le f_1.lt (Nat.le_of_eq g12.symm)))
  have f_22 := f_14.other W17 ne_21
  have f_23 := f_15.wr W17
  have f_24 := f_5.ext E12
  have f_25 := f_24.other W17 (Or.inr (slot_ne (Or.inl (hw _ (List.mem_of_getElem? (i := 107) rfl))) (Or.inl (hw _ (List.mem_of_getElem? (i := 98) rfl))) (by decide) (t := .int) (t' := (.array (.object "java/lang/Object"))) (by decide) (by decide)))
  have f_26 := f_6.ext E12
  have f_27 := f_26.other W17 (Or.inr (slot_ne (Or.inl (hw _ (List.mem_of_getElem? (i := 95) rfl))) (Or.inl (hw _ (List.mem_of_getElem? (i := 98) rfl))) (by decide) (t := .int) (t' := (.array (.object "java/lang/Object"))) (by decide) (by decide)))
  obtain ⟨fs, hr, hrun, hended, hW, hsame⟩ := X17.leave (v := some (.ref b12)) (fun h => by rw [Bd.returns] at h; cases h)
  refine ⟨_, _, pre0 _ ?_, hrun, hended, _, _, rfl, ?_, ⟨_, rfl⟩, hW, hsame.mono (by decide) (by decide)⟩
  · show Steps p.tables e below (s₁.setTop (mkF m 0 #[vR a0, vI (1 : Int32), .unset, .unset] [])) _
    refine XS.aloadN X0.here hx rfl (hb hby d21_0) rfl rfl ?_
    refine st7 _ ?_
    show Steps p.tables e below (T7.setTop (mkF m 4 #[vR a0, vI (1 : Int32), .unset, .unset] [(.ref w_DEFAULTCAPACITY_EMPTY_ELEMENTDATA)])) _
    refine X7.arraylength hx (by rw [e7]; exact Ar8.1) (State.isArrayOf_alike hZ.alike Ar8.2.1) (g := (mkF m 4 #[vR a0, vI (1 : Int32), .unset, .unset] [(.ref w_DEFAULTCAPACITY_EMPTY_ELEMENTDATA)])) rfl rfl (hb hby d21_4) _ ?_
    rw [len_of s8 n8]
    refine XS.istoreN X7.here hx rfl (hb hby d21_5) rfl (l' := #[vR a0, vI (1 : Int32), vI (0 : Int32), .unset]) rfl ?_
    show Steps p.tables e below (T7.setTop (mkF m 6 #[vR a0, vI (1 : Int32), vI (0 : Int32), .unset] [])) _
    refine XS.iloadN X7.here hx rfl (hb hby d21_6) rfl ?_
    refine XS.ifNo X7.here hx rfl (hb hby d21_7) rfl ((if0 _ _).trans (flt (by decide : ¬ ((0 : Int32) < (0 : Int32)))).2.2.1) ?_
    show Steps p.tables e below (T7.setTop (mkF m 10 #[vR a0, vI (1 : Int32), vI (0 : Int32), .unset] [])) _
    refine XS.aloadN X7.here hx rfl (hb hby d21_10) rfl rfl ?_
    refine st9 _ ?_
    show Steps p.tables e below (T9.setTop (mkF m 14 #[vR a0, vI (1 : Int32), vI (0 : Int32), .unset] [(.ref w_DEFAULTCAPACITY_EMPTY_ELEMENTDATA)])) _
    refine st10 _ ?_
    refine Jvm.RoadKit.acmp (g := (mkF m 17 #[vR a0, vI (1 : Int32), vI (0 : Int32), .unset] [(.ref w_DEFAULTCAPACITY_EMPTY_ELEMENTDATA), (.ref w_DEFAULTCAPACITY_EMPTY_ELEMENTDATA)])) X10 hx rfl rfl rfl (pc0 := 17) (pc' := 45) (same := true) rfl (hb hby d21_17) rfl (decide_eq_true rfl) (by decide) (by decide) ?_
    show Steps p.tables e below (T10.setTop (mkF m 45 #[vR a0, vI (1 : Int32), vI (0 : Int32), .unset] [])) _
    refine XS.aloadN X10.here hx rfl (hb hby d21_45) rfl rfl ?_
    refine XS.bipush X10.here hx rfl (hb hby d21_46) ?_
    show Steps p.tables e below (T10.setTop (mkF m 48 #[vR a0, vI (1 : Int32), vI (0 : Int32), .unset] [(.int (10 : Int32)), (.ref a0)])) _
    refine XS.iloadN X10.here hx rfl (hb hby d21_48) rfl ?_
    refine st11 _ ?_
    show Steps p.tables e below (T11.setTop (mkF m 52 #[vR a0, vI (1 : Int32), vI (0 : Int32), .unset] [(.int (10 : Int32)), (.ref a0)])) _
    refine st12 _ ?_
    refine XS.dupX1 X12.here hx rfl (hb hby d21_55) rfl rfl rfl ?_
    show Steps p.tables e below (T12.setTop (mkF m 56 #[vR a0, vI (1 : Int32), vI (0 : Int32), .unset] [(.ref b12), (.ref a0), (.ref b12)])) _
    refine st17 _ ?_
    show Steps p.tables e below (T17.setTop (mkF m 59 #[vR a0, vI (1 : Int32), vI (0 : Int32), .unset] [(.ref b12)])) _
    jvm_step X17.here [X17.here.top, hx, (hb hby d21_59), X17.method', Bd.returns, Value.isRef, FieldType.isReference]
    first | (intro acts; rw [hr _ acts rfl rfl rfl]) | rw [hr _ _ rfl rfl rfl]
    exact Steps.refl _
  · show Q21 Z w_DEFAULTCAPACITY_EMPTY_ELEMENTDATA k_w_DEFAULTCAPACITY_EMPTY_ELEMENTDATA a0 h0 n0 _ T17.heap _
    rw [e17]
    exact ⟨b12, k12, rfl, N17, K_19, (Nat.le_trans (Keep.refl h0 [a0]).1 (Nat.le_of_eq g12.symm)), f_20, f_22, f_23, f_18, f_25, f_27, O12⟩
theorem pd_10 : parseMethodDescriptor "(I)[Ljava/lang/Object;" = some ⟨[.int], some (.array (.object "java/lang/Object"))⟩ := by decide +kernel
theorem d20_0 : decode jdk_38_method_7_code 0 = .ok (.aload_n 0, 1) := by decide +kernel
theorem d20_1 : decode jdk_38_method_7_code 1 = .ok (.aload_n 0, 1) := by decide +kernel
theorem d20_2 : decode jdk_38_method_7_code 2 = .ok (.getfield 48, 3) := by decide +kernel
theorem d20_5 : decode jdk_38_method_7_code 5 = .ok (.iconst 1, 1) := by decide +kernel
theorem d20_6 : decode jdk_38_method_7_code 6 = .ok (.iadd, 1) := by decide +kernel
theorem d20_7 : decode jdk_38_method_7_code 7 = .ok (.invokevirtual 69, 3) := by decide +kernel
theorem d20_10 : decode jdk_38_method_7_code 10 = .ok (.areturn, 1) := by decide +kernel
theorem ef_20 (m : MethodId) (x0 : Addr) : entryFrame m #[(.ref x0)] 1 = mkF m 0 #[vR x0] [] := by first | (simp [entryFrame, mkF, argsToLocals, Value.category]; done) | rfl
def Q20 (Z : State) (w_DEFAULTCAPACITY_EMPTY_ELEMENTDATA : Addr) (k_w_DEFAULTCAPACITY_EMPTY_ELEMENTDATA : ClassId) (a0 : Addr) (h0 : Heap) (n0 : Nat) (v : Option Value) (h : Heap) (L : List Loc) : Prop := ∃ b12_8 : Addr, ∃ k12_8 : ClassId, v = some (.ref b12_8) ∧ Fr n0 L ∧ Keep h0 h [a0] ∧ h0.size ≤ b12_8 ∧ Exa Z h b12_8 "[Ljava/lang/Object;" ∧ Arv Z h b12_8 k12_8 (.object "java/lang/Object") (10 : Int32) [.null, .null, .null, .null, .null, .null, .null, .null, .null, .null] .null ∧ Exa Z h a0 "java/util/ArrayList" ∧ Fld Z h a0 "java/util/ArrayList" "elementData" "[Ljava/lang/Object;" (.ref b12_8) ∧ Fld Z h a0 "java/util/ArrayList" "size" "I" (.int (0 : Int32)) ∧ Fld Z h a0 "java/util/AbstractList" "modCount" "I" (.int (1 : Int32)) ∧ Ovr Z k12_8 "java/lang/Object"
set_option maxRecDepth 65536 in
set_option maxHeartbeats 40000000 in
theorem rm20 (l : Launch) (Z : State) (A0 : Array Value) (hw : ∀ d ∈ tables_1, d.before A0 Z = true) (ws : List Jvm.Cond) (w_DEFAULTCAPACITY_EMPTY_ELEMENTDATA : Addr) (k_w_DEFAULTCAPACITY_EMPTY_ELEMENTDATA : ClassId) (a0 : Addr) (h0 : Heap) (n0 : Nat) (OLD : Old Z n0 h0) (f_1 : Exa Z h0 a0 "java/util/ArrayList") (f_2 : Sta Z Z.heap "java/util/ArrayList" "DEFAULTCAPACITY_EMPTY_ELEMENTDATA" "[Ljava/lang/Object;" (.ref w_DEFAULTCAPACITY_EMPTY_ELEMENTDATA)) (f_3 : Fld Z h0 a0 "java/util/ArrayList" "elementData" "[Ljava/lang/Object;" (.ref w_DEFAULTCAPACITY_EMPTY_ELEMENTDATA)) (f_4 : Arv Z Z.heap w_DEFAULTCAPACITY_EMPTY_ELEMENTDATA k_w_DEFAULTCAPACITY_EMPTY_ELEMENTDATA (.object "java/lang/Object") (0 : Int32) [] .null) (f_5 : Fld Z h0 a0 "java/util/ArrayList" "size" "I" (.int (0 : Int32))) (f_6 : Fld Z h0 a0 "java/util/AbstractList" "modCount" "I" (.int (1 : Int32))) (ge_a0 : n0 ≤ a0) :
    MetFree l (⟨"java/util/ArrayList", "grow", "()[Ljava/lang/Object;"⟩ : MethodName) (head1 (Jvm.Cond.code (⟨"java/util/ArrayList", "grow", "()[Ljava/lang/Object;"⟩ : MethodName) jdk_38_method_7_code 1 (some (.array (.object "java/lang/Object"))) :: ws) ({ frames := 2, cells := 1, slots := 10, locals := 29 } : Room)) (fun a U => a = #[(.ref a0)] ∧ Z.Warmed39 U.vm ∧ U.heap = h0) (fun _ _ _ _ _ => True) (fun _ U o U' => ∃ v L, o = .returned v ∧ Q20 Z w_DEFAULTCAPACITY_EMPTY_ELEMENTDATA k_w_DEFAULTCAPACITY_EMPTY_ELEMENTDATA a0 h0 n0 v U'.heap L ∧ FrameEnd U o U' L ({ frames := 2, cells := 1, slots := 10, locals := 29 } : Room).cells ({ frames := 2, cells := 1, slots := 10, locals := 29 } : Room).slots) := by
  refine MetFree.of_bodySF (plainFor_of_name pn_java_util_ArrayList) hisR ?_
  intro p e s m args below meth c s₁ Bd hml0 hP hK
  obtain ⟨rfl, hZ, hh⟩ := hP
  have hx := Bd.exec
  have hby := Bd.bytes
  have hml : c.maxLocals = 1 := hml0
  have hown : s.vm.findClass "java/util/ArrayList" = some m.cls := findClass_of_methodNamed Bd.named
  have hnm := (name_of_methodNamed Bd.named Bd.method).1
  have X0 : Stand p l e ({ frames := 2, cells := 1, slots := 10, locals := 29 } : Room) s m #[(.ref a0)] below meth c s₁ [] 0 0 := Stand.of_body Bd
  have e0 : s₁.heap = h0 := by rw [← hh, Bd.state]; rfl
  have N0 := Fr.nil n0
  have pre0 : ∀ t, Steps p.tables e below (s₁.setTop (mkF m 0 #[vR a0] [])) t → Steps p.tables e below (s₁.setTop (entryFrame m #[(.ref a0)] 1)) t := fun t k => castTop (ef_20 m a0) k
  obtain ⟨T7, X7, e7, st7⟩ := getF X0 hx hZ hown (host := "") (Or.inl (hw _ (List.mem_of_getElem? (i := 106) rfl))) Via.refl e0 f_5 (g := (mkF m 2 #[vR a0] [(.ref a0), (.ref a0)])) rfl rfl (hb hby d20_2)
  obtain ⟨cq8, q8, q8'⟩ := f_1.cell
  obtain ⟨_, _, ⟨T8, L8, k8, n8⟩, -, X8, ⟨Lc8, hQ8, l8, y8, z8⟩, st8⟩ := X7.privateBack hx (y := (⟨"java/util/ArrayList", "grow", "(I)[Ljava/lang/Object;"⟩ : MethodName)) hown (mvT hZ (hw _ (List.mem_of_getElem? (i := 118) rfl))) (mvT hZ (hw _ (List.mem_of_getElem? (i := 119) rfl))) (mvT hZ (hw _ (List.mem_of_getElem? (i := 121) rfl))) (Cond.privateMethod_at (mvP hZ (hw _ (List.mem_of_getElem? (i := 120) rfl)) (args := #[]))) (mvT hZ (hw _ (List.mem_of_getElem? (i := 122) rfl))) (by decide) (backOf (W := 0) (rm21 l Z A0 hw [] w_DEFAULTCAPACITY_EMPTY_ELEMENTDATA k_w_DEFAULTCAPACITY_EMPTY_ELEMENTDATA a0 h0 n0 OLD f_1 f_2 f_3 f_4 f_5 f_6 ge_a0) hZ (hw _ (List.mem_of_getElem? (i := 122) rfl)) (hw _ (List.mem_of_getElem? (i := 77) rfl)) (by decide) (by decide)) (g := (mkF m 7 #[vR a0] [(.int (1 : Int32)), (.ref a0)])) rfl (by rw [hml]; rfl) (Steps.refl _) (a := a0) (by rw [e7]; exact q8) q8' (argsL := [(.int (1 : Int32))]) (rest := []) (lenOf pd_10 rfl) rfl (by show 2 * 0 + _ ≤ _; exact Nat.le_of_eq rfl) (hb hby d20_7) (fun _ _ => ⟨rfl, e7, (by decide : 0 + 1 ≤ _), (by decide : 0 + 10 ≤ _)⟩)
  dsimp only [Pt.U, Pt.locs, Pt.cells, Pt.slots] at X8 l8 y8 z8 st8 hQ8
  subst l8 y8 z8
  obtain ⟨b12_8, k12_8, rfl, N8q, K8, g8_0, g8_1, g8_2, g8_3, g8_4, g8_5, g8_6, g8_7⟩ := hQ8
  have N8 := Fr.app N0 N8q
  have K_9 : Keep h0 T8.heap [a0] := Keep.trans (Keep.refl h0 [a0]) K8 (allS (Or.inl (List.mem_of_getElem? (i := 0) rfl)) all0)
  obtain ⟨fs, hr, hrun, hended, hW, hsame⟩ := X8.leave (v := some (.ref b12_8)) (fun h => by rw [Bd.returns] at h; cases h)
  refine ⟨_, _, pre0 _ ?_, hrun, hended, _, _, rfl, ?_, ⟨_, rfl⟩, hW, hsame.mono (by decide) (by decide)⟩
  · show Steps p.tables e below (s₁.setTop (mkF m 0 #[vR a0] [])) _
    refine XS.aloadN X0.here hx rfl (hb hby d20_0) rfl rfl ?_
    refine XS.aloadN X0.here hx rfl (hb hby d20_1) rfl rfl ?_
    show Steps p.tables e below (s₁.setTop (mkF m 2 #[vR a0] [(.ref a0), (.ref a0)])) _
    refine st7 _ ?_
    refine XS.iconst X7.here hx rfl (hb hby d20_5) ?_
    show Steps p.tables e below (T7.setTop (mkF m 6 #[vR a0] [(.int (1 : Int32)), (.int (0 : Int32)), (.ref a0)])) _
    refine XS.iadd X7.here hx rfl (hb hby d20_6) rfl ?_
    refine st8.trans ?_
    show Steps p.tables e below (T8.setTop (mkF m 10 #[vR a0] [(.ref b12_8)])) _
    jvm_step X8.here [X8.here.top, hx, (hb hby d20_10), X8.method', Bd.returns, Value.isRef, FieldType.isReference]
    first | (intro acts; rw [hr _ acts rfl rfl rfl]) | rw [hr _ _ rfl rfl rfl]
    exact Steps.refl _
  · show Q20 Z w_DEFAULTCAPACITY_EMPTY_ELEMENTDATA k_w_DEFAULTCAPACITY_EMPTY_ELEMENTDATA a0 h0 n0 _ T8.heap _
    exact ⟨b12_8, k12_8, rfl, N8, K_9, (Nat.le_trans (Keep.refl h0 [a0]).1 g8_0), g8_1, g8_2, g8_3, g8_4, g8_5, g8_6, g8_7⟩
theorem pd_11 : parseMethodDescriptor "()[Ljava/lang/Object;" = some ⟨[], some (.array (.object "java/lang/Object"))⟩ := by decide +kernel
theorem d19_0 : decode jdk_38_method_24_code 0 = .ok (.iload_n 3, 1) := by decide +kernel
theorem d19_1 : decode jdk_38_method_24_code 1 = .ok (.aload_n 2, 1) := by decide +kernel
theorem d19_2 : decode jdk_38_method_24_code 2 = .ok (.arraylength, 1) := by decide +kernel
theorem d19_3 : decode jdk_38_method_24_code 3 = .ok (.if_icmp .ne 8, 3) := by decide +kernel
theorem d19_6 : decode jdk_38_method_24_code 6 = .ok (.aload_n 0, 1) := by decide +kernel
theorem d19_7 : decode jdk_38_method_24_code 7 = .ok (.invokevirtual 129, 3) := by decide +kernel
theorem d19_10 : decode jdk_38_method_24_code 10 = .ok (.astore_n 2, 1) := by decide +kernel
theorem d19_11 : decode jdk_38_method_24_code 11 = .ok (.aload_n 2, 1) := by decide +kernel
theorem d19_12 : decode jdk_38_method_24_code 12 = .ok (.iload_n 3, 1) := by decide +kernel
theorem d19_13 : decode jdk_38_method_24_code 13 = .ok (.aload_n 1, 1) := by decide +kernel
theorem d19_14 : decode jdk_38_method_24_code 14 = .ok (.aastore, 1) := by decide +kernel
theorem d19_15 : decode jdk_38_method_24_code 15 = .ok (.aload_n 0, 1) := by decide +kernel
theorem d19_16 : decode jdk_38_method_24_code 16 = .ok (.iload_n 3, 1) := by decide +kernel
theorem d19_17 : decode jdk_38_method_24_code 17 = .ok (.iconst 1, 1) := by decide +kernel
theorem d19_18 : decode jdk_38_method_24_code 18 = .ok (.iadd, 1) := by decide +kernel
theorem d19_19 : decode jdk_38_method_24_code 19 = .ok (.putfield 48, 3) := by decide +kernel
theorem d19_22 : decode jdk_38_method_24_code 22 = .ok (.return_, 1) := by decide +kernel
theorem ef_19 (m : MethodId) (x0 : Addr) (x1 : Addr) (x2 : Addr) (x3 : Int32) : entryFrame m #[(.ref x0), (.ref x1), (.ref x2), (.int x3)] 4 = mkF m 0 #[vR x0, vR x1, vR x2, vI x3] [] := by first | (simp [entryFrame, mkF, argsToLocals, Value.category]; done) | rfl
def Q19 (Z : State) (w_DEFAULTCAPACITY_EMPTY_ELEMENTDATA : Addr) (k_w_DEFAULTCAPACITY_EMPTY_ELEMENTDATA : ClassId) (a0 : Addr) (a1 : Addr) (h0 : Heap) (n0 : Nat) (v : Option Value) (h : Heap) (L : List Loc) : Prop := ∃ b12_8_9 : Addr, ∃ k12_8_9 : ClassId, v = none ∧ Fr n0 L ∧ Keep h0 h [a0] ∧ h0.size ≤ b12_8_9 ∧ Exa Z h b12_8_9 "[Ljava/lang/Object;" ∧ Arv Z h b12_8_9 k12_8_9 (.object "java/lang/Object") (10 : Int32) [(.ref a1), .null, .null, .null, .null, .null, .null, .null, .null, .null] .null ∧ Exa Z h a0 "java/util/ArrayList" ∧ Fld Z h a0 "java/util/ArrayList" "elementData" "[Ljava/lang/Object;" (.ref b12_8_9) ∧ Fld Z h a0 "java/util/ArrayList" "size" "I" (.int (1 : Int32)) ∧ Fld Z h a0 "java/util/AbstractList" "modCount" "I" (.int (1 : Int32)) ∧ Ovr Z k12_8_9 "java/lang/Object"
set_option maxRecDepth 65536 in
set_option maxHeartbeats 40000000 in
theorem rm19 (l : Launch) (Z : State) (A0 : Array Value) (hw : ∀ d ∈ tables_1, d.before A0 Z = true) (ws : List Jvm.Cond) (w_DEFAULTCAPACITY_EMPTY_ELEMENTDATA : Addr) (k_w_DEFAULTCAPACITY_EMPTY_ELEMENTDATA : ClassId) (a0 : Addr) (a1 : Addr) (h0 : Heap) (n0 : Nat) (OLD : Old Z n0 h0) (f_1 : Exa Z h0 a0 "java/util/ArrayList") (f_2 : Sta Z Z.heap "java/util/ArrayList" "DEFAULTCAPACITY_EMPTY_ELEMENTDATA" "[Ljava/lang/Object;" (.ref w_DEFAULTCAPACITY_EMPTY_ELEMENTDATA)) (f_3 : Fld Z h0 a0 "java/util/ArrayList" "elementData" "[Ljava/lang/Object;" (.ref w_DEFAULTCAPACITY_EMPTY_ELEMENTDATA)) (f_4 : Arv Z Z.heap w_DEFAULTCAPACITY_EMPTY_ELEMENTDATA k_w_DEFAULTCAPACITY_EMPTY_ELEMENTDATA (.object "java/lang/Object") (0 : Int32) [] .null) (f_5 : Exa Z h0 a1 "com/example/deposita/deposita/core/Finding") (f_6 : Fld Z h0 a0 "java/util/ArrayList" "size" "I" (.int (0 : Int32))) (f_7 : Fld Z h0 a0 "java/util/AbstractList" "modCount" "I" (.int (1 : Int32))) (ge_a0 : n0 ≤ a0) :
    MetFree l (⟨"java/util/ArrayList", "add", "(Ljava/lang/Object;[Ljava/lang/Object;I)V"⟩ : MethodName) (head1 (Jvm.Cond.code (⟨"java/util/ArrayList", "add", "(Ljava/lang/Object;[Ljava/lang/Object;I)V"⟩ : MethodName) jdk_38_method_24_code 4 none :: ws) ({ frames := 3, cells := 1, slots := 10, locals := 41 } : Room)) (fun a U => a = #[(.ref a0), (.ref a1), (.ref w_DEFAULTCAPACITY_EMPTY_ELEMENTDATA), (.int (0 : Int32))] ∧ Z.Warmed39 U.vm ∧ U.heap = h0) (fun _ _ _ _ _ => True) (fun _ U o U' => ∃ v L, o = .returned v ∧ Q19 Z w_DEFAULTCAPACITY_EMPTY_ELEMENTDATA k_w_DEFAULTCAPACITY_EMPTY_ELEMENTDATA a0 a1 h0 n0 v U'.heap L ∧ FrameEnd U o U' L ({ frames := 3, cells := 1, slots := 10, locals := 41 } : Room).cells ({ frames := 3, cells := 1, slots := 10, locals := 41 } : Room).slots) := by
  refine MetFree.of_bodySF (plainFor_of_name pn_java_util_ArrayList) hisR ?_
  intro p e s m args below meth c s₁ Bd hml0 hP hK
  obtain ⟨rfl, hZ, hh⟩ := hP
  have hx := Bd.exec
  have hby := Bd.bytes
  have hml : c.maxLocals = 4 := hml0
  have hown : s.vm.findClass "java/util/ArrayList" = some m.cls := findClass_of_methodNamed Bd.named
  have hnm := (name_of_methodNamed Bd.named Bd.method).1
  have X0 : Stand p l e ({ frames := 3, cells := 1, slots := 10, locals := 41 } : Room) s m #[(.ref a0), (.ref a1), (.ref w_DEFAULTCAPACITY_EMPTY_ELEMENTDATA), (.int (0 : Int32))] below meth c s₁ [] 0 0 := Stand.of_body Bd
  have e0 : s₁.heap = h0 := by rw [← hh, Bd.state]; rfl
  have N0 := Fr.nil n0
  have pre0 : ∀ t, Steps p.tables e below (s₁.setTop (mkF m 0 #[vR a0, vR a1, vR w_DEFAULTCAPACITY_EMPTY_ELEMENTDATA, vI (0 : Int32)] [])) t → Steps p.tables e below (s₁.setTop (entryFrame m #[(.ref a0), (.ref a1), (.ref w_DEFAULTCAPACITY_EMPTY_ELEMENTDATA), (.int (0 : Int32))] 4)) t := fun t k => castTop (ef_19 m a0 a1 w_DEFAULTCAPACITY_EMPTY_ELEMENTDATA (0 : Int32)) k
  obtain ⟨cl8, Ar8, -, s8, n8, -, -⟩ := id ((f_4.ext OLD.2))
  obtain ⟨cq9, q9, q9'⟩ := f_1.cell
  obtain ⟨_, _, ⟨T9, L9, k9, n9⟩, -, X9, ⟨Lc9, hQ9, l9, y9, z9⟩, st9⟩ := X0.privateBack hx (y := (⟨"java/util/ArrayList", "grow", "()[Ljava/lang/Object;"⟩ : MethodName)) hown (mvT hZ (hw _ (List.mem_of_getElem? (i := 113) rfl))) (mvT hZ (hw _ (List.mem_of_getElem? (i := 114) rfl))) (mvT hZ (hw _ (List.mem_of_getElem? (i := 116) rfl))) (Cond.privateMethod_at (mvP hZ (hw _ (List.mem_of_getElem? (i := 115) rfl)) (args := #[]))) (mvT hZ (hw _ (List.mem_of_getElem? (i := 117) rfl))) (by decide) (backOf (W := 0) (rm20 l Z A0 hw [] w_DEFAULTCAPACITY_EMPTY_ELEMENTDATA k_w_DEFAULTCAPACITY_EMPTY_ELEMENTDATA a0 h0 n0 OLD f_1 f_2 f_3 f_4 f_6 f_7 ge_a0) hZ (hw _ (List.mem_of_getElem? (i := 117) rfl)) (hw _ (List.mem_of_getElem? (i := 77) rfl)) (by decide) (by decide)) (g := (mkF m 7 #[vR a0, vR a1, vR w_DEFAULTCAPACITY_EMPTY_ELEMENTDATA, vI (0 : Int32)] [(.ref a0)])) rfl (by rw [hml]; rfl) (Steps.refl _) (a := a0) (by rw [e0]; exact q9) q9' (argsL := []) (rest := []) (lenOf pd_11 rfl) rfl (by show 2 * 0 + _ ≤ _; exact Nat.le_of_eq rfl) (hb hby d19_7) (fun _ _ => ⟨rfl, e0, (by decide : 0 + 1 ≤ _), (by decide : 0 + 10 ≤ _)⟩)
  dsimp only [Pt.U, Pt.locs, Pt.cells, Pt.slots] at X9 l9 y9 z9 st9 hQ9
  subst l9 y9 z9
  obtain ⟨b12_8_9, k12_8_9, rfl, N9q, K9, g9_0, g9_1, g9_2, g9_3, g9_4, g9_5, g9_6, g9_7⟩ := hQ9
  have N9 := Fr.app N0 N9q
  have K_10 : Keep h0 T9.heap [a0] := Keep.trans (Keep.refl h0 [a0]) K9 (allS (Or.inl (List.mem_of_getElem? (i := 0) rfl)) all0)
  obtain ⟨cl11, Ar11, q11, s11, n11, hh11, gg11⟩ := id (g9_2)
  have hin11 : ¬ ((0 : Int32) < 0 ∨ cl11.slots.size ≤ ((0 : Int32)).toNatClampNeg) := inb_of s11 ⟨by decide, by decide⟩
  have f_12 := f_5.keep K9
  obtain ⟨T13, h13, X13, e13, W13, st13⟩ := stR X9 hx hZ rfl Ar11 (j := (0 : Int32)) hin11 rfl (Sto.ofV Ar11 q11 g9_7 (Ins.of_exa f_12 (hw _ (List.mem_of_getElem? (i := 129) rfl)))) (g := (mkF m 14 #[vR a0, vR a1, vR b12_8_9, vI (0 : Int32)] [(.ref a1), (.int (0 : Int32)), (.ref b12_8_9)])) rfl rfl (hb hby d19_14)
  have ge_14 : n0 ≤ b12_8_9 := own_ge OLD g9_0
  have N13 := Fr.snoc X13 N9 ge_14
  have f_15 : Arv Z h13 b12_8_9 k12_8_9 (.object "java/lang/Object") (10 : Int32) [(.ref a1), .null, .null, .null, .null, .null, .null, .null, .null, .null] .null := Arv.set Ar11 q11 s11 n11 hh11 gg11 rfl W13 0 rfl (Nat.le_of_ble_eq_true rfl)
  have K_16 : Keep h0 h13 [a0] := K_10.wr W13 (Or.inr (Nat.le_trans (Keep.refl h0 [a0]).1 g9_0))
  have f_17 := g9_3.wr W13
  have ne_18 : a0 ≠ b12_8_9 := Nat.ne_of_lt (Nat.lt_of_lt_of_le f_1.lt g9_0)
  have f_19 := g9_5.other W13 (Or.inl ne_18)
  obtain ⟨T20, h20, X20, e20, W20, st20⟩ := putF X13 hx hZ hown (host := "") (Or.inl (hw _ (List.mem_of_getElem? (i := 106) rfl))) Via.refl e13 f_19 f_17 (Or.inl (hw _ (List.mem_of_getElem? (i := 107) rfl))) (hw _ (List.mem_of_getElem? (i := 76) rfl)) (ty := .int) (by decide) rfl rfl (g := (mkF m 19 #[vR a0, vR a1, vR b12_8_9, vI (0 : Int32)] [(.int (1 : Int32)), (.ref a0)])) rfl rfl (hb hby d19_19)
  have N20 := Fr.snoc X20 N13 ge_a0
  have f_21 := f_19.same W20
  have K_22 : Keep h0 h20 [a0] := K_16.wr W20 (Or.inl (List.mem_of_getElem? (i := 0) rfl))
  have f_23 := g9_1.wr W13
  have f_24 := f_23.wr W20
  have f_25 := f_15.other W20 (Ne.symm ne_18)
  have f_26 := f_17.wr W20
  have f_27 := g9_4.other W13 (Or.inl ne_18)
  have f_28 := f_27.other W20 (Or.inr (slot_ne (Or.inl (hw _ (List.mem_of_getElem? (i := 98) rfl))) (Or.inl (hw _ (List.mem_of_getElem? (i := 107) rfl))) (by decide) (t := (.array (.object "java/lang/Object"))) (t' := .int) (by decide) (by decide)))
  have f_29 := g9_6.other W13 (Or.inl ne_18)
  have f_30 := f_29.other W20 (Or.inr (slot_ne (Or.inl (hw _ (List.mem_of_getElem? (i := 95) rfl))) (Or.inl (hw _ (List.mem_of_getElem? (i := 107) rfl))) (by decide) (t := .int) (t' := .int) (by decide) (by decide)))
  obtain ⟨fs, hr, hrun, hended, hW, hsame⟩ := X20.leave (v := none) (fun _ => rfl)
  refine ⟨_, _, pre0 _ ?_, hrun, hended, _, _, rfl, ?_, ⟨_, rfl⟩, hW, hsame.mono (by decide) (by decide)⟩
  · show Steps p.tables e below (s₁.setTop (mkF m 0 #[vR a0, vR a1, vR w_DEFAULTCAPACITY_EMPTY_ELEMENTDATA, vI (0 : Int32)] [])) _
    refine XS.iloadN X0.here hx rfl (hb hby d19_0) rfl ?_
    refine XS.aloadN X0.here hx rfl (hb hby d19_1) rfl rfl ?_
    show Steps p.tables e below (s₁.setTop (mkF m 2 #[vR a0, vR a1, vR w_DEFAULTCAPACITY_EMPTY_ELEMENTDATA, vI (0 : Int32)] [(.ref w_DEFAULTCAPACITY_EMPTY_ELEMENTDATA), (.int (0 : Int32))])) _
    refine X0.arraylength hx (by rw [e0]; exact Ar8.1) (State.isArrayOf_alike hZ.alike Ar8.2.1) (g := (mkF m 2 #[vR a0, vR a1, vR w_DEFAULTCAPACITY_EMPTY_ELEMENTDATA, vI (0 : Int32)] [(.ref w_DEFAULTCAPACITY_EMPTY_ELEMENTDATA), (.int (0 : Int32))])) rfl rfl (hb hby d19_2) _ ?_
    rw [len_of s8 n8]
    refine XS.icmpNo X0.here hx rfl (hb hby d19_3) rfl (teq (by decide : (0 : Int32) = (0 : Int32))).2 ?_
    show Steps p.tables e below (s₁.setTop (mkF m 6 #[vR a0, vR a1, vR w_DEFAULTCAPACITY_EMPTY_ELEMENTDATA, vI (0 : Int32)] [])) _
    refine XS.aloadN X0.here hx rfl (hb hby d19_6) rfl rfl ?_
    refine st9.trans ?_
    show Steps p.tables e below (T9.setTop (mkF m 10 #[vR a0, vR a1, vR w_DEFAULTCAPACITY_EMPTY_ELEMENTDATA, vI (0 : Int32)] [(.ref b12_8_9)])) _
    refine XS.astoreN X9.here hx rfl (hb hby d19_10) rfl rfl (l' := #[vR a0, vR a1, vR b12_8_9, vI (0 : Int32)]) rfl ?_
    refine XS.aloadN X9.here hx rfl (hb hby d19_11) rfl rfl ?_
    show Steps p.tables e below (T9.setTop (mkF m 12 #[vR a0, vR a1, vR b12_8_9, vI (0 : Int32)] [(.ref b12_8_9)])) _
    refine XS.iloadN X9.here hx rfl (hb hby d19_12) rfl ?_
    refine XS.aloadN X9.here hx rfl (hb hby d19_13) rfl rfl ?_
    show Steps p.tables e below (T9.setTop (mkF m 14 #[vR a0, vR a1, vR b12_8_9, vI (0 : Int32)] [(.ref a1), (.int (0 : Int32)), (.ref b12_8_9)])) _
    refine st13 _ ?_
    refine XS.aloadN X13.here hx rfl (hb hby d19_15) rfl rfl ?_
    show Steps p.tables e below (T13.setTop (mkF m 16 #[vR a0, vR a1, vR b12_8_9, vI (0 : Int32)] [(.ref a0)])) _
    refine XS.iloadN X13.here hx rfl (hb hby d19_16) rfl ?_
    refine XS.iconst X13.here hx rfl (hb hby d19_17) ?_
    show Steps p.tables e below (T13.setTop (mkF m 18 #[vR a0, vR a1, vR b12_8_9, vI (0 : Int32)] [(.int (1 : Int32)), (.int (0 : Int32)), (.ref a0)])) _
    refine XS.iadd X13.here hx rfl (hb hby d19_18) rfl ?_
    refine st20 _ ?_
    show Steps p.tables e below (T20.setTop (mkF m 22 #[vR a0, vR a1, vR b12_8_9, vI (0 : Int32)] [])) _
    exact X20.returnOut hx Bd.returns (hb hby d19_22) hr
  · show Q19 Z w_DEFAULTCAPACITY_EMPTY_ELEMENTDATA k_w_DEFAULTCAPACITY_EMPTY_ELEMENTDATA a0 a1 h0 n0 _ T20.heap _
    rw [e20]
    exact ⟨b12_8_9, k12_8_9, rfl, N20, K_22, (Nat.le_trans (Keep.refl h0 [a0]).1 g9_0), f_24, f_25, f_26, f_28, f_21, f_30, g9_7⟩
theorem pd_12 : parseMethodDescriptor "(Ljava/lang/Object;[Ljava/lang/Object;I)V" = some ⟨[(.object "java/lang/Object"), (.array (.object "java/lang/Object")), .int], none⟩ := by decide +kernel
theorem d18_0 : decode jdk_38_method_25_code 0 = .ok (.aload_n 0, 1) := by decide +kernel
theorem d18_1 : decode jdk_38_method_25_code 1 = .ok (.dup, 1) := by decide +kernel
theorem d18_2 : decode jdk_38_method_25_code 2 = .ok (.getfield 63, 3) := by decide +kernel
theorem d18_5 : decode jdk_38_method_25_code 5 = .ok (.iconst 1, 1) := by decide +kernel
theorem d18_6 : decode jdk_38_method_25_code 6 = .ok (.iadd, 1) := by decide +kernel
theorem d18_7 : decode jdk_38_method_25_code 7 = .ok (.putfield 63, 3) := by decide +kernel
theorem d18_10 : decode jdk_38_method_25_code 10 = .ok (.aload_n 0, 1) := by decide +kernel
theorem d18_11 : decode jdk_38_method_25_code 11 = .ok (.aload_n 1, 1) := by decide +kernel
theorem d18_12 : decode jdk_38_method_25_code 12 = .ok (.aload_n 0, 1) := by decide +kernel
theorem d18_13 : decode jdk_38_method_25_code 13 = .ok (.getfield 9, 3) := by decide +kernel
theorem d18_16 : decode jdk_38_method_25_code 16 = .ok (.aload_n 0, 1) := by decide +kernel
theorem d18_17 : decode jdk_38_method_25_code 17 = .ok (.getfield 48, 3) := by decide +kernel
theorem d18_20 : decode jdk_38_method_25_code 20 = .ok (.invokevirtual 131, 3) := by decide +kernel
theorem d18_23 : decode jdk_38_method_25_code 23 = .ok (.iconst 1, 1) := by decide +kernel
theorem d18_24 : decode jdk_38_method_25_code 24 = .ok (.ireturn, 1) := by decide +kernel
theorem ef_18 (m : MethodId) (x0 : Addr) (x1 : Addr) : entryFrame m #[(.ref x0), (.ref x1)] 2 = mkF m 0 #[vR x0, vR x1] [] := by first | (simp [entryFrame, mkF, argsToLocals, Value.category]; done) | rfl
def Q18 (Z : State) (w_DEFAULTCAPACITY_EMPTY_ELEMENTDATA : Addr) (k_w_DEFAULTCAPACITY_EMPTY_ELEMENTDATA : ClassId) (a0 : Addr) (a1 : Addr) (h0 : Heap) (n0 : Nat) (v : Option Value) (h : Heap) (L : List Loc) : Prop := ∃ b12_8_9_18 : Addr, ∃ k12_8_9_18 : ClassId, v = some (.int (1 : Int32)) ∧ Fr n0 L ∧ Keep h0 h [a0] ∧ h0.size ≤ b12_8_9_18 ∧ Exa Z h b12_8_9_18 "[Ljava/lang/Object;" ∧ Arv Z h b12_8_9_18 k12_8_9_18 (.object "java/lang/Object") (10 : Int32) [(.ref a1), .null, .null, .null, .null, .null, .null, .null, .null, .null] .null ∧ Exa Z h a0 "java/util/ArrayList" ∧ Fld Z h a0 "java/util/ArrayList" "elementData" "[Ljava/lang/Object;" (.ref b12_8_9_18) ∧ Fld Z h a0 "java/util/ArrayList" "size" "I" (.int (1 : Int32)) ∧ Fld Z h a0 "java/util/AbstractList" "modCount" "I" (.int (1 : Int32)) ∧ Ovr Z k12_8_9_18 "java/lang/Object"
set_option maxRecDepth 65536 in
set_option maxHeartbeats 40000000 in
theorem rm18 (l : Launch) (Z : State) (A0 : Array Value) (hw : ∀ d ∈ tables_1, d.before A0 Z = true) (ws : List Jvm.Cond) (w_DEFAULTCAPACITY_EMPTY_ELEMENTDATA : Addr) (k_w_DEFAULTCAPACITY_EMPTY_ELEMENTDATA : ClassId) (a0 : Addr) (a1 : Addr) (h0 : Heap) (n0 : Nat) (OLD : Old Z n0 h0) (f_1 : Exa Z h0 a0 "java/util/ArrayList") (f_2 : Sta Z Z.heap "java/util/ArrayList" "DEFAULTCAPACITY_EMPTY_ELEMENTDATA" "[Ljava/lang/Object;" (.ref w_DEFAULTCAPACITY_EMPTY_ELEMENTDATA)) (f_3 : Fld Z h0 a0 "java/util/ArrayList" "elementData" "[Ljava/lang/Object;" (.ref w_DEFAULTCAPACITY_EMPTY_ELEMENTDATA)) (f_4 : Arv Z Z.heap w_DEFAULTCAPACITY_EMPTY_ELEMENTDATA k_w_DEFAULTCAPACITY_EMPTY_ELEMENTDATA (.object "java/lang/Object") (0 : Int32) [] .null) (f_5 : Exa Z h0 a1 "com/example/deposita/deposita/core/Finding") (f_6 : Fld Z h0 a0 "java/util/ArrayList" "size" "I" (.int (0 : Int32))) (f_7 : Fld Z h0 a0 "java/util/AbstractList" "modCount" "I" (.int (0 : Int32))) (ge_a0 : n0 ≤ a0) :
    MetFree l (⟨"java/util/ArrayList", "add", "(Ljava/lang/Object;)Z"⟩ : MethodName) (head1 (Jvm.Cond.code (⟨"java/util/ArrayList", "add", "(Ljava/lang/Object;)Z"⟩ : MethodName) jdk_38_method_25_code 2 (some .boolean) :: ws) ({ frames := 4, cells := 1, slots := 10, locals := 56 } : Room)) (fun a U => a = #[(.ref a0), (.ref a1)] ∧ Z.Warmed39 U.vm ∧ U.heap = h0) (fun _ _ _ _ _ => True) (fun _ U o U' => ∃ v L, o = .returned v ∧ Q18 Z w_DEFAULTCAPACITY_EMPTY_ELEMENTDATA k_w_DEFAULTCAPACITY_EMPTY_ELEMENTDATA a0 a1 h0 n0 v U'.heap L ∧ FrameEnd U o U' L ({ frames := 4, cells := 1, slots := 10, locals := 56 } : Room).cells ({ frames := 4, cells := 1, slots := 10, locals := 56 } : Room).slots) := by
  refine MetFree.of_bodySF (plainFor_of_name pn_java_util_ArrayList) hisR ?_
  intro p e s m args below meth c s₁ Bd hml0 hP hK
  obtain ⟨rfl, hZ, hh⟩ := hP
  have hx := Bd.exec
  have hby := Bd.bytes
  have hml : c.maxLocals = 2 := hml0
  have hown : s.vm.findClass "java/util/ArrayList" = some m.cls := findClass_of_methodNamed Bd.named
  have hnm := (name_of_methodNamed Bd.named Bd.method).1
  have X0 : Stand p l e ({ frames := 4, cells := 1, slots := 10, locals := 56 } : Room) s m #[(.ref a0), (.ref a1)] below meth c s₁ [] 0 0 := Stand.of_body Bd
  have e0 : s₁.heap = h0 := by rw [← hh, Bd.state]; rfl
  have N0 := Fr.nil n0
  have pre0 : ∀ t, Steps p.tables e below (s₁.setTop (mkF m 0 #[vR a0, vR a1] [])) t → Steps p.tables e below (s₁.setTop (entryFrame m #[(.ref a0), (.ref a1)] 2)) t := fun t k => castTop (ef_18 m a0 a1) k
  obtain ⟨T8, X8, e8, st8⟩ := getF X0 hx hZ hown (host := "") (Or.inl (hw _ (List.mem_of_getElem? (i := 104) rfl))) (Via.of (hw _ (List.mem_of_getElem? (i := 105) rfl))) e0 f_7 (g := (mkF m 2 #[vR a0, vR a1] [(.ref a0), (.ref a0)])) rfl rfl (hb hby d18_2)
  obtain ⟨T9, h9, X9, e9, W9, st9⟩ := putF X8 hx hZ hown (host := "") (Or.inl (hw _ (List.mem_of_getElem? (i := 104) rfl))) (Via.of (hw _ (List.mem_of_getElem? (i := 105) rfl))) e8 f_7 f_1 (Or.inl (hw _ (List.mem_of_getElem? (i := 95) rfl))) (hw _ (List.mem_of_getElem? (i := 76) rfl)) (ty := .int) (by decide) rfl rfl (g := (mkF m 7 #[vR a0, vR a1] [(.int (1 : Int32)), (.ref a0)])) rfl rfl (hb hby d18_7)
  have N9 := Fr.snoc X9 N0 ge_a0
  have f_10 := f_7.same W9
  have K_11 : Keep h0 h9 [a0] := (Keep.refl h0 [a0]).wr W9 (Or.inl (List.mem_of_getElem? (i := 0) rfl))
  have f_12 := f_3.other W9 (Or.inr (slot_ne (Or.inl (hw _ (List.mem_of_getElem? (i := 98) rfl))) (Or.inl (hw _ (List.mem_of_getElem? (i := 95) rfl))) (by decide) (t := (.array (.object "java/lang/Object"))) (t' := .int) (by decide) (by decide)))
  obtain ⟨T13, X13, e13, st13⟩ := getF X9 hx hZ hown (host := "") (Or.inl (hw _ (List.mem_of_getElem? (i := 97) rfl))) Via.refl e9 f_12 (g := (mkF m 13 #[vR a0, vR a1] [(.ref a0), (.ref a1), (.ref a0)])) rfl rfl (hb hby d18_13)
  have f_14 := f_6.other W9 (Or.inr (slot_ne (Or.inl (hw _ (List.mem_of_getElem? (i := 107) rfl))) (Or.inl (hw _ (List.mem_of_getElem? (i := 95) rfl))) (by decide) (t := .int) (t' := .int) (by decide) (by decide)))
  obtain ⟨T15, X15, e15, st15⟩ := getF X13 hx hZ hown (host := "") (Or.inl (hw _ (List.mem_of_getElem? (i := 106) rfl))) Via.refl e13 f_14 (g := (mkF m 17 #[vR a0, vR a1] [(.ref a0), (.ref w_DEFAULTCAPACITY_EMPTY_ELEMENTDATA), (.ref a1), (.ref a0)])) rfl rfl (hb hby d18_17)
  have f_16 := f_1.wr W9
  have f_17 := f_5.wr W9
  have O_19 := Old.wr OLD W9 ge_a0
  obtain ⟨cq18, q18, q18'⟩ := f_16.cell
  obtain ⟨_, _, ⟨T18, L18, k18, n18⟩, -, X18, ⟨Lc18, hQ18, l18, y18, z18⟩, st18⟩ := X15.privateBack hx (y := (⟨"java/util/ArrayList", "add", "(Ljava/lang/Object;[Ljava/lang/Object;I)V"⟩ : MethodName)) hown (mvT hZ (hw _ (List.mem_of_getElem? (i := 108) rfl))) (mvT hZ (hw _ (List.mem_of_getElem? (i := 109) rfl))) (mvT hZ (hw _ (List.mem_of_getElem? (i := 111) rfl))) (Cond.privateMethod_at (mvP hZ (hw _ (List.mem_of_getElem? (i := 110) rfl)) (args := #[]))) (mvT hZ (hw _ (List.mem_of_getElem? (i := 112) rfl))) (by decide) (backOf (W := 0) (rm19 l Z A0 hw [] w_DEFAULTCAPACITY_EMPTY_ELEMENTDATA k_w_DEFAULTCAPACITY_EMPTY_ELEMENTDATA a0 a1 h9 n0 O_19 f_16 f_2 f_12 f_4 f_17 f_14 f_10 ge_a0) hZ (hw _ (List.mem_of_getElem? (i := 112) rfl)) (hw _ (List.mem_of_getElem? (i := 77) rfl)) (by decide) (by decide)) (g := (mkF m 20 #[vR a0, vR a1] [(.int (0 : Int32)), (.ref w_DEFAULTCAPACITY_EMPTY_ELEMENTDATA), (.ref a1), (.ref a0)])) rfl (by rw [hml]; rfl) (Steps.refl _) (a := a0) (by rw [e15]; exact q18) q18' (argsL := [(.ref a1), (.ref w_DEFAULTCAPACITY_EMPTY_ELEMENTDATA), (.int (0 : Int32))]) (rest := []) (lenOf pd_12 rfl) rfl (by show 2 * 0 + _ ≤ _; exact Nat.le_of_eq rfl) (hb hby d18_20) (fun _ _ => ⟨rfl, e15, (by decide : 0 + 1 ≤ _), (by decide : 0 + 10 ≤ _)⟩)
  dsimp only [Pt.U, Pt.locs, Pt.cells, Pt.slots] at X18 l18 y18 z18 st18 hQ18
  subst l18 y18 z18
  obtain ⟨b12_8_9_18, k12_8_9_18, rfl, N18q, K18, g18_0, g18_1, g18_2, g18_3, g18_4, g18_5, g18_6, g18_7⟩ := hQ18
  have N18 := Fr.app N9 N18q
  have K_20 : Keep h0 T18.heap [a0] := Keep.trans K_11 K18 (allS (Or.inl (List.mem_of_getElem? (i := 0) rfl)) all0)
  obtain ⟨fs, hr, hrun, hended, hW, hsame⟩ := X18.leave (v := some (.int (1 : Int32))) (fun h => by rw [Bd.returns] at h; cases h)
  refine ⟨_, _, pre0 _ ?_, hrun, hended, _, _, rfl, ?_, ⟨_, rfl⟩, hW, hsame.mono (by decide) (by decide)⟩
  · show Steps p.tables e below (s₁.setTop (mkF m 0 #[vR a0, vR a1] [])) _
    refine XS.aloadN X0.here hx rfl (hb hby d18_0) rfl rfl ?_
    refine XS.dup X0.here hx rfl (hb hby d18_1) rfl rfl ?_
    show Steps p.tables e below (s₁.setTop (mkF m 2 #[vR a0, vR a1] [(.ref a0), (.ref a0)])) _
    refine st8 _ ?_
    refine XS.iconst X8.here hx rfl (hb hby d18_5) ?_
    show Steps p.tables e below (T8.setTop (mkF m 6 #[vR a0, vR a1] [(.int (1 : Int32)), (.int (0 : Int32)), (.ref a0)])) _
    refine XS.iadd X8.here hx rfl (hb hby d18_6) rfl ?_
    refine st9 _ ?_
    show Steps p.tables e below (T9.setTop (mkF m 10 #[vR a0, vR a1] [])) _
    refine XS.aloadN X9.here hx rfl (hb hby d18_10) rfl rfl ?_
    refine XS.aloadN X9.here hx rfl (hb hby d18_11) rfl rfl ?_
    show Steps p.tables e below (T9.setTop (mkF m 12 #[vR a0, vR a1] [(.ref a1), (.ref a0)])) _
    refine XS.aloadN X9.here hx rfl (hb hby d18_12) rfl rfl ?_
    refine st13 _ ?_
    show Steps p.tables e below (T13.setTop (mkF m 16 #[vR a0, vR a1] [(.ref w_DEFAULTCAPACITY_EMPTY_ELEMENTDATA), (.ref a1), (.ref a0)])) _
    refine XS.aloadN X13.here hx rfl (hb hby d18_16) rfl rfl ?_
    refine st15 _ ?_
    show Steps p.tables e below (T15.setTop (mkF m 20 #[vR a0, vR a1] [(.int (0 : Int32)), (.ref w_DEFAULTCAPACITY_EMPTY_ELEMENTDATA), (.ref a1), (.ref a0)])) _
    refine st18.trans ?_
    refine XS.iconst X18.here hx rfl (hb hby d18_23) ?_
    show Steps p.tables e below (T18.setTop (mkF m 24 #[vR a0, vR a1] [(.int (1 : Int32))])) _
    exact retN X18 hx (t := .boolean) Bd.returns (by simp) (hb hby d18_24) hr
  · show Q18 Z w_DEFAULTCAPACITY_EMPTY_ELEMENTDATA k_w_DEFAULTCAPACITY_EMPTY_ELEMENTDATA a0 a1 h0 n0 _ T18.heap _
    exact ⟨b12_8_9_18, k12_8_9_18, rfl, N18, K_20, (Nat.le_trans K_11.1 g18_0), g18_1, g18_2, g18_3, g18_4, g18_5, g18_6, g18_7⟩
theorem d26_0 : decode jdk_38_method_9_code 0 = .ok (.aload_n 0, 1) := by decide +kernel
theorem d26_1 : decode jdk_38_method_9_code 1 = .ok (.getfield 48, 3) := by decide +kernel
theorem d26_4 : decode jdk_38_method_9_code 4 = .ok (.ifCond .ne 7, 3) := by decide +kernel
theorem d26_7 : decode jdk_38_method_9_code 7 = .ok (.iconst 1, 1) := by decide +kernel
theorem d26_8 : decode jdk_38_method_9_code 8 = .ok (.goto 4, 3) := by decide +kernel
theorem d26_12 : decode jdk_38_method_9_code 12 = .ok (.ireturn, 1) := by decide +kernel
theorem ef_26 (m : MethodId) (x0 : Addr) : entryFrame m #[(.ref x0)] 1 = mkF m 0 #[vR x0] [] := by first | (simp [entryFrame, mkF, argsToLocals, Value.category]; done) | rfl
def Q26s0 (Z : State) (a0 : Addr) (h0 : Heap) (n0 : Nat) (v : Option Value) (h : Heap) (L : List Loc) : Prop := v = some (.int (1 : Int32)) ∧ Fr n0 L ∧ h = h0
set_option maxRecDepth 65536 in
set_option maxHeartbeats 40000000 in
theorem rm26s0 (l : Launch) (Z : State) (A0 : Array Value) (hw : ∀ d ∈ tables_1, d.before A0 Z = true) (ws : List Jvm.Cond) (a0 : Addr) (h0 : Heap) (n0 : Nat) (OLD : Old Z n0 h0) (f_1 : Fld Z h0 a0 "java/util/ArrayList" "size" "I" (.int (0 : Int32))) :
    MetFree l (⟨"java/util/ArrayList", "isEmpty", "()Z"⟩ : MethodName) (head1 (Jvm.Cond.code (⟨"java/util/ArrayList", "isEmpty", "()Z"⟩ : MethodName) jdk_38_method_9_code 1 (some .boolean) :: ws) ({ frames := 0, cells := 0, slots := 0, locals := 0 } : Room)) (fun a U => a = #[(.ref a0)] ∧ Z.Warmed39 U.vm ∧ U.heap = h0) (fun _ _ _ _ _ => True) (fun _ U o U' => ∃ v L, o = .returned v ∧ Q26s0 Z a0 h0 n0 v U'.heap L ∧ FrameEnd U o U' L ({ frames := 0, cells := 0, slots := 0, locals := 0 } : Room).cells ({ frames := 0, cells := 0, slots := 0, locals := 0 } : Room).slots) := by
  refine MetFree.of_bodySF (plainFor_of_name pn_java_util_ArrayList) hisR ?_
  intro p e s m args below meth c s₁ Bd hml0 hP hK
  obtain ⟨rfl, hZ, hh⟩ := hP
  have hx := Bd.exec
  have hby := Bd.bytes
  have hml : c.maxLocals = 1 := hml0
  have hown : s.vm.findClass "java/util/ArrayList" = some m.cls := findClass_of_methodNamed Bd.named
  have hnm := (name_of_methodNamed Bd.named Bd.method).1
  have X0 : Stand p l e ({ frames := 0, cells := 0, slots := 0, locals := 0 } : Room) s m #[(.ref a0)] below meth c s₁ [] 0 0 := Stand.of_body Bd
  have e0 : s₁.heap = h0 := by rw [← hh, Bd.state]; rfl
  have N0 := Fr.nil n0
  have pre0 : ∀ t, Steps p.tables e below (s₁.setTop (mkF m 0 #[vR a0] [])) t → Steps p.tables e below (s₁.setTop (entryFrame m #[(.ref a0)] 1)) t := fun t k => castTop (ef_26 m a0) k
  obtain ⟨T2, X2, e2, st2⟩ := getF X0 hx hZ hown (host := "") (Or.inl (hw _ (List.mem_of_getElem? (i := 106) rfl))) Via.refl e0 f_1 (g := (mkF m 1 #[vR a0] [(.ref a0)])) rfl rfl (hb hby d26_1)
  obtain ⟨fs, hr, hrun, hended, hW, hsame⟩ := X2.leave (v := some (.int (1 : Int32))) (fun h => by rw [Bd.returns] at h; cases h)
  refine ⟨_, _, pre0 _ ?_, hrun, hended, _, _, rfl, ?_, ⟨_, rfl⟩, hW, hsame.mono (by decide) (by decide)⟩
  · show Steps p.tables e below (s₁.setTop (mkF m 0 #[vR a0] [])) _
    refine XS.aloadN X0.here hx rfl (hb hby d26_0) rfl rfl ?_
    refine st2 _ ?_
    show Steps p.tables e below (T2.setTop (mkF m 4 #[vR a0] [(.int (0 : Int32))])) _
    refine XS.ifNo X2.here hx rfl (hb hby d26_4) rfl ((if0 _ _).trans (teq (by decide : (0 : Int32) = (0 : Int32))).2) ?_
    refine XS.iconst X2.here hx rfl (hb hby d26_7) ?_
    show Steps p.tables e below (T2.setTop (mkF m 8 #[vR a0] [(.int (1 : Int32))])) _
    refine XS.goto X2.here hx rfl (pc0 := 8) (pc' := 12) rfl (hb hby d26_8) (by decide) (by decide) ?_
    show Steps p.tables e below (T2.setTop (mkF m 12 #[vR a0] [(.int (1 : Int32))])) _
    exact retN X2 hx (t := .boolean) Bd.returns (by simp) (hb hby d26_12) hr
  · show Q26s0 Z a0 h0 n0 _ T2.heap _
    rw [e2]
    exact ⟨rfl, N0, rfl⟩
theorem d26_11 : decode jdk_38_method_9_code 11 = .ok (.iconst 0, 1) := by decide +kernel
def Q26s1 (Z : State) (a0 : Addr) (h0 : Heap) (n0 : Nat) (v : Option Value) (h : Heap) (L : List Loc) : Prop := v = some (.int (0 : Int32)) ∧ Fr n0 L ∧ h = h0
set_option maxRecDepth 65536 in
set_option maxHeartbeats 40000000 in
theorem rm26s1 (l : Launch) (Z : State) (A0 : Array Value) (hw : ∀ d ∈ tables_1, d.before A0 Z = true) (ws : List Jvm.Cond) (a0 : Addr) (h0 : Heap) (n0 : Nat) (OLD : Old Z n0 h0) (f_1 : Fld Z h0 a0 "java/util/ArrayList" "size" "I" (.int (1 : Int32))) :
    MetFree l (⟨"java/util/ArrayList", "isEmpty", "()Z"⟩ : MethodName) (head1 (Jvm.Cond.code (⟨"java/util/ArrayList", "isEmpty", "()Z"⟩ : MethodName) jdk_38_method_9_code 1 (some .boolean) :: ws) ({ frames := 0, cells := 0, slots := 0, locals := 0 } : Room)) (fun a U => a = #[(.ref a0)] ∧ Z.Warmed39 U.vm ∧ U.heap = h0) (fun _ _ _ _ _ => True) (fun _ U o U' => ∃ v L, o = .returned v ∧ Q26s1 Z a0 h0 n0 v U'.heap L ∧ FrameEnd U o U' L ({ frames := 0, cells := 0, slots := 0, locals := 0 } : Room).cells ({ frames := 0, cells := 0, slots := 0, locals := 0 } : Room).slots) := by
  refine MetFree.of_bodySF (plainFor_of_name pn_java_util_ArrayList) hisR ?_
  intro p e s m args below meth c s₁ Bd hml0 hP hK
  obtain ⟨rfl, hZ, hh⟩ := hP
  have hx := Bd.exec
  have hby := Bd.bytes
  have hml : c.maxLocals = 1 := hml0
  have hown : s.vm.findClass "java/util/ArrayList" = some m.cls := findClass_of_methodNamed Bd.named
  have hnm := (name_of_methodNamed Bd.named Bd.method).1
  have X0 : Stand p l e ({ frames := 0, cells := 0, slots := 0, locals := 0 } : Room) s m #[(.ref a0)] below meth c s₁ [] 0 0 := Stand.of_body Bd
  have e0 : s₁.heap = h0 := by rw [← hh, Bd.state]; rfl
  have N0 := Fr.nil n0
  have pre0 : ∀ t, Steps p.tables e below (s₁.setTop (mkF m 0 #[vR a0] [])) t → Steps p.tables e below (s₁.setTop (entryFrame m #[(.ref a0)] 1)) t := fun t k => castTop (ef_26 m a0) k
  obtain ⟨T2, X2, e2, st2⟩ := getF X0 hx hZ hown (host := "") (Or.inl (hw _ (List.mem_of_getElem? (i := 106) rfl))) Via.refl e0 f_1 (g := (mkF m 1 #[vR a0] [(.ref a0)])) rfl rfl (hb hby d26_1)
  obtain ⟨fs, hr, hrun, hended, hW, hsame⟩ := X2.leave (v := some (.int (0 : Int32))) (fun h => by rw [Bd.returns] at h; cases h)
  refine ⟨_, _, pre0 _ ?_, hrun, hended, _, _, rfl, ?_, ⟨_, rfl⟩, hW, hsame.mono (by decide) (by decide)⟩
  · show Steps p.tables e below (s₁.setTop (mkF m 0 #[vR a0] [])) _
    refine XS.aloadN X0.here hx rfl (hb hby d26_0) rfl rfl ?_
    refine st2 _ ?_
    show Steps p.tables e below (T2.setTop (mkF m 4 #[vR a0] [(.int (1 : Int32))])) _
    refine XS.ifYes X2.here hx rfl (pc0 := 4) (pc' := 11) rfl (hb hby d26_4) rfl ((if0 _ _).trans (feq (by decide : ¬ ((1 : Int32) = (0 : Int32)))).2) (by decide) (by decide) ?_
    refine XS.iconst X2.here hx rfl (hb hby d26_11) ?_
    show Steps p.tables e below (T2.setTop (mkF m 12 #[vR a0] [(.int (0 : Int32))])) _
    exact retN X2 hx (t := .boolean) Bd.returns (by simp) (hb hby d26_12) hr
  · show Q26s1 Z a0 h0 n0 _ T2.heap _
    rw [e2]
    exact ⟨rfl, N0, rfl⟩
theorem d37_0 : decode jdk_40_method_36_code 0 = .ok (.getstatic 90, 3) := by decide +kernel
theorem d37_3 : decode jdk_40_method_36_code 3 = .ok (.areturn, 1) := by decide +kernel
theorem pn_java_util_List : plainName "java/util/List" = true := by first | (simp [plainName, overriddenIn]; done) | decide +kernel
theorem ef_37 (m : MethodId)  : entryFrame m #[] 0 = mkF m 0 #[] [] := by first | (simp [entryFrame, mkF, argsToLocals, Value.category]; done) | rfl
def Q37 (Z : State) (w_EMPTY_LIST : Addr) (h0 : Heap) (n0 : Nat) (v : Option Value) (h : Heap) (L : List Loc) : Prop := v = some (.ref w_EMPTY_LIST) ∧ Fr n0 L ∧ h = h0
set_option maxRecDepth 65536 in
set_option maxHeartbeats 40000000 in
theorem rm37 (l : Launch) (Z : State) (A0 : Array Value) (hw : ∀ d ∈ tables_1, d.before A0 Z = true) (ws : List Jvm.Cond) (w_EMPTY_LIST : Addr) (h0 : Heap) (n0 : Nat) (OLD : Old Z n0 h0) (f_1 : Sta Z Z.heap "java/util/ImmutableCollections" "EMPTY_LIST" "Ljava/util/ImmutableCollections$ListN;" (.ref w_EMPTY_LIST)) :
    MetFree l (⟨"java/util/List", "of", "()Ljava/util/List;"⟩ : MethodName) (head1 (Jvm.Cond.code (⟨"java/util/List", "of", "()Ljava/util/List;"⟩ : MethodName) jdk_40_method_36_code 0 (some (.object "java/util/List")) :: ws) ({ frames := 0, cells := 0, slots := 0, locals := 0 } : Room)) (fun a U => a = #[] ∧ Z.Warmed39 U.vm ∧ U.heap = h0) (fun _ _ _ _ _ => True) (fun _ U o U' => ∃ v L, o = .returned v ∧ Q37 Z w_EMPTY_LIST h0 n0 v U'.heap L ∧ FrameEnd U o U' L ({ frames := 0, cells := 0, slots := 0, locals := 0 } : Room).cells ({ frames := 0, cells := 0, slots := 0, locals := 0 } : Room).slots) := by
  refine MetFree.of_bodySF (plainFor_of_name pn_java_util_List) hisR ?_
  intro p e s m args below meth c s₁ Bd hml0 hP hK
  obtain ⟨rfl, hZ, hh⟩ := hP
  have hx := Bd.exec
  have hby := Bd.bytes
  have hml : c.maxLocals = 0 := hml0
  have hown : s.vm.findClass "java/util/List" = some m.cls := findClass_of_methodNamed Bd.named
  have hnm := (name_of_methodNamed Bd.named Bd.method).1
  have X0 : Stand p l e ({ frames := 0, cells := 0, slots := 0, locals := 0 } : Room) s m #[] below meth c s₁ [] 0 0 := Stand.of_body Bd
  have e0 : s₁.heap = h0 := by rw [← hh, Bd.state]; rfl
  have N0 := Fr.nil n0
  have pre0 : ∀ t, Steps p.tables e below (s₁.setTop (mkF m 0 #[] [])) t → Steps p.tables e below (s₁.setTop (entryFrame m #[] 0)) t := fun t k => castTop (ef_37 m ) k
  obtain ⟨T2, X2, e2, st2⟩ := getS2 X0 hx hZ hown (host := "") (Or.inl (hw _ (List.mem_of_getElem? (i := 240) rfl))) Via.refl e0 (f_1.ext OLD.2) (g := (mkF m 0 #[] [])) rfl (hb hby d37_0)
  obtain ⟨fs, hr, hrun, hended, hW, hsame⟩ := X2.leave (v := some (.ref w_EMPTY_LIST)) (fun h => by rw [Bd.returns] at h; cases h)
  refine ⟨_, _, pre0 _ ?_, hrun, hended, _, _, rfl, ?_, ⟨_, rfl⟩, hW, hsame.mono (by decide) (by decide)⟩
  · show Steps p.tables e below (s₁.setTop (mkF m 0 #[] [])) _
    refine st2 _ ?_
    show Steps p.tables e below (T2.setTop (mkF m 3 #[] [(.ref w_EMPTY_LIST)])) _
    jvm_step X2.here [X2.here.top, hx, (hb hby d37_3), X2.method', Bd.returns, Value.isRef, FieldType.isReference]
    first | (intro acts; rw [hr _ acts rfl rfl rfl]) | rw [hr _ _ rfl rfl rfl]
    exact Steps.refl _
  · show Q37 Z w_EMPTY_LIST h0 n0 _ T2.heap _
    rw [e2]
    exact ⟨rfl, N0, rfl⟩
theorem d30_0 : decode jdk_29_method_69_code 0 = .ok (.iload_n 0, 1) := by decide +kernel
theorem d30_1 : decode jdk_29_method_69_code 1 = .ok (.iload_n 1, 1) := by decide +kernel
theorem d30_2 : decode jdk_29_method_69_code 2 = .ok (.if_icmp .gt 7, 3) := by decide +kernel
theorem d30_9 : decode jdk_29_method_69_code 9 = .ok (.iload_n 1, 1) := by decide +kernel
theorem d30_10 : decode jdk_29_method_69_code 10 = .ok (.ireturn, 1) := by decide +kernel
theorem ef_30 (m : MethodId) (x0 : Int32) (x1 : Int32) : entryFrame m #[(.int x0), (.int x1)] 2 = mkF m 0 #[vI x0, vI x1] [] := by first | (simp [entryFrame, mkF, argsToLocals, Value.category]; done) | rfl
def Q30 (Z : State)  (h0 : Heap) (n0 : Nat) (v : Option Value) (h : Heap) (L : List Loc) : Prop := v = some (.int (1 : Int32)) ∧ Fr n0 L ∧ h = h0
set_option maxRecDepth 65536 in
set_option maxHeartbeats 40000000 in
theorem rm30 (l : Launch) (Z : State) (A0 : Array Value) (hw : ∀ d ∈ tables_1, d.before A0 Z = true) (ws : List Jvm.Cond)  (h0 : Heap) (n0 : Nat) (OLD : Old Z n0 h0) :
    MetFree l (⟨"java/lang/Math", "min", "(II)I"⟩ : MethodName) (head1 (Jvm.Cond.code (⟨"java/lang/Math", "min", "(II)I"⟩ : MethodName) jdk_29_method_69_code 2 (some .int) :: ws) ({ frames := 0, cells := 0, slots := 0, locals := 0 } : Room)) (fun a U => a = #[(.int (10 : Int32)), (.int (1 : Int32))] ∧ Z.Warmed39 U.vm ∧ U.heap = h0) (fun _ _ _ _ _ => True) (fun _ U o U' => ∃ v L, o = .returned v ∧ Q30 Z  h0 n0 v U'.heap L ∧ FrameEnd U o U' L ({ frames := 0, cells := 0, slots := 0, locals := 0 } : Room).cells ({ frames := 0, cells := 0, slots := 0, locals := 0 } : Room).slots) := by
  refine MetFree.of_bodySF (Jvm.Free.JP.mathPlain rfl (by decide +kernel)) hisR ?_
  intro p e s m args below meth c s₁ Bd hml0 hP hK
  obtain ⟨rfl, hZ, hh⟩ := hP
  have hx := Bd.exec
  have hby := Bd.bytes
  have hml : c.maxLocals = 2 := hml0
  have hown : s.vm.findClass "java/lang/Math" = some m.cls := findClass_of_methodNamed Bd.named
  have hnm := (name_of_methodNamed Bd.named Bd.method).1
  have X0 : Stand p l e ({ frames := 0, cells := 0, slots := 0, locals := 0 } : Room) s m #[(.int (10 : Int32)), (.int (1 : Int32))] below meth c s₁ [] 0 0 := Stand.of_body Bd
  have e0 : s₁.heap = h0 := by rw [← hh, Bd.state]; rfl
  have N0 := Fr.nil n0
  have pre0 : ∀ t, Steps p.tables e below (s₁.setTop (mkF m 0 #[vI (10 : Int32), vI (1 : Int32)] [])) t → Steps p.tables e below (s₁.setTop (entryFrame m #[(.int (10 : Int32)), (.int (1 : Int32))] 2)) t := fun t k => castTop (ef_30 m (10 : Int32) (1 : Int32)) k
  obtain ⟨fs, hr, hrun, hended, hW, hsame⟩ := X0.leave (v := some (.int (1 : Int32))) (fun h => by rw [Bd.returns] at h; cases h)
  refine ⟨_, _, pre0 _ ?_, hrun, hended, _, _, rfl, ?_, ⟨_, rfl⟩, hW, hsame.mono (by decide) (by decide)⟩
  · show Steps p.tables e below (s₁.setTop (mkF m 0 #[vI (10 : Int32), vI (1 : Int32)] [])) _
    refine XS.iloadN X0.here hx rfl (hb hby d30_0) rfl ?_
    refine XS.iloadN X0.here hx rfl (hb hby d30_1) rfl ?_
    show Steps p.tables e below (s₁.setTop (mkF m 2 #[vI (10 : Int32), vI (1 : Int32)] [(.int (1 : Int32)), (.int (10 : Int32))])) _
    refine XS.icmpYes X0.here hx rfl (pc0 := 2) (pc' := 9) rfl (hb hby d30_2) rfl (tlt (by decide : (1 : Int32) < (10 : Int32))).2.2.1 (by decide) (by decide) ?_
    refine XS.iloadN X0.here hx rfl (hb hby d30_9) rfl ?_
    show Steps p.tables e below (s₁.setTop (mkF m 10 #[vI (10 : Int32), vI (1 : Int32)] [(.int (1 : Int32))])) _
    exact retI X0 hx Bd.returns (hb hby d30_10) hr
  · show Q30 Z  h0 n0 _ s₁.heap _
    rw [e0]
    exact ⟨rfl, N0, rfl⟩
theorem d29_0 : decode jdk_65_method_120_code 0 = .ok (.aload_n 2, 1) := by decide +kernel
theorem d29_1 : decode jdk_65_method_120_code 1 = .ok (.ldc 110, 2) := by decide +kernel
theorem d29_3 : decode jdk_65_method_120_code 3 = .ok (.if_acmp .ne 10, 3) := by decide +kernel
theorem d29_6 : decode jdk_65_method_120_code 6 = .ok (.iload_n 1, 1) := by decide +kernel
theorem d29_7 : decode jdk_65_method_120_code 7 = .ok (.anewarray 2, 3) := by decide +kernel
theorem d29_10 : decode jdk_65_method_120_code 10 = .ok (.goto 14, 3) := by decide +kernel
theorem d29_24 : decode jdk_65_method_120_code 24 = .ok (.astore_n 3, 1) := by decide +kernel
theorem d29_25 : decode jdk_65_method_120_code 25 = .ok (.aload_n 0, 1) := by decide +kernel
theorem d29_26 : decode jdk_65_method_120_code 26 = .ok (.iconst 0, 1) := by decide +kernel
theorem d29_27 : decode jdk_65_method_120_code 27 = .ok (.aload_n 3, 1) := by decide +kernel
theorem d29_28 : decode jdk_65_method_120_code 28 = .ok (.iconst 0, 1) := by decide +kernel
theorem d29_29 : decode jdk_65_method_120_code 29 = .ok (.aload_n 0, 1) := by decide +kernel
theorem d29_30 : decode jdk_65_method_120_code 30 = .ok (.arraylength, 1) := by decide +kernel
theorem d29_31 : decode jdk_65_method_120_code 31 = .ok (.iload_n 1, 1) := by decide +kernel
theorem d29_32 : decode jdk_65_method_120_code 32 = .ok (.invokestatic 304, 3) := by decide +kernel
theorem d29_35 : decode jdk_65_method_120_code 35 = .ok (.invokestatic 150, 3) := by decide +kernel
theorem d29_38 : decode jdk_65_method_120_code 38 = .ok (.aload_n 3, 1) := by decide +kernel
theorem d29_39 : decode jdk_65_method_120_code 39 = .ok (.areturn, 1) := by decide +kernel
theorem pn_java_util_Arrays : plainName "java/util/Arrays" = true := by first | (simp [plainName, overriddenIn]; done) | decide +kernel
theorem ef_29 (m : MethodId) (x0 : Addr) (x1 : Int32) (x2 : Addr) : entryFrame m #[(.ref x0), (.int x1), (.ref x2)] 4 = mkF m 0 #[vR x0, vI x1, vR x2, .unset] [] := by first | (simp [entryFrame, mkF, argsToLocals, Value.category]; done) | rfl
def Q29 (Z : State) (f : Addr) (ka : ClassId) (w_mir__Ljava_lang_Object_ : Addr) (a0 : Addr) (h0 : Heap) (n0 : Nat) (v : Option Value) (h : Heap) (L : List Loc) : Prop := ∃ b6 : Addr, ∃ k6 : ClassId, v = some (.ref b6) ∧ Fr n0 L ∧ Keep h0 h [] ∧ h0.size ≤ b6 ∧ Exa Z h b6 "[Ljava/lang/Object;" ∧ Arv Z h b6 k6 (.object "java/lang/Object") (1 : Int32) [(.ref f)] .null ∧ Ovr Z k6 "java/lang/Object"
set_option maxRecDepth 65536 in
set_option maxHeartbeats 40000000 in
theorem rm29 (l : Launch) (Z : State) (A0 : Array Value) (hw : ∀ d ∈ tables_1, d.before A0 Z = true) (ws : List Jvm.Cond) (f : Addr) (ka : ClassId) (w_mir__Ljava_lang_Object_ : Addr) (a0 : Addr) (h0 : Heap) (n0 : Nat) (OLD : Old Z n0 h0) (f_1 : Arv Z h0 a0 ka (.object "java/lang/Object") (10 : Int32) [(.ref f), .null, .null, .null, .null, .null, .null, .null, .null, .null] .null) (f_2 : Exa Z h0 a0 "[Ljava/lang/Object;") (f_3 : Exa Z h0 f "com/example/deposita/deposita/core/Finding") (c_4 : own_Mir Z "[Ljava/lang/Object;" w_mir__Ljava_lang_Object_) :
    MetFree l (⟨"java/util/Arrays", "copyOf", "([Ljava/lang/Object;ILjava/lang/Class;)[Ljava/lang/Object;"⟩ : MethodName) (head1 (Jvm.Cond.code (⟨"java/util/Arrays", "copyOf", "([Ljava/lang/Object;ILjava/lang/Class;)[Ljava/lang/Object;"⟩ : MethodName) jdk_65_method_120_code 4 (some (.array (.object "java/lang/Object"))) :: ws) ({ frames := 1, cells := 1, slots := 1, locals := 40 } : Room)) (fun a U => a = #[(.ref a0), (.int (1 : Int32)), (.ref w_mir__Ljava_lang_Object_)] ∧ Z.Warmed39 U.vm ∧ U.heap = h0) (fun _ _ _ _ _ => True) (fun _ U o U' => ∃ v L, o = .returned v ∧ Q29 Z f ka w_mir__Ljava_lang_Object_ a0 h0 n0 v U'.heap L ∧ FrameEnd U o U' L ({ frames := 1, cells := 1, slots := 1, locals := 40 } : Room).cells ({ frames := 1, cells := 1, slots := 1, locals := 40 } : Room).slots) := by
  refine MetFree.of_bodySF (plainFor_of_name pn_java_util_Arrays) hisR ?_
  intro p e s m args below meth c s₁ Bd hml0 hP hK
  obtain ⟨rfl, hZ, hh⟩ := hP
  have hx := Bd.exec
  have hby := Bd.bytes
  have hml : c.maxLocals = 4 := hml0
  have hown : s.vm.findClass "java/util/Arrays" = some m.cls := findClass_of_methodNamed Bd.named
  have hnm := (name_of_methodNamed Bd.named Bd.method).1
  have X0 : Stand p l e ({ frames := 1, cells := 1, slots := 1, locals := 40 } : Room) s m #[(.ref a0), (.int (1 : Int32)), (.ref w_mir__Ljava_lang_Object_)] below meth c s₁ [] 0 0 := Stand.of_body Bd
  have e0 : s₁.heap = h0 := by rw [← hh, Bd.state]; rfl
  have N0 := Fr.nil n0
  have pre0 : ∀ t, Steps p.tables e below (s₁.setTop (mkF m 0 #[vR a0, vI (1 : Int32), vR w_mir__Ljava_lang_Object_, .unset] [])) t → Steps p.tables e below (s₁.setTop (entryFrame m #[(.ref a0), (.int (1 : Int32)), (.ref w_mir__Ljava_lang_Object_)] 4)) t := fun t k => castTop (ef_29 m a0 (1 : Int32) w_mir__Ljava_lang_Object_) k
  obtain ⟨T5, X5, e5, st5⟩ := own_ldcM X0 hx hZ hown (hw _ (List.mem_of_getElem? (i := 181) rfl)) e0 c_4 (g := (mkF m 1 #[vR a0, vI (1 : Int32), vR w_mir__Ljava_lang_Object_, .unset] [(.ref w_mir__Ljava_lang_Object_)])) rfl (hb hby d29_1)
  obtain ⟨T6, h6, k6, X6, e6, E6, A6, B6, O6, st6⟩ := newRE X5 hx hZ hown (hw _ (List.mem_of_getElem? (i := 182) rfl)) (hw _ (List.mem_of_getElem? (i := 128) rfl)) e5 (g := (mkF m 7 #[vR a0, vI (1 : Int32), vR w_mir__Ljava_lang_Object_, .unset] [(.int (1 : Int32))])) rfl (hb hby d29_7) rfl (by decide) (cap := 1) (by decide) (by decide) (by decide) (by decide) (ad := "[Ljava/lang/Object;") (by decide)
  obtain ⟨b6, g6⟩ : ∃ z, z = h0.size := ⟨_, rfl⟩
  rw [← g6] at A6 B6 st6
  have K_7 : Keep h0 h6 [] := (Keep.refl h0 []).ext E6
  have f_8 : Arv Z h6 b6 k6 (.object "java/lang/Object") (1 : Int32) [.null] .null := (Arv.new A6 (by decide)).pad (pad_rep [] .null 1)
  have f_9 := f_1.ext E6
  obtain ⟨cl10, Ar10, -, s10, n10, -, -⟩ := id (f_9)
  have O_12 := Old.ext OLD E6
  obtain ⟨_, _, ⟨T11, L11, k11, n11⟩, -, X11, ⟨Lc11, hQ11, l11, y11, z11⟩, st11⟩ := Jvm.LawKit.callS X6 hx (y := (⟨"java/lang/Math", "min", "(II)I"⟩ : MethodName)) hown (mvT hZ (hw _ (List.mem_of_getElem? (i := 183) rfl))) (mvT hZ (hw _ (List.mem_of_getElem? (i := 184) rfl))) (mvT hZ (hw _ (List.mem_of_getElem? (i := 125) rfl))) (mvT hZ (hw _ (List.mem_of_getElem? (i := 185) rfl))) (by decide) (backOf (W := 4) (rm30 l Z A0 hw []  h6 n0 O_12 ) hZ (hw _ (List.mem_of_getElem? (i := 185) rfl)) (hw _ (List.mem_of_getElem? (i := 125) rfl)) (by decide) (by decide)) (g := (mkF m 32 #[vR a0, vI (1 : Int32), vR w_mir__Ljava_lang_Object_, vR b6] [(.int (1 : Int32)), (.int (10 : Int32)), (.int (0 : Int32)), (.ref b6), (.int (0 : Int32)), (.ref a0)])) rfl (by rw [hml]; rfl) (argsL := [(.int (10 : Int32)), (.int (1 : Int32))]) (rest := [(.int (0 : Int32)), (.ref b6), (.int (0 : Int32)), (.ref a0)]) (lenOf pd_9 rfl) rfl (by show 2 * 0 + _ ≤ _; exact Nat.le_of_eq rfl) (hb hby d29_32) (fun _ _ => ⟨rfl, e6, (by decide : 1 + 0 ≤ _), (by decide : 1 + 0 ≤ _)⟩)
  dsimp only [Pt.U, Pt.locs, Pt.cells, Pt.slots] at X11 l11 y11 z11 st11 hQ11
  subst l11 y11 z11
  obtain ⟨rfl, N11q, e11⟩ := hQ11
  have N11 := Fr.app N0 N11q
  have ge_14 : n0 ≤ b6 := own_ge OLD (Nat.le_of_eq g6.symm)
  obtain ⟨clb13, Arb13, qb13, -, -, -, -⟩ := id (f_8)
  have f_15 := f_3.ext E6
  obtain ⟨T16, h16, L16, X16, e16, N16, K16, V16, st16⟩ := cpA X11 hx hZ hown (hw _ (List.mem_of_getElem? (i := 186) rfl)) (hw _ (List.mem_of_getElem? (i := 189) rfl)) (hw _ (List.mem_of_getElem? (i := 187) rfl)) (hw _ (List.mem_of_getElem? (i := 188) rfl)) e11 f_9 f_8 (Or.inr ⟨rfl, rfl, ⟨(Sto.ofV Arb13 qb13 O6 (Ins.of_exa f_15 (hw _ (List.mem_of_getElem? (i := 129) rfl)))), trivial⟩⟩) (us := [(.ref f)]) (by decide) (by decide) (by decide) (by decide) (by decide) rfl (by decide) N11 ge_14 (g := (mkF m 35 #[vR a0, vI (1 : Int32), vR w_mir__Ljava_lang_Object_, vR b6] [(.int (1 : Int32)), (.int (0 : Int32)), (.ref b6), (.int (0 : Int32)), (.ref a0)])) rfl (by rw [hml]; rfl) rfl (hb hby d29_35) (by decide) (W := 0) (by show 2 * 0 + _ ≤ _; exact Nat.le_of_eq rfl) (by decide)
  have K_17 : Keep h0 h16 [] := Keep.trans K_7 K16 (allS (Or.inr (Nat.le_trans (Keep.refl h0 []).1 (Nat.le_of_eq g6.symm))) all0)
  have f_18 : Arv Z h16 b6 k6 (.object "java/lang/Object") (1 : Int32) [(.ref f)] .null := V16
  have f_19 := B6.keep K16
  obtain ⟨fs, hr, hrun, hended, hW, hsame⟩ := X16.leave (v := some (.ref b6)) (fun h => by rw [Bd.returns] at h; cases h)
  refine ⟨_, _, pre0 _ ?_, hrun, hended, _, _, rfl, ?_, ⟨_, rfl⟩, hW, hsame.mono (by decide) (by decide)⟩
  · show Steps p.tables e below (s₁.setTop (mkF m 0 #[vR a0, vI (1 : Int32), vR w_mir__Ljava_lang_Object_, .unset] [])) _
    refine XS.aloadN X0.here hx rfl (hb hby d29_0) rfl rfl ?_
    refine st5 _ ?_
    show Steps p.tables e below (T5.setTop (mkF m 3 #[vR a0, vI (1 : Int32), vR w_mir__Ljava_lang_Object_, .unset] [(.ref w_mir__Ljava_lang_Object_), (.ref w_mir__Ljava_lang_Object_)])) _
    refine Jvm.RoadKit.acmp (g := (mkF m 3 #[vR a0, vI (1 : Int32), vR w_mir__Ljava_lang_Object_, .unset] [(.ref w_mir__Ljava_lang_Object_), (.ref w_mir__Ljava_lang_Object_)])) X5 hx rfl rfl rfl (pc0 := 3) (pc' := 6) (same := true) rfl (hb hby d29_3) rfl (decide_eq_true rfl) (by decide) (by decide) ?_
    refine XS.iloadN X5.here hx rfl (hb hby d29_6) rfl ?_
    show Steps p.tables e below (T5.setTop (mkF m 7 #[vR a0, vI (1 : Int32), vR w_mir__Ljava_lang_Object_, .unset] [(.int (1 : Int32))])) _
    refine st6 _ ?_
    refine XS.goto X6.here hx rfl (pc0 := 10) (pc' := 24) rfl (hb hby d29_10) (by decide) (by decide) ?_
    show Steps p.tables e below (T6.setTop (mkF m 24 #[vR a0, vI (1 : Int32), vR w_mir__Ljava_lang_Object_, .unset] [(.ref b6)])) _
    refine XS.astoreN X6.here hx rfl (hb hby d29_24) rfl rfl (l' := #[vR a0, vI (1 : Int32), vR w_mir__Ljava_lang_Object_, vR b6]) rfl ?_
    refine XS.aloadN X6.here hx rfl (hb hby d29_25) rfl rfl ?_
    show Steps p.tables e below (T6.setTop (mkF m 26 #[vR a0, vI (1 : Int32), vR w_mir__Ljava_lang_Object_, vR b6] [(.ref a0)])) _
    refine XS.iconst X6.here hx rfl (hb hby d29_26) ?_
    refine XS.aloadN X6.here hx rfl (hb hby d29_27) rfl rfl ?_
    show Steps p.tables e below (T6.setTop (mkF m 28 #[vR a0, vI (1 : Int32), vR w_mir__Ljava_lang_Object_, vR b6] [(.ref b6), (.int (0 : Int32)), (.ref a0)])) _
    refine XS.iconst X6.here hx rfl (hb hby d29_28) ?_
    refine XS.aloadN X6.here hx rfl (hb hby d29_29) rfl rfl ?_
    show Steps p.tables e below (T6.setTop (mkF m 30 #[vR a0, vI (1 : Int32), vR w_mir__Ljava_lang_Object_, vR b6] [(.ref a0), (.int (0 : Int32)), (.ref b6), (.int (0 : Int32)), (.ref a0)])) _
    refine X6.arraylength hx (by rw [e6]; exact Ar10.1) (State.isArrayOf_alike hZ.alike Ar10.2.1) (g := (mkF m 30 #[vR a0, vI (1 : Int32), vR w_mir__Ljava_lang_Object_, vR b6] [(.ref a0), (.int (0 : Int32)), (.ref b6), (.int (0 : Int32)), (.ref a0)])) rfl rfl (hb hby d29_30) _ ?_
    rw [len_of s10 n10]
    refine XS.iloadN X6.here hx rfl (hb hby d29_31) rfl ?_
    show Steps p.tables e below (T6.setTop (mkF m 32 #[vR a0, vI (1 : Int32), vR w_mir__Ljava_lang_Object_, vR b6] [(.int (1 : Int32)), (.int (10 : Int32)), (.int (0 : Int32)), (.ref b6), (.int (0 : Int32)), (.ref a0)])) _
    refine st11 _ ?_
    refine st16 _ ?_
    show Steps p.tables e below (T16.setTop (mkF m 38 #[vR a0, vI (1 : Int32), vR w_mir__Ljava_lang_Object_, vR b6] [])) _
    refine XS.aloadN X16.here hx rfl (hb hby d29_38) rfl rfl ?_
    show Steps p.tables e below (T16.setTop (mkF m 39 #[vR a0, vI (1 : Int32), vR w_mir__Ljava_lang_Object_, vR b6] [(.ref b6)])) _
    jvm_step X16.here [X16.here.top, hx, (hb hby d29_39), X16.method', Bd.returns, Value.isRef, FieldType.isReference]
    first | (intro acts; rw [hr _ acts rfl rfl rfl]) | rw [hr _ _ rfl rfl rfl]
    exact Steps.refl _
  · show Q29 Z f ka w_mir__Ljava_lang_Object_ a0 h0 n0 _ T16.heap _
    rw [e16]
    exact ⟨b6, k6, rfl, N16, K_17, (Nat.le_trans (Keep.refl h0 []).1 (Nat.le_of_eq g6.symm)), f_19, f_18, O6⟩
theorem pd_13 : parseMethodDescriptor "([Ljava/lang/Object;ILjava/lang/Class;)[Ljava/lang/Object;" = some ⟨[(.array (.object "java/lang/Object")), .int, (.object "java/lang/Class")], some (.array (.object "java/lang/Object"))⟩ := by decide +kernel
theorem d28_0 : decode jdk_65_method_119_code 0 = .ok (.aload_n 0, 1) := by decide +kernel
theorem d28_1 : decode jdk_65_method_119_code 1 = .ok (.iload_n 1, 1) := by decide +kernel
theorem d28_2 : decode jdk_65_method_119_code 2 = .ok (.aload_n 0, 1) := by decide +kernel
theorem d28_3 : decode jdk_65_method_119_code 3 = .ok (.invokevirtual 86, 3) := by decide +kernel
theorem d28_6 : decode jdk_65_method_119_code 6 = .ok (.invokestatic 300, 3) := by decide +kernel
theorem d28_9 : decode jdk_65_method_119_code 9 = .ok (.areturn, 1) := by decide +kernel
theorem ef_28 (m : MethodId) (x0 : Addr) (x1 : Int32) : entryFrame m #[(.ref x0), (.int x1)] 2 = mkF m 0 #[vR x0, vI x1] [] := by first | (simp [entryFrame, mkF, argsToLocals, Value.category]; done) | rfl
def Q28 (Z : State) (f : Addr) (ka : ClassId) (a0 : Addr) (w_mir__Ljava_lang_Object_ : Addr) (h0 : Heap) (n0 : Nat) (v : Option Value) (h : Heap) (L : List Loc) : Prop := ∃ b6_6 : Addr, ∃ k6_6 : ClassId, v = some (.ref b6_6) ∧ Fr n0 L ∧ Keep h0 h [] ∧ h0.size ≤ b6_6 ∧ Exa Z h b6_6 "[Ljava/lang/Object;" ∧ Arv Z h b6_6 k6_6 (.object "java/lang/Object") (1 : Int32) [(.ref f)] .null ∧ Ovr Z k6_6 "java/lang/Object"
set_option maxRecDepth 65536 in
set_option maxHeartbeats 40000000 in
theorem rm28 (l : Launch) (Z : State) (A0 : Array Value) (hw : ∀ d ∈ tables_1, d.before A0 Z = true) (ws : List Jvm.Cond) (f : Addr) (ka : ClassId) (a0 : Addr) (w_mir__Ljava_lang_Object_ : Addr) (h0 : Heap) (n0 : Nat) (OLD : Old Z n0 h0) (f_1 : Arv Z h0 a0 ka (.object "java/lang/Object") (10 : Int32) [(.ref f), .null, .null, .null, .null, .null, .null, .null, .null, .null] .null) (f_2 : Exa Z h0 a0 "[Ljava/lang/Object;") (f_3 : Exa Z h0 f "com/example/deposita/deposita/core/Finding") (c_4 : own_Mir Z "[Ljava/lang/Object;" w_mir__Ljava_lang_Object_) :
    MetFree l (⟨"java/util/Arrays", "copyOf", "([Ljava/lang/Object;I)[Ljava/lang/Object;"⟩ : MethodName) (head1 (Jvm.Cond.code (⟨"java/util/Arrays", "copyOf", "([Ljava/lang/Object;I)[Ljava/lang/Object;"⟩ : MethodName) jdk_65_method_119_code 2 (some (.array (.object "java/lang/Object"))) :: ws) ({ frames := 2, cells := 1, slots := 1, locals := 55 } : Room)) (fun a U => a = #[(.ref a0), (.int (1 : Int32))] ∧ Z.Warmed39 U.vm ∧ U.heap = h0) (fun _ _ _ _ _ => True) (fun _ U o U' => ∃ v L, o = .returned v ∧ Q28 Z f ka a0 w_mir__Ljava_lang_Object_ h0 n0 v U'.heap L ∧ FrameEnd U o U' L ({ frames := 2, cells := 1, slots := 1, locals := 55 } : Room).cells ({ frames := 2, cells := 1, slots := 1, locals := 55 } : Room).slots) := by
  refine MetFree.of_bodySF (plainFor_of_name pn_java_util_Arrays) hisR ?_
  intro p e s m args below meth c s₁ Bd hml0 hP hK
  obtain ⟨rfl, hZ, hh⟩ := hP
  have hx := Bd.exec
  have hby := Bd.bytes
  have hml : c.maxLocals = 2 := hml0
  have hown : s.vm.findClass "java/util/Arrays" = some m.cls := findClass_of_methodNamed Bd.named
  have hnm := (name_of_methodNamed Bd.named Bd.method).1
  have X0 : Stand p l e ({ frames := 2, cells := 1, slots := 1, locals := 55 } : Room) s m #[(.ref a0), (.int (1 : Int32))] below meth c s₁ [] 0 0 := Stand.of_body Bd
  have e0 : s₁.heap = h0 := by rw [← hh, Bd.state]; rfl
  have N0 := Fr.nil n0
  have pre0 : ∀ t, Steps p.tables e below (s₁.setTop (mkF m 0 #[vR a0, vI (1 : Int32)] [])) t → Steps p.tables e below (s₁.setTop (entryFrame m #[(.ref a0), (.int (1 : Int32))] 2)) t := fun t k => castTop (ef_28 m a0 (1 : Int32)) k
  obtain ⟨T5, X5, e5, st5⟩ := own_gcls X0 hx hZ hown (hw _ (List.mem_of_getElem? (i := 172) rfl)) (hw _ (List.mem_of_getElem? (i := 173) rfl)) (hw _ (List.mem_of_getElem? (i := 149) rfl)) (hw _ (List.mem_of_getElem? (i := 175) rfl)) (hw _ (List.mem_of_getElem? (i := 174) rfl)) (hw _ (List.mem_of_getElem? (i := 176) rfl)) e0 f_2 c_4 (g := (mkF m 3 #[vR a0, vI (1 : Int32)] [(.ref a0), (.int (1 : Int32)), (.ref a0)])) rfl (by rw [hml]; rfl) rfl (hb hby d28_3) (by decide) (W := 2) (by show 2 * 0 + _ ≤ _; exact Nat.le_of_eq rfl) (by decide)
  obtain ⟨_, _, ⟨T6, L6, k6, n6⟩, -, X6, ⟨Lc6, hQ6, l6, y6, z6⟩, st6⟩ := Jvm.LawKit.callS X5 hx (y := (⟨"java/util/Arrays", "copyOf", "([Ljava/lang/Object;ILjava/lang/Class;)[Ljava/lang/Object;"⟩ : MethodName)) hown (mvT hZ (hw _ (List.mem_of_getElem? (i := 178) rfl))) (mvT hZ (hw _ (List.mem_of_getElem? (i := 179) rfl))) (mvT hZ (hw _ (List.mem_of_getElem? (i := 170) rfl))) (mvT hZ (hw _ (List.mem_of_getElem? (i := 180) rfl))) (by decide) (backOf (W := 0) (rm29 l Z A0 hw [] f ka w_mir__Ljava_lang_Object_ a0 h0 n0 OLD f_1 f_2 f_3 c_4) hZ (hw _ (List.mem_of_getElem? (i := 180) rfl)) (hw _ (List.mem_of_getElem? (i := 170) rfl)) (by decide) (by decide)) (g := (mkF m 6 #[vR a0, vI (1 : Int32)] [(.ref w_mir__Ljava_lang_Object_), (.int (1 : Int32)), (.ref a0)])) rfl (by rw [hml]; rfl) (argsL := [(.ref a0), (.int (1 : Int32)), (.ref w_mir__Ljava_lang_Object_)]) (rest := []) (lenOf pd_13 rfl) rfl (by show 2 * 0 + _ ≤ _; exact Nat.le_of_eq rfl) (hb hby d28_6) (fun _ _ => ⟨rfl, e5, (by decide : 0 + 1 ≤ _), (by decide : 0 + 1 ≤ _)⟩)
  dsimp only [Pt.U, Pt.locs, Pt.cells, Pt.slots] at X6 l6 y6 z6 st6 hQ6
  subst l6 y6 z6
  obtain ⟨b6_6, k6_6, rfl, N6q, K6, g6_0, g6_1, g6_2, g6_3⟩ := hQ6
  have N6 := Fr.app N0 N6q
  have K_7 : Keep h0 T6.heap [] := Keep.trans (Keep.refl h0 []) K6 all0
  obtain ⟨fs, hr, hrun, hended, hW, hsame⟩ := X6.leave (v := some (.ref b6_6)) (fun h => by rw [Bd.returns] at h; cases h)
  refine ⟨_, _, pre0 _ ?_, hrun, hended, _, _, rfl, ?_, ⟨_, rfl⟩, hW, hsame.mono (by decide) (by decide)⟩
  · show Steps p.tables e below (s₁.setTop (mkF m 0 #[vR a0, vI (1 : Int32)] [])) _
    refine XS.aloadN X0.here hx rfl (hb hby d28_0) rfl rfl ?_
    refine XS.iloadN X0.here hx rfl (hb hby d28_1) rfl ?_
    show Steps p.tables e below (s₁.setTop (mkF m 2 #[vR a0, vI (1 : Int32)] [(.int (1 : Int32)), (.ref a0)])) _
    refine XS.aloadN X0.here hx rfl (hb hby d28_2) rfl rfl ?_
    refine st5 _ ?_
    show Steps p.tables e below (T5.setTop (mkF m 6 #[vR a0, vI (1 : Int32)] [(.ref w_mir__Ljava_lang_Object_), (.int (1 : Int32)), (.ref a0)])) _
    refine st6 _ ?_
    show Steps p.tables e below (T6.setTop (mkF m 9 #[vR a0, vI (1 : Int32)] [(.ref b6_6)])) _
    jvm_step X6.here [X6.here.top, hx, (hb hby d28_9), X6.method', Bd.returns, Value.isRef, FieldType.isReference]
    first | (intro acts; rw [hr _ acts rfl rfl rfl]) | rw [hr _ _ rfl rfl rfl]
    exact Steps.refl _
  · show Q28 Z f ka a0 w_mir__Ljava_lang_Object_ h0 n0 _ T6.heap _
    exact ⟨b6_6, k6_6, rfl, N6, K_7, (Nat.le_trans (Keep.refl h0 []).1 g6_0), g6_1, g6_2, g6_3⟩
theorem pd_14 : parseMethodDescriptor "([Ljava/lang/Object;I)[Ljava/lang/Object;" = some ⟨[(.array (.object "java/lang/Object")), .int], some (.array (.object "java/lang/Object"))⟩ := by decide +kernel
theorem d27_0 : decode jdk_38_method_16_code 0 = .ok (.aload_n 0, 1) := by decide +kernel
theorem d27_1 : decode jdk_38_method_16_code 1 = .ok (.getfield 9, 3) := by decide +kernel
theorem d27_4 : decode jdk_38_method_16_code 4 = .ok (.aload_n 0, 1) := by decide +kernel
theorem d27_5 : decode jdk_38_method_16_code 5 = .ok (.getfield 48, 3) := by decide +kernel
theorem d27_8 : decode jdk_38_method_16_code 8 = .ok (.invokestatic 66, 3) := by decide +kernel
theorem d27_11 : decode jdk_38_method_16_code 11 = .ok (.areturn, 1) := by decide +kernel
theorem ef_27 (m : MethodId) (x0 : Addr) : entryFrame m #[(.ref x0)] 1 = mkF m 0 #[vR x0] [] := by first | (simp [entryFrame, mkF, argsToLocals, Value.category]; done) | rfl
def Q27 (Z : State) (f : Addr) (ka : ClassId) (d : Addr) (a0 : Addr) (w_mir__Ljava_lang_Object_ : Addr) (h0 : Heap) (n0 : Nat) (v : Option Value) (h : Heap) (L : List Loc) : Prop := ∃ b6_6_10 : Addr, ∃ k6_6_10 : ClassId, v = some (.ref b6_6_10) ∧ Fr n0 L ∧ Keep h0 h [] ∧ h0.size ≤ b6_6_10 ∧ Exa Z h b6_6_10 "[Ljava/lang/Object;" ∧ Arv Z h b6_6_10 k6_6_10 (.object "java/lang/Object") (1 : Int32) [(.ref f)] .null ∧ Ovr Z k6_6_10 "java/lang/Object"
set_option maxRecDepth 65536 in
set_option maxHeartbeats 40000000 in
theorem rm27 (l : Launch) (Z : State) (A0 : Array Value) (hw : ∀ d ∈ tables_1, d.before A0 Z = true) (ws : List Jvm.Cond) (f : Addr) (ka : ClassId) (d : Addr) (a0 : Addr) (w_mir__Ljava_lang_Object_ : Addr) (h0 : Heap) (n0 : Nat) (OLD : Old Z n0 h0) (f_1 : Exa Z h0 a0 "java/util/ArrayList") (f_2 : Fld Z h0 a0 "java/util/ArrayList" "elementData" "[Ljava/lang/Object;" (.ref d)) (f_3 : Fld Z h0 a0 "java/util/ArrayList" "size" "I" (.int (1 : Int32))) (f_4 : Arv Z h0 d ka (.object "java/lang/Object") (10 : Int32) [(.ref f), .null, .null, .null, .null, .null, .null, .null, .null, .null] .null) (f_5 : Exa Z h0 d "[Ljava/lang/Object;") (f_6 : Exa Z h0 f "com/example/deposita/deposita/core/Finding") (c_9 : own_Mir Z "[Ljava/lang/Object;" w_mir__Ljava_lang_Object_) :
    MetFree l (⟨"java/util/ArrayList", "toArray", "()[Ljava/lang/Object;"⟩ : MethodName) (head1 (Jvm.Cond.code (⟨"java/util/ArrayList", "toArray", "()[Ljava/lang/Object;"⟩ : MethodName) jdk_38_method_16_code 1 (some (.array (.object "java/lang/Object"))) :: ws) ({ frames := 3, cells := 1, slots := 1, locals := 68 } : Room)) (fun a U => a = #[(.ref a0)] ∧ Z.Warmed39 U.vm ∧ U.heap = h0) (fun _ _ _ _ _ => True) (fun _ U o U' => ∃ v L, o = .returned v ∧ Q27 Z f ka d a0 w_mir__Ljava_lang_Object_ h0 n0 v U'.heap L ∧ FrameEnd U o U' L ({ frames := 3, cells := 1, slots := 1, locals := 68 } : Room).cells ({ frames := 3, cells := 1, slots := 1, locals := 68 } : Room).slots) := by
  refine MetFree.of_bodySF (plainFor_of_name pn_java_util_ArrayList) hisR ?_
  intro p e s m args below meth c s₁ Bd hml0 hP hK
  obtain ⟨rfl, hZ, hh⟩ := hP
  have hx := Bd.exec
  have hby := Bd.bytes
  have hml : c.maxLocals = 1 := hml0
  have hown : s.vm.findClass "java/util/ArrayList" = some m.cls := findClass_of_methodNamed Bd.named
  have hnm := (name_of_methodNamed Bd.named Bd.method).1
  have X0 : Stand p l e ({ frames := 3, cells := 1, slots := 1, locals := 68 } : Room) s m #[(.ref a0)] below meth c s₁ [] 0 0 := Stand.of_body Bd
  have e0 : s₁.heap = h0 := by rw [← hh, Bd.state]; rfl
  have N0 := Fr.nil n0
  have pre0 : ∀ t, Steps p.tables e below (s₁.setTop (mkF m 0 #[vR a0] [])) t → Steps p.tables e below (s₁.setTop (entryFrame m #[(.ref a0)] 1)) t := fun t k => castTop (ef_27 m a0) k
  obtain ⟨T7, X7, e7, st7⟩ := getF X0 hx hZ hown (host := "") (Or.inl (hw _ (List.mem_of_getElem? (i := 97) rfl))) Via.refl e0 f_2 (g := (mkF m 1 #[vR a0] [(.ref a0)])) rfl rfl (hb hby d27_1)
  obtain ⟨T8, X8, e8, st8⟩ := getF X7 hx hZ hown (host := "") (Or.inl (hw _ (List.mem_of_getElem? (i := 106) rfl))) Via.refl e7 f_3 (g := (mkF m 5 #[vR a0] [(.ref a0), (.ref d)])) rfl rfl (hb hby d27_5)
  obtain ⟨_, _, ⟨T10, L10, k10, n10⟩, -, X10, ⟨Lc10, hQ10, l10, y10, z10⟩, st10⟩ := Jvm.LawKit.callS X8 hx (y := (⟨"java/util/Arrays", "copyOf", "([Ljava/lang/Object;I)[Ljava/lang/Object;"⟩ : MethodName)) hown (mvT hZ (hw _ (List.mem_of_getElem? (i := 168) rfl))) (mvT hZ (hw _ (List.mem_of_getElem? (i := 169) rfl))) (mvT hZ (hw _ (List.mem_of_getElem? (i := 170) rfl))) (mvT hZ (hw _ (List.mem_of_getElem? (i := 171) rfl))) (by decide) (backOf (W := 0) (rm28 l Z A0 hw [] f ka d w_mir__Ljava_lang_Object_ h0 n0 OLD f_4 f_5 f_6 c_9) hZ (hw _ (List.mem_of_getElem? (i := 171) rfl)) (hw _ (List.mem_of_getElem? (i := 170) rfl)) (by decide) (by decide)) (g := (mkF m 8 #[vR a0] [(.int (1 : Int32)), (.ref d)])) rfl (by rw [hml]; rfl) (argsL := [(.ref d), (.int (1 : Int32))]) (rest := []) (lenOf pd_14 rfl) rfl (by show 2 * 0 + _ ≤ _; exact Nat.le_of_eq rfl) (hb hby d27_8) (fun _ _ => ⟨rfl, e8, (by decide : 0 + 1 ≤ _), (by decide : 0 + 1 ≤ _)⟩)
  dsimp only [Pt.U, Pt.locs, Pt.cells, Pt.slots] at X10 l10 y10 z10 st10 hQ10
  subst l10 y10 z10
  obtain ⟨b6_6_10, k6_6_10, rfl, N10q, K10, g10_0, g10_1, g10_2, g10_3⟩ := hQ10
  have N10 := Fr.app N0 N10q
  have K_11 : Keep h0 T10.heap [] := Keep.trans (Keep.refl h0 []) K10 all0
  obtain ⟨fs, hr, hrun, hended, hW, hsame⟩ := X10.leave (v := some (.ref b6_6_10)) (fun h => by rw [Bd.returns] at h; cases h)
  refine ⟨_, _, pre0 _ ?_, hrun, hended, _, _, rfl, ?_, ⟨_, rfl⟩, hW, hsame.mono (by decide) (by decide)⟩
  · show Steps p.tables e below (s₁.setTop (mkF m 0 #[vR a0] [])) _
    refine XS.aloadN X0.here hx rfl (hb hby d27_0) rfl rfl ?_
    refine st7 _ ?_
    show Steps p.tables e below (T7.setTop (mkF m 4 #[vR a0] [(.ref d)])) _
    refine XS.aloadN X7.here hx rfl (hb hby d27_4) rfl rfl ?_
    refine st8 _ ?_
    show Steps p.tables e below (T8.setTop (mkF m 8 #[vR a0] [(.int (1 : Int32)), (.ref d)])) _
    refine st10 _ ?_
    show Steps p.tables e below (T10.setTop (mkF m 11 #[vR a0] [(.ref b6_6_10)])) _
    jvm_step X10.here [X10.here.top, hx, (hb hby d27_11), X10.method', Bd.returns, Value.isRef, FieldType.isReference]
    first | (intro acts; rw [hr _ acts rfl rfl rfl]) | rw [hr _ _ rfl rfl rfl]
    exact Steps.refl _
  · show Q27 Z f ka d a0 w_mir__Ljava_lang_Object_ h0 n0 _ T10.heap _
    exact ⟨b6_6_10, k6_6_10, rfl, N10, K_11, (Nat.le_trans (Keep.refl h0 []).1 g10_0), g10_1, g10_2, g10_3⟩
theorem d34_0 : decode jdk_47_method_1_code 0 = .ok (.aload_n 0, 1) := by decide +kernel
theorem d34_1 : decode jdk_47_method_1_code 1 = .ok (.invokespecial 1, 3) := by decide +kernel
theorem d34_4 : decode jdk_47_method_1_code 4 = .ok (.return_, 1) := by decide +kernel
theorem pn_java_util_ImmutableCollections_AbstractImmutableCollection : plainName "java/util/ImmutableCollections$AbstractImmutableCollection" = true := by first | (simp [plainName, overriddenIn]; done) | decide +kernel
theorem ef_34 (m : MethodId) (x0 : Addr) : entryFrame m #[(.ref x0)] 1 = mkF m 0 #[vR x0] [] := by first | (simp [entryFrame, mkF, argsToLocals, Value.category]; done) | rfl
def Q34 (Z : State) (a0 : Addr) (h0 : Heap) (n0 : Nat) (v : Option Value) (h : Heap) (L : List Loc) : Prop := v = none ∧ Fr n0 L ∧ h = h0
set_option maxRecDepth 65536 in
set_option maxHeartbeats 40000000 in
theorem rm34 (l : Launch) (Z : State) (A0 : Array Value) (hw : ∀ d ∈ tables_1, d.before A0 Z = true) (ws : List Jvm.Cond) (a0 : Addr) (h0 : Heap) (n0 : Nat) (OLD : Old Z n0 h0) :
    MetFree l (⟨"java/util/ImmutableCollections$AbstractImmutableCollection", "<init>", "()V"⟩ : MethodName) (head1 (Jvm.Cond.code (⟨"java/util/ImmutableCollections$AbstractImmutableCollection", "<init>", "()V"⟩ : MethodName) jdk_47_method_1_code 1 none :: ws) ({ frames := 2, cells := 0, slots := 0, locals := 24 } : Room)) (fun a U => a = #[(.ref a0)] ∧ Z.Warmed39 U.vm ∧ U.heap = h0) (fun _ _ _ _ _ => True) (fun _ U o U' => ∃ v L, o = .returned v ∧ Q34 Z a0 h0 n0 v U'.heap L ∧ FrameEnd U o U' L ({ frames := 2, cells := 0, slots := 0, locals := 24 } : Room).cells ({ frames := 2, cells := 0, slots := 0, locals := 24 } : Room).slots) := by
  refine MetFree.of_bodySF (plainFor_of_name pn_java_util_ImmutableCollections_AbstractImmutableCollection) hisR ?_
  intro p e s m args below meth c s₁ Bd hml0 hP hK
  obtain ⟨rfl, hZ, hh⟩ := hP
  have hx := Bd.exec
  have hby := Bd.bytes
  have hml : c.maxLocals = 1 := hml0
  have hown : s.vm.findClass "java/util/ImmutableCollections$AbstractImmutableCollection" = some m.cls := findClass_of_methodNamed Bd.named
  have hnm := (name_of_methodNamed Bd.named Bd.method).1
  have X0 : Stand p l e ({ frames := 2, cells := 0, slots := 0, locals := 24 } : Room) s m #[(.ref a0)] below meth c s₁ [] 0 0 := Stand.of_body Bd
  have e0 : s₁.heap = h0 := by rw [← hh, Bd.state]; rfl
  have N0 := Fr.nil n0
  have pre0 : ∀ t, Steps p.tables e below (s₁.setTop (mkF m 0 #[vR a0] [])) t → Steps p.tables e below (s₁.setTop (entryFrame m #[(.ref a0)] 1)) t := fun t k => castTop (ef_34 m a0) k
  obtain ⟨_, _, ⟨T1, L1, k1, n1⟩, -, X1, ⟨Lc1, hQ1, l1, y1, z1⟩, st1⟩ := X0.specialBack hx (y := (⟨"java/util/AbstractCollection", "<init>", "()V"⟩ : MethodName)) rfl hown (mvT hZ (hw _ (List.mem_of_getElem? (i := 212) rfl))) (mvT hZ (hw _ (List.mem_of_getElem? (i := 88) rfl))) (mvT hZ (hw _ (List.mem_of_getElem? (i := 92) rfl))) (by decide) (backOf (W := 0) (rm17 l Z A0 hw [] a0 h0 n0 OLD ) hZ (hw _ (List.mem_of_getElem? (i := 92) rfl)) (hw _ (List.mem_of_getElem? (i := 91) rfl)) (by decide) (by decide)) (g := (mkF m 1 #[vR a0] [(.ref a0)])) rfl (by rw [hml]; rfl) (Steps.refl _) (a := a0) (argsL := []) (rest := []) (lenOf pd_7 rfl) rfl (by show 2 * 0 + _ ≤ _; exact Nat.le_of_eq rfl) (hb hby d34_1) (fun _ _ => ⟨rfl, e0, (by decide : 0 + 0 ≤ _), (by decide : 0 + 0 ≤ _)⟩)
  dsimp only [Pt.U, Pt.locs, Pt.cells, Pt.slots] at X1 l1 y1 z1 st1 hQ1
  subst l1 y1 z1
  obtain ⟨rfl, N1q, e1⟩ := hQ1
  have N1 := Fr.app N0 N1q
  obtain ⟨fs, hr, hrun, hended, hW, hsame⟩ := X1.leave (v := none) (fun _ => rfl)
  refine ⟨_, _, pre0 _ ?_, hrun, hended, _, _, rfl, ?_, ⟨_, rfl⟩, hW, hsame.mono (by decide) (by decide)⟩
  · show Steps p.tables e below (s₁.setTop (mkF m 0 #[vR a0] [])) _
    refine XS.aloadN X0.here hx rfl (hb hby d34_0) rfl rfl ?_
    refine st1.trans ?_
    show Steps p.tables e below (T1.setTop (mkF m 4 #[vR a0] [])) _
    exact X1.returnOut hx Bd.returns (hb hby d34_4) hr
  · show Q34 Z a0 h0 n0 _ T1.heap _
    rw [e1]
    exact ⟨rfl, N1, rfl⟩
theorem d33_0 : decode jdk_46_method_1_code 0 = .ok (.aload_n 0, 1) := by decide +kernel
theorem d33_1 : decode jdk_46_method_1_code 1 = .ok (.invokespecial 1, 3) := by decide +kernel
theorem d33_4 : decode jdk_46_method_1_code 4 = .ok (.return_, 1) := by decide +kernel
theorem pn_java_util_ImmutableCollections_AbstractImmutableList : plainName "java/util/ImmutableCollections$AbstractImmutableList" = true := by first | (simp [plainName, overriddenIn]; done) | decide +kernel
theorem ef_33 (m : MethodId) (x0 : Addr) : entryFrame m #[(.ref x0)] 1 = mkF m 0 #[vR x0] [] := by first | (simp [entryFrame, mkF, argsToLocals, Value.category]; done) | rfl
def Q33 (Z : State) (a0 : Addr) (h0 : Heap) (n0 : Nat) (v : Option Value) (h : Heap) (L : List Loc) : Prop := v = none ∧ Fr n0 L ∧ h = h0
set_option maxRecDepth 65536 in
set_option maxHeartbeats 40000000 in
theorem rm33 (l : Launch) (Z : State) (A0 : Array Value) (hw : ∀ d ∈ tables_1, d.before A0 Z = true) (ws : List Jvm.Cond) (a0 : Addr) (h0 : Heap) (n0 : Nat) (OLD : Old Z n0 h0) :
    MetFree l (⟨"java/util/ImmutableCollections$AbstractImmutableList", "<init>", "()V"⟩ : MethodName) (head1 (Jvm.Cond.code (⟨"java/util/ImmutableCollections$AbstractImmutableList", "<init>", "()V"⟩ : MethodName) jdk_46_method_1_code 1 none :: ws) ({ frames := 3, cells := 0, slots := 0, locals := 36 } : Room)) (fun a U => a = #[(.ref a0)] ∧ Z.Warmed39 U.vm ∧ U.heap = h0) (fun _ _ _ _ _ => True) (fun _ U o U' => ∃ v L, o = .returned v ∧ Q33 Z a0 h0 n0 v U'.heap L ∧ FrameEnd U o U' L ({ frames := 3, cells := 0, slots := 0, locals := 36 } : Room).cells ({ frames := 3, cells := 0, slots := 0, locals := 36 } : Room).slots) := by
  refine MetFree.of_bodySF (plainFor_of_name pn_java_util_ImmutableCollections_AbstractImmutableList) hisR ?_
  intro p e s m args below meth c s₁ Bd hml0 hP hK
  obtain ⟨rfl, hZ, hh⟩ := hP
  have hx := Bd.exec
  have hby := Bd.bytes
  have hml : c.maxLocals = 1 := hml0
  have hown : s.vm.findClass "java/util/ImmutableCollections$AbstractImmutableList" = some m.cls := findClass_of_methodNamed Bd.named
  have hnm := (name_of_methodNamed Bd.named Bd.method).1
  have X0 : Stand p l e ({ frames := 3, cells := 0, slots := 0, locals := 36 } : Room) s m #[(.ref a0)] below meth c s₁ [] 0 0 := Stand.of_body Bd
  have e0 : s₁.heap = h0 := by rw [← hh, Bd.state]; rfl
  have N0 := Fr.nil n0
  have pre0 : ∀ t, Steps p.tables e below (s₁.setTop (mkF m 0 #[vR a0] [])) t → Steps p.tables e below (s₁.setTop (entryFrame m #[(.ref a0)] 1)) t := fun t k => castTop (ef_33 m a0) k
  obtain ⟨_, _, ⟨T1, L1, k1, n1⟩, -, X1, ⟨Lc1, hQ1, l1, y1, z1⟩, st1⟩ := X0.specialBack hx (y := (⟨"java/util/ImmutableCollections$AbstractImmutableCollection", "<init>", "()V"⟩ : MethodName)) rfl hown (mvT hZ (hw _ (List.mem_of_getElem? (i := 206) rfl))) (mvT hZ (hw _ (List.mem_of_getElem? (i := 207) rfl))) (mvT hZ (hw _ (List.mem_of_getElem? (i := 211) rfl))) (by decide) (backOf (W := 0) (rm34 l Z A0 hw [] a0 h0 n0 OLD ) hZ (hw _ (List.mem_of_getElem? (i := 211) rfl)) (hw _ (List.mem_of_getElem? (i := 210) rfl)) (by decide) (by decide)) (g := (mkF m 1 #[vR a0] [(.ref a0)])) rfl (by rw [hml]; rfl) (Steps.refl _) (a := a0) (argsL := []) (rest := []) (lenOf pd_7 rfl) rfl (by show 2 * 0 + _ ≤ _; exact Nat.le_of_eq rfl) (hb hby d33_1) (fun _ _ => ⟨rfl, e0, (by decide : 0 + 0 ≤ _), (by decide : 0 + 0 ≤ _)⟩)
  dsimp only [Pt.U, Pt.locs, Pt.cells, Pt.slots] at X1 l1 y1 z1 st1 hQ1
  subst l1 y1 z1
  obtain ⟨rfl, N1q, e1⟩ := hQ1
  have N1 := Fr.app N0 N1q
  obtain ⟨fs, hr, hrun, hended, hW, hsame⟩ := X1.leave (v := none) (fun _ => rfl)
  refine ⟨_, _, pre0 _ ?_, hrun, hended, _, _, rfl, ?_, ⟨_, rfl⟩, hW, hsame.mono (by decide) (by decide)⟩
  · show Steps p.tables e below (s₁.setTop (mkF m 0 #[vR a0] [])) _
    refine XS.aloadN X0.here hx rfl (hb hby d33_0) rfl rfl ?_
    refine st1.trans ?_
    show Steps p.tables e below (T1.setTop (mkF m 4 #[vR a0] [])) _
    exact X1.returnOut hx Bd.returns (hb hby d33_4) hr
  · show Q33 Z a0 h0 n0 _ T1.heap _
    rw [e1]
    exact ⟨rfl, N1, rfl⟩
theorem d35_0 : decode jdk_31_method_10_code 0 = .ok (.aload_n 0, 1) := by decide +kernel
theorem d35_1 : decode jdk_31_method_10_code 1 = .ok (.ifnonnull 11, 3) := by decide +kernel
theorem d35_12 : decode jdk_31_method_10_code 12 = .ok (.aload_n 0, 1) := by decide +kernel
theorem d35_13 : decode jdk_31_method_10_code 13 = .ok (.areturn, 1) := by decide +kernel
theorem ef_35 (m : MethodId) (x0 : Addr) : entryFrame m #[(.ref x0)] 1 = mkF m 0 #[vR x0] [] := by first | (simp [entryFrame, mkF, argsToLocals, Value.category]; done) | rfl
def Q35 (Z : State) (a0 : Addr) (h0 : Heap) (n0 : Nat) (v : Option Value) (h : Heap) (L : List Loc) : Prop := v = some (.ref a0) ∧ Fr n0 L ∧ h = h0
set_option maxRecDepth 65536 in
set_option maxHeartbeats 40000000 in
theorem rm35 (l : Launch) (Z : State) (A0 : Array Value) (hw : ∀ d ∈ tables_1, d.before A0 Z = true) (ws : List Jvm.Cond) (a0 : Addr) (h0 : Heap) (n0 : Nat) (OLD : Old Z n0 h0) :
    MetFree l (⟨"java/util/Objects", "requireNonNull", "(Ljava/lang/Object;)Ljava/lang/Object;"⟩ : MethodName) (head1 (Jvm.Cond.code (⟨"java/util/Objects", "requireNonNull", "(Ljava/lang/Object;)Ljava/lang/Object;"⟩ : MethodName) jdk_31_method_10_code 1 (some (.object "java/lang/Object")) :: ws) ({ frames := 0, cells := 0, slots := 0, locals := 0 } : Room)) (fun a U => a = #[(.ref a0)] ∧ Z.Warmed39 U.vm ∧ U.heap = h0) (fun _ _ _ _ _ => True) (fun _ U o U' => ∃ v L, o = .returned v ∧ Q35 Z a0 h0 n0 v U'.heap L ∧ FrameEnd U o U' L ({ frames := 0, cells := 0, slots := 0, locals := 0 } : Room).cells ({ frames := 0, cells := 0, slots := 0, locals := 0 } : Room).slots) := by
  refine MetFree.of_bodySF (plainFor_of_name pn_java_util_Objects) hisR ?_
  intro p e s m args below meth c s₁ Bd hml0 hP hK
  obtain ⟨rfl, hZ, hh⟩ := hP
  have hx := Bd.exec
  have hby := Bd.bytes
  have hml : c.maxLocals = 1 := hml0
  have hown : s.vm.findClass "java/util/Objects" = some m.cls := findClass_of_methodNamed Bd.named
  have hnm := (name_of_methodNamed Bd.named Bd.method).1
  have X0 : Stand p l e ({ frames := 0, cells := 0, slots := 0, locals := 0 } : Room) s m #[(.ref a0)] below meth c s₁ [] 0 0 := Stand.of_body Bd
  have e0 : s₁.heap = h0 := by rw [← hh, Bd.state]; rfl
  have N0 := Fr.nil n0
  have pre0 : ∀ t, Steps p.tables e below (s₁.setTop (mkF m 0 #[vR a0] [])) t → Steps p.tables e below (s₁.setTop (entryFrame m #[(.ref a0)] 1)) t := fun t k => castTop (ef_35 m a0) k
  obtain ⟨fs, hr, hrun, hended, hW, hsame⟩ := X0.leave (v := some (.ref a0)) (fun h => by rw [Bd.returns] at h; cases h)
  refine ⟨_, _, pre0 _ ?_, hrun, hended, _, _, rfl, ?_, ⟨_, rfl⟩, hW, hsame.mono (by decide) (by decide)⟩
  · show Steps p.tables e below (s₁.setTop (mkF m 0 #[vR a0] [])) _
    refine XS.aloadN X0.here hx rfl (hb hby d35_0) rfl rfl ?_
    refine XS.ifnonnullYes X0.here hx rfl (pc0 := 1) (pc' := 12) rfl (hb hby d35_1) rfl (by decide) (by decide) ?_
    show Steps p.tables e below (s₁.setTop (mkF m 12 #[vR a0] [])) _
    refine XS.aloadN X0.here hx rfl (hb hby d35_12) rfl rfl ?_
    show Steps p.tables e below (s₁.setTop (mkF m 13 #[vR a0] [(.ref a0)])) _
    jvm_step X0.here [X0.here.top, hx, (hb hby d35_13), X0.method', Bd.returns, Value.isRef, FieldType.isReference]
    first | (intro acts; rw [hr _ acts rfl rfl rfl]) | rw [hr _ _ rfl rfl rfl]
    exact Steps.refl _
  · show Q35 Z a0 h0 n0 _ s₁.heap _
    rw [e0]
    exact ⟨rfl, N0, rfl⟩
theorem pd_15 : parseMethodDescriptor "(Ljava/lang/Object;)Ljava/lang/Object;" = some ⟨[(.object "java/lang/Object")], some (.object "java/lang/Object")⟩ := by decide +kernel
theorem d32_0 : decode jdk_44_method_1_code 0 = .ok (.aload_n 0, 1) := by decide +kernel
theorem d32_1 : decode jdk_44_method_1_code 1 = .ok (.invokespecial 1, 3) := by decide +kernel
theorem d32_4 : decode jdk_44_method_1_code 4 = .ok (.aload_n 0, 1) := by decide +kernel
theorem d32_5 : decode jdk_44_method_1_code 5 = .ok (.aload_n 1, 1) := by decide +kernel
theorem d32_6 : decode jdk_44_method_1_code 6 = .ok (.invokestatic 7, 3) := by decide +kernel
theorem d32_9 : decode jdk_44_method_1_code 9 = .ok (.putfield 13, 3) := by decide +kernel
theorem d32_12 : decode jdk_44_method_1_code 12 = .ok (.aload_n 0, 1) := by decide +kernel
theorem d32_13 : decode jdk_44_method_1_code 13 = .ok (.getstatic 19, 3) := by decide +kernel
theorem d32_16 : decode jdk_44_method_1_code 16 = .ok (.putfield 24, 3) := by decide +kernel
theorem d32_19 : decode jdk_44_method_1_code 19 = .ok (.return_, 1) := by decide +kernel
theorem pn_java_util_ImmutableCollections_List12 : plainName "java/util/ImmutableCollections$List12" = true := by first | (simp [plainName, overriddenIn]; done) | decide +kernel
theorem ef_32 (m : MethodId) (x0 : Addr) (x1 : Addr) : entryFrame m #[(.ref x0), (.ref x1)] 2 = mkF m 0 #[vR x0, vR x1] [] := by first | (simp [entryFrame, mkF, argsToLocals, Value.category]; done) | rfl
def Q32 (Z : State) (a0 : Addr) (a1 : Addr) (u_e0_a0 : Value) (u_e1_a0 : Value) (w_EMPTY : Addr) (h0 : Heap) (n0 : Nat) (v : Option Value) (h : Heap) (L : List Loc) : Prop := v = none ∧ Fr n0 L ∧ Keep h0 h [a0] ∧ Exa Z h a0 "java/util/ImmutableCollections$List12" ∧ Fld Z h a0 "java/util/ImmutableCollections$List12" "e0" "Ljava/lang/Object;" (.ref a1) ∧ Fld Z h a0 "java/util/ImmutableCollections$List12" "e1" "Ljava/lang/Object;" (.ref w_EMPTY)
set_option maxRecDepth 65536 in
set_option maxHeartbeats 40000000 in
theorem rm32 (l : Launch) (Z : State) (A0 : Array Value) (hw : ∀ d ∈ tables_1, d.before A0 Z = true) (ws : List Jvm.Cond) (a0 : Addr) (a1 : Addr) (u_e0_a0 : Value) (u_e1_a0 : Value) (w_EMPTY : Addr) (h0 : Heap) (n0 : Nat) (OLD : Old Z n0 h0) (f_1 : Exa Z h0 a0 "java/util/ImmutableCollections$List12") (f_2 : Fld Z h0 a0 "java/util/ImmutableCollections$List12" "e0" "Ljava/lang/Object;" u_e0_a0) (f_3 : Fld Z h0 a0 "java/util/ImmutableCollections$List12" "e1" "Ljava/lang/Object;" u_e1_a0) (ge_a0 : n0 ≤ a0) (f_9 : Sta Z Z.heap "java/util/ImmutableCollections" "EMPTY" "Ljava/lang/Object;" (.ref w_EMPTY)) :
    MetFree l (⟨"java/util/ImmutableCollections$List12", "<init>", "(Ljava/lang/Object;)V"⟩ : MethodName) (head1 (Jvm.Cond.code (⟨"java/util/ImmutableCollections$List12", "<init>", "(Ljava/lang/Object;)V"⟩ : MethodName) jdk_44_method_1_code 2 none :: ws) ({ frames := 4, cells := 0, slots := 0, locals := 48 } : Room)) (fun a U => a = #[(.ref a0), (.ref a1)] ∧ Z.Warmed39 U.vm ∧ U.heap = h0) (fun _ _ _ _ _ => True) (fun _ U o U' => ∃ v L, o = .returned v ∧ Q32 Z a0 a1 u_e0_a0 u_e1_a0 w_EMPTY h0 n0 v U'.heap L ∧ FrameEnd U o U' L ({ frames := 4, cells := 0, slots := 0, locals := 48 } : Room).cells ({ frames := 4, cells := 0, slots := 0, locals := 48 } : Room).slots) := by
  refine MetFree.of_bodySF (plainFor_of_name pn_java_util_ImmutableCollections_List12) hisR ?_
  intro p e s m args below meth c s₁ Bd hml0 hP hK
  obtain ⟨rfl, hZ, hh⟩ := hP
  have hx := Bd.exec
  have hby := Bd.bytes
  have hml : c.maxLocals = 2 := hml0
  have hown : s.vm.findClass "java/util/ImmutableCollections$List12" = some m.cls := findClass_of_methodNamed Bd.named
  have hnm := (name_of_methodNamed Bd.named Bd.method).1
  have X0 : Stand p l e ({ frames := 4, cells := 0, slots := 0, locals := 48 } : Room) s m #[(.ref a0), (.ref a1)] below meth c s₁ [] 0 0 := Stand.of_body Bd
  have e0 : s₁.heap = h0 := by rw [← hh, Bd.state]; rfl
  have N0 := Fr.nil n0
  have pre0 : ∀ t, Steps p.tables e below (s₁.setTop (mkF m 0 #[vR a0, vR a1] [])) t → Steps p.tables e below (s₁.setTop (entryFrame m #[(.ref a0), (.ref a1)] 2)) t := fun t k => castTop (ef_32 m a0 a1) k
  obtain ⟨_, _, ⟨T4, L4, k4, n4⟩, -, X4, ⟨Lc4, hQ4, l4, y4, z4⟩, st4⟩ := X0.specialBack hx (y := (⟨"java/util/ImmutableCollections$AbstractImmutableList", "<init>", "()V"⟩ : MethodName)) rfl hown (mvT hZ (hw _ (List.mem_of_getElem? (i := 200) rfl))) (mvT hZ (hw _ (List.mem_of_getElem? (i := 201) rfl))) (mvT hZ (hw _ (List.mem_of_getElem? (i := 205) rfl))) (by decide) (backOf (W := 0) (rm33 l Z A0 hw [] a0 h0 n0 OLD ) hZ (hw _ (List.mem_of_getElem? (i := 205) rfl)) (hw _ (List.mem_of_getElem? (i := 204) rfl)) (by decide) (by decide)) (g := (mkF m 1 #[vR a0, vR a1] [(.ref a0)])) rfl (by rw [hml]; rfl) (Steps.refl _) (a := a0) (argsL := []) (rest := []) (lenOf pd_7 rfl) rfl (by show 2 * 0 + _ ≤ _; exact Nat.le_of_eq rfl) (hb hby d32_1) (fun _ _ => ⟨rfl, e0, (by decide : 0 + 0 ≤ _), (by decide : 0 + 0 ≤ _)⟩)
  dsimp only [Pt.U, Pt.locs, Pt.cells, Pt.slots] at X4 l4 y4 z4 st4 hQ4
  subst l4 y4 z4
  obtain ⟨rfl, N4q, e4⟩ := hQ4
  have N4 := Fr.app N0 N4q
  obtain ⟨_, _, ⟨T5, L5, k5, n5⟩, -, X5, ⟨Lc5, hQ5, l5, y5, z5⟩, st5⟩ := Jvm.LawKit.callS X4 hx (y := (⟨"java/util/Objects", "requireNonNull", "(Ljava/lang/Object;)Ljava/lang/Object;"⟩ : MethodName)) hown (mvT hZ (hw _ (List.mem_of_getElem? (i := 214) rfl))) (mvT hZ (hw _ (List.mem_of_getElem? (i := 215) rfl))) (mvT hZ (hw _ (List.mem_of_getElem? (i := 50) rfl))) (mvT hZ (hw _ (List.mem_of_getElem? (i := 216) rfl))) (by decide) (backOf (W := 1) (rm35 l Z A0 hw [] a1 h0 n0 OLD ) hZ (hw _ (List.mem_of_getElem? (i := 216) rfl)) (hw _ (List.mem_of_getElem? (i := 50) rfl)) (by decide) (by decide)) (g := (mkF m 6 #[vR a0, vR a1] [(.ref a1), (.ref a0)])) rfl (by rw [hml]; rfl) (argsL := [(.ref a1)]) (rest := [(.ref a0)]) (lenOf pd_15 rfl) rfl (by show 2 * 0 + _ ≤ _; exact Nat.le_of_eq rfl) (hb hby d32_6) (fun _ _ => ⟨rfl, e4, (by decide : 0 + 0 ≤ _), (by decide : 0 + 0 ≤ _)⟩)
  dsimp only [Pt.U, Pt.locs, Pt.cells, Pt.slots] at X5 l5 y5 z5 st5 hQ5
  subst l5 y5 z5
  obtain ⟨rfl, N5q, e5⟩ := hQ5
  have N5 := Fr.app N4 N5q
  obtain ⟨T6, h6, X6, e6, W6, st6⟩ := putF X5 hx hZ hown (host := "") (Or.inl (hw _ (List.mem_of_getElem? (i := 217) rfl))) Via.refl e5 f_2 f_1 (Or.inr ⟨(hw _ (List.mem_of_getElem? (i := 218) rfl)), rfl, hnm⟩) (hw _ (List.mem_of_getElem? (i := 194) rfl)) (ty := (.object "java/lang/Object")) (by decide) rfl rfl (g := (mkF m 9 #[vR a0, vR a1] [(.ref a1), (.ref a0)])) rfl rfl (hb hby d32_9)
  have N6 := Fr.snoc X6 N5 ge_a0
  have f_7 := f_2.same W6
  have K_8 : Keep h0 h6 [a0] := (Keep.refl h0 [a0]).wr W6 (Or.inl (List.mem_of_getElem? (i := 0) rfl))
  have O_10 := Old.wr OLD W6 ge_a0
  obtain ⟨T11, X11, e11, st11⟩ := getS2 X6 hx hZ hown (Or.inr (hw _ (List.mem_of_getElem? (i := 219) rfl))) Via.refl e6 (f_9.ext O_10.2) (g := (mkF m 13 #[vR a0, vR a1] [(.ref a0)])) rfl (hb hby d32_13)
  have f_12 := f_1.wr W6
  have f_13 := f_3.other W6 (Or.inr (slot_ne (Or.inr (hw _ (List.mem_of_getElem? (i := 221) rfl))) (Or.inr (hw _ (List.mem_of_getElem? (i := 218) rfl))) (by decide) (t := (.object "java/lang/Object")) (t' := (.object "java/lang/Object")) (by decide) (by decide)))
  obtain ⟨T14, h14, X14, e14, W14, st14⟩ := putF X11 hx hZ hown (host := "") (Or.inl (hw _ (List.mem_of_getElem? (i := 220) rfl))) Via.refl e11 f_13 f_12 (Or.inr ⟨(hw _ (List.mem_of_getElem? (i := 221) rfl)), rfl, hnm⟩) (hw _ (List.mem_of_getElem? (i := 194) rfl)) (ty := (.object "java/lang/Object")) (by decide) rfl rfl (g := (mkF m 16 #[vR a0, vR a1] [(.ref w_EMPTY), (.ref a0)])) rfl rfl (hb hby d32_16)
  have N14 := Fr.snoc X14 N6 ge_a0
  have f_15 := f_13.same W14
  have K_16 : Keep h0 h14 [a0] := K_8.wr W14 (Or.inl (List.mem_of_getElem? (i := 0) rfl))
  have f_17 := f_12.wr W14
  have f_18 := f_7.other W14 (Or.inr (slot_ne (Or.inr (hw _ (List.mem_of_getElem? (i := 218) rfl))) (Or.inr (hw _ (List.mem_of_getElem? (i := 221) rfl))) (by decide) (t := (.object "java/lang/Object")) (t' := (.object "java/lang/Object")) (by decide) (by decide)))
  obtain ⟨fs, hr, hrun, hended, hW, hsame⟩ := X14.leave (v := none) (fun _ => rfl)
  refine ⟨_, _, pre0 _ ?_, hrun, hended, _, _, rfl, ?_, ⟨_, rfl⟩, hW, hsame.mono (by decide) (by decide)⟩
  · show Steps p.tables e below (s₁.setTop (mkF m 0 #[vR a0, vR a1] [])) _
    refine XS.aloadN X0.here hx rfl (hb hby d32_0) rfl rfl ?_
    refine st4.trans ?_
    show Steps p.tables e below (T4.setTop (mkF m 4 #[vR a0, vR a1] [])) _
    refine XS.aloadN X4.here hx rfl (hb hby d32_4) rfl rfl ?_
    refine XS.aloadN X4.here hx rfl (hb hby d32_5) rfl rfl ?_
    show Steps p.tables e below (T4.setTop (mkF m 6 #[vR a0, vR a1] [(.ref a1), (.ref a0)])) _
    refine st5 _ ?_
    refine st6 _ ?_
    show Steps p.tables e below (T6.setTop (mkF m 12 #[vR a0, vR a1] [])) _
    refine XS.aloadN X6.here hx rfl (hb hby d32_12) rfl rfl ?_
    refine st11 _ ?_
    show Steps p.tables e below (T11.setTop (mkF m 16 #[vR a0, vR a1] [(.ref w_EMPTY), (.ref a0)])) _
    refine st14 _ ?_
    show Steps p.tables e below (T14.setTop (mkF m 19 #[vR a0, vR a1] [])) _
    exact X14.returnOut hx Bd.returns (hb hby d32_19) hr
  · show Q32 Z a0 a1 u_e0_a0 u_e1_a0 w_EMPTY h0 n0 _ T14.heap _
    rw [e14]
    exact ⟨rfl, N14, K_16, f_17, f_18, f_15⟩
theorem pd_16 : parseMethodDescriptor "(Ljava/lang/Object;)V" = some ⟨[(.object "java/lang/Object")], none⟩ := by decide +kernel
theorem d31_0 : decode jdk_40_method_47_code 0 = .ok (.aload_n 0, 1) := by decide +kernel
theorem d31_1 : decode jdk_40_method_47_code 1 = .ok (.arraylength, 1) := by decide +kernel
theorem d31_2 : decode jdk_40_method_47_code 2 = .ok (.tableswitch 57 0 2 #[26, 32, 43], 26) := by decide +kernel
theorem d31_34 : decode jdk_40_method_47_code 34 = .ok (.new 96, 3) := by decide +kernel
theorem d31_37 : decode jdk_40_method_47_code 37 = .ok (.dup, 1) := by decide +kernel
theorem d31_38 : decode jdk_40_method_47_code 38 = .ok (.aload_n 0, 1) := by decide +kernel
theorem d31_39 : decode jdk_40_method_47_code 39 = .ok (.iconst 0, 1) := by decide +kernel
theorem d31_40 : decode jdk_40_method_47_code 40 = .ok (.aaload, 1) := by decide +kernel
theorem d31_41 : decode jdk_40_method_47_code 41 = .ok (.invokespecial 98, 3) := by decide +kernel
theorem d31_44 : decode jdk_40_method_47_code 44 = .ok (.areturn, 1) := by decide +kernel
theorem ef_31 (m : MethodId) (x0 : Addr) : entryFrame m #[(.ref x0)] 2 = mkF m 0 #[vR x0, .unset] [] := by first | (simp [entryFrame, mkF, argsToLocals, Value.category]; done) | rfl
def Q31 (Z : State) (f : Addr) (ka : ClassId) (a0 : Addr) (w_EMPTY : Addr) (h0 : Heap) (n0 : Nat) (v : Option Value) (h : Heap) (L : List Loc) : Prop := ∃ b3 : Addr, v = some (.ref b3) ∧ Fr n0 L ∧ Keep h0 h [] ∧ h0.size ≤ b3 ∧ Exa Z h b3 "java/util/ImmutableCollections$List12" ∧ Fld Z h b3 "java/util/ImmutableCollections$List12" "e0" "Ljava/lang/Object;" (.ref f) ∧ Fld Z h b3 "java/util/ImmutableCollections$List12" "e1" "Ljava/lang/Object;" (.ref w_EMPTY)
set_option maxRecDepth 65536 in
set_option maxHeartbeats 40000000 in
theorem rm31 (l : Launch) (Z : State) (A0 : Array Value) (hw : ∀ d ∈ tables_1, d.before A0 Z = true) (ws : List Jvm.Cond) (f : Addr) (ka : ClassId) (a0 : Addr) (w_EMPTY : Addr) (h0 : Heap) (n0 : Nat) (OLD : Old Z n0 h0) (f_1 : Arv Z h0 a0 ka (.object "java/lang/Object") (1 : Int32) [(.ref f)] .null) (f_10 : Sta Z Z.heap "java/util/ImmutableCollections" "EMPTY" "Ljava/lang/Object;" (.ref w_EMPTY)) :
    MetFree l (⟨"java/util/List", "of", "([Ljava/lang/Object;)Ljava/util/List;"⟩ : MethodName) (head1 (Jvm.Cond.code (⟨"java/util/List", "of", "([Ljava/lang/Object;)Ljava/util/List;"⟩ : MethodName) jdk_40_method_47_code 2 (some (.object "java/util/List")) :: ws) ({ frames := 5, cells := 1, slots := 2, locals := 62 } : Room)) (fun a U => a = #[(.ref a0)] ∧ Z.Warmed39 U.vm ∧ U.heap = h0) (fun _ _ _ _ _ => True) (fun _ U o U' => ∃ v L, o = .returned v ∧ Q31 Z f ka a0 w_EMPTY h0 n0 v U'.heap L ∧ FrameEnd U o U' L ({ frames := 5, cells := 1, slots := 2, locals := 62 } : Room).cells ({ frames := 5, cells := 1, slots := 2, locals := 62 } : Room).slots) := by
  refine MetFree.of_bodySF (plainFor_of_name pn_java_util_List) hisR ?_
  intro p e s m args below meth c s₁ Bd hml0 hP hK
  obtain ⟨rfl, hZ, hh⟩ := hP
  have hx := Bd.exec
  have hby := Bd.bytes
  have hml : c.maxLocals = 2 := hml0
  have hown : s.vm.findClass "java/util/List" = some m.cls := findClass_of_methodNamed Bd.named
  have hnm := (name_of_methodNamed Bd.named Bd.method).1
  have X0 : Stand p l e ({ frames := 5, cells := 1, slots := 2, locals := 62 } : Room) s m #[(.ref a0)] below meth c s₁ [] 0 0 := Stand.of_body Bd
  have e0 : s₁.heap = h0 := by rw [← hh, Bd.state]; rfl
  have N0 := Fr.nil n0
  have pre0 : ∀ t, Steps p.tables e below (s₁.setTop (mkF m 0 #[vR a0, .unset] [])) t → Steps p.tables e below (s₁.setTop (entryFrame m #[(.ref a0)] 2)) t := fun t k => castTop (ef_31 m a0) k
  obtain ⟨cl2, Ar2, -, s2, n2, -, -⟩ := id (f_1)
  obtain ⟨T3, h3, X3, e3, E3, A3, D3, M3, st3⟩ := newO X0 hx hZ hown (hw _ (List.mem_of_getElem? (i := 193) rfl)) (hw _ (List.mem_of_getElem? (i := 194) rfl)) (hw _ (List.mem_of_getElem? (i := 195) rfl)) e0 (g := (mkF m 34 #[vR a0, .unset] [])) rfl (hb hby d31_34) (by decide) (by decide)
  obtain ⟨b3, g3⟩ : ∃ z, z = h0.size := ⟨_, rfl⟩
  rw [← g3] at A3 D3 M3 st3
  have K_4 : Keep h0 h3 [] := (Keep.refl h0 []).ext E3
  have f_5 : Fld Z h3 b3 "java/util/ImmutableCollections$List12" "e0" "Ljava/lang/Object;" .null := (D3 (Or.inr (hw _ (List.mem_of_getElem? (i := 218) rfl))) (ty := (.object "java/lang/Object")) (by decide))
  have f_6 : Fld Z h3 b3 "java/util/ImmutableCollections$List12" "e1" "Ljava/lang/Object;" .null := (D3 (Or.inr (hw _ (List.mem_of_getElem? (i := 221) rfl))) (ty := (.object "java/lang/Object")) (by decide))
  have f_7 := f_1.ext E3
  obtain ⟨cl8, Ar8, q8, s8, n8, hh8, gg8⟩ := id (f_7)
  have hin8 : ¬ ((0 : Int32) < 0 ∨ cl8.slots.size ≤ ((0 : Int32)).toNatClampNeg) := inb_of s8 ⟨by decide, by decide⟩
  have hat8 : cl8.slots[((0 : Int32)).toNatClampNeg]? = some (.ref f) := hh8.at hin8 rfl
  have ge_9 : n0 ≤ b3 := own_ge OLD (Nat.le_of_eq g3.symm)
  have O_12 := Old.ext OLD E3
  obtain ⟨_, _, ⟨T11, L11, k11, n11⟩, -, X11, ⟨Lc11, hQ11, l11, y11, z11⟩, st11⟩ := X3.specialBack hx (y := (⟨"java/util/ImmutableCollections$List12", "<init>", "(Ljava/lang/Object;)V"⟩ : MethodName)) rfl hown (mvT hZ (hw _ (List.mem_of_getElem? (i := 196) rfl))) (mvT hZ (hw _ (List.mem_of_getElem? (i := 197) rfl))) (mvT hZ (hw _ (List.mem_of_getElem? (i := 199) rfl))) (by decide) (backOf (W := 1) (rm32 l Z A0 hw [] b3 f .null .null w_EMPTY h3 n0 O_12 A3 f_5 f_6 ge_9 f_10) hZ (hw _ (List.mem_of_getElem? (i := 199) rfl)) (hw _ (List.mem_of_getElem? (i := 195) rfl)) (by decide) (by decide)) (g := (mkF m 41 #[vR a0, .unset] [(.ref f), (.ref b3), (.ref b3)])) rfl (by rw [hml]; rfl) (Steps.refl _) (a := b3) (argsL := [(.ref f)]) (rest := [(.ref b3)]) (lenOf pd_16 rfl) rfl (by show 2 * 0 + _ ≤ _; exact Nat.le_of_eq rfl) (hb hby d31_41) (fun _ _ => ⟨rfl, e3, (by decide : 1 + 0 ≤ _), (by decide : 2 + 0 ≤ _)⟩)
  dsimp only [Pt.U, Pt.locs, Pt.cells, Pt.slots] at X11 l11 y11 z11 st11 hQ11
  subst l11 y11 z11
  obtain ⟨rfl, N11q, K11, g11_0, g11_1, g11_2⟩ := hQ11
  have N11 := Fr.app N0 N11q
  have K_13 : Keep h0 T11.heap [] := Keep.trans K_4 K11 (allS (Or.inr (Nat.le_trans (Keep.refl h0 []).1 (Nat.le_of_eq g3.symm))) all0)
  obtain ⟨fs, hr, hrun, hended, hW, hsame⟩ := X11.leave (v := some (.ref b3)) (fun h => by rw [Bd.returns] at h; cases h)
  refine ⟨_, _, pre0 _ ?_, hrun, hended, _, _, rfl, ?_, ⟨_, rfl⟩, hW, hsame.mono (by decide) (by decide)⟩
  · show Steps p.tables e below (s₁.setTop (mkF m 0 #[vR a0, .unset] [])) _
    refine XS.aloadN X0.here hx rfl (hb hby d31_0) rfl rfl ?_
    refine X0.arraylength hx (by rw [e0]; exact Ar2.1) (State.isArrayOf_alike hZ.alike Ar2.2.1) (g := (mkF m 1 #[vR a0, .unset] [(.ref a0)])) rfl rfl (hb hby d31_1) _ ?_
    rw [len_of s2 n2]
    show Steps p.tables e below (s₁.setTop (mkF m 2 #[vR a0, .unset] [(.int (1 : Int32))])) _
    refine XS.tswIn X0.here hx rfl (pc0 := 2) (pc' := 34) (o := 32) rfl (hb hby d31_2) rfl (by decide) (by decide) (by decide) (by decide) ?_
    refine st3 _ ?_
    show Steps p.tables e below (T3.setTop (mkF m 37 #[vR a0, .unset] [(.ref b3)])) _
    refine XS.dup X3.here hx rfl (hb hby d31_37) rfl rfl ?_
    refine XS.aloadN X3.here hx rfl (hb hby d31_38) rfl rfl ?_
    show Steps p.tables e below (T3.setTop (mkF m 39 #[vR a0, .unset] [(.ref a0), (.ref b3), (.ref b3)])) _
    refine XS.iconst X3.here hx rfl (hb hby d31_39) ?_
    refine X3.aaload hx (j := (0 : Int32)) (v := (.ref f)) (by rw [e3]; exact Ar8.1) (State.isArrayOf_alike hZ.alike Ar8.2.1) rfl Ar8.2.2 hin8 hat8 (g := (mkF m 40 #[vR a0, .unset] [(.int (0 : Int32)), (.ref a0), (.ref b3), (.ref b3)])) rfl rfl (hb hby d31_40) _ ?_
    show Steps p.tables e below (T3.setTop (mkF m 41 #[vR a0, .unset] [(.ref f), (.ref b3), (.ref b3)])) _
    refine st11.trans ?_
    show Steps p.tables e below (T11.setTop (mkF m 44 #[vR a0, .unset] [(.ref b3)])) _
    jvm_step X11.here [X11.here.top, hx, (hb hby d31_44), X11.method', Bd.returns, Value.isRef, FieldType.isReference]
    first | (intro acts; rw [hr _ acts rfl rfl rfl]) | rw [hr _ _ rfl rfl rfl]
    exact Steps.refl _
  · show Q31 Z f ka a0 w_EMPTY h0 n0 _ T11.heap _
    exact ⟨b3, rfl, N11, K_13, (Nat.le_trans (Keep.refl h0 []).1 (Nat.le_of_eq g3.symm)), g11_0, g11_1, g11_2⟩
theorem pd_17 : parseMethodDescriptor "()Z" = some ⟨[], some .boolean⟩ := by decide +kernel
theorem pd_18 : parseMethodDescriptor "()Ljava/util/List;" = some ⟨[], some (.object "java/util/List")⟩ := by decide +kernel
theorem d25_0 : decode jdk_56_method_3_code 0 = .ok (.aload_n 0, 1) := by decide +kernel
theorem d25_1 : decode jdk_56_method_3_code 1 = .ok (.instanceof 10, 3) := by decide +kernel
theorem d25_4 : decode jdk_56_method_3_code 4 = .ok (.ifCond .ne 22, 3) := by decide +kernel
theorem d25_7 : decode jdk_56_method_3_code 7 = .ok (.aload_n 0, 1) := by decide +kernel
theorem d25_8 : decode jdk_56_method_3_code 8 = .ok (.instanceof 12, 3) := by decide +kernel
theorem d25_11 : decode jdk_56_method_3_code 11 = .ok (.ifCond .eq 20, 3) := by decide +kernel
theorem d25_31 : decode jdk_56_method_3_code 31 = .ok (.aload_n 0, 1) := by decide +kernel
theorem d25_32 : decode jdk_56_method_3_code 32 = .ok (.invokeinterface 20 1, 5) := by decide +kernel
theorem d25_37 : decode jdk_56_method_3_code 37 = .ok (.ifCond .eq 7, 3) := by decide +kernel
theorem d25_40 : decode jdk_56_method_3_code 40 = .ok (.invokestatic 26, 3) := by decide +kernel
theorem d25_43 : decode jdk_56_method_3_code 43 = .ok (.areturn, 1) := by decide +kernel
theorem pn_java_util_ImmutableCollections : plainName "java/util/ImmutableCollections" = true := by first | (simp [plainName, overriddenIn]; done) | decide +kernel
theorem ef_25 (m : MethodId) (x0 : Addr) : entryFrame m #[(.ref x0)] 2 = mkF m 0 #[vR x0, .unset] [] := by first | (simp [entryFrame, mkF, argsToLocals, Value.category]; done) | rfl
def Q25e (Z : State) (a0 : Addr) (w_EMPTY_LIST : Addr) (h0 : Heap) (n0 : Nat) (v : Option Value) (h : Heap) (L : List Loc) : Prop := v = some (.ref w_EMPTY_LIST) ∧ Fr n0 L ∧ h = h0
set_option maxRecDepth 65536 in
set_option maxHeartbeats 40000000 in
theorem rm25e (l : Launch) (Z : State) (A0 : Array Value) (hw : ∀ d ∈ tables_1, d.before A0 Z = true) (ws : List Jvm.Cond) (a0 : Addr) (w_EMPTY_LIST : Addr) (h0 : Heap) (n0 : Nat) (OLD : Old Z n0 h0) (f_1 : Exa Z h0 a0 "java/util/ArrayList") (f_2 : Fld Z h0 a0 "java/util/ArrayList" "size" "I" (.int (0 : Int32))) (f_6 : Sta Z Z.heap "java/util/ImmutableCollections" "EMPTY_LIST" "Ljava/util/ImmutableCollections$ListN;" (.ref w_EMPTY_LIST)) :
    MetFree l (⟨"java/util/ImmutableCollections", "listCopy", "(Ljava/util/Collection;)Ljava/util/List;"⟩ : MethodName) (head1 (Jvm.Cond.code (⟨"java/util/ImmutableCollections", "listCopy", "(Ljava/util/Collection;)Ljava/util/List;"⟩ : MethodName) jdk_56_method_3_code 2 (some (.object "java/util/List")) :: ws) ({ frames := 1, cells := 0, slots := 0, locals := 12 } : Room)) (fun a U => a = #[(.ref a0)] ∧ Z.Warmed39 U.vm ∧ U.heap = h0) (fun _ _ _ _ _ => True) (fun _ U o U' => ∃ v L, o = .returned v ∧ Q25e Z a0 w_EMPTY_LIST h0 n0 v U'.heap L ∧ FrameEnd U o U' L ({ frames := 1, cells := 0, slots := 0, locals := 12 } : Room).cells ({ frames := 1, cells := 0, slots := 0, locals := 12 } : Room).slots) := by
  refine MetFree.of_bodySF (plainFor_of_name pn_java_util_ImmutableCollections) hisR ?_
  intro p e s m args below meth c s₁ Bd hml0 hP hK
  obtain ⟨rfl, hZ, hh⟩ := hP
  have hx := Bd.exec
  have hby := Bd.bytes
  have hml : c.maxLocals = 2 := hml0
  have hown : s.vm.findClass "java/util/ImmutableCollections" = some m.cls := findClass_of_methodNamed Bd.named
  have hnm := (name_of_methodNamed Bd.named Bd.method).1
  have X0 : Stand p l e ({ frames := 1, cells := 0, slots := 0, locals := 12 } : Room) s m #[(.ref a0)] below meth c s₁ [] 0 0 := Stand.of_body Bd
  have e0 : s₁.heap = h0 := by rw [← hh, Bd.state]; rfl
  have N0 := Fr.nil n0
  have pre0 : ∀ t, Steps p.tables e below (s₁.setTop (mkF m 0 #[vR a0, .unset] [])) t → Steps p.tables e below (s₁.setTop (entryFrame m #[(.ref a0)] 2)) t := fun t k => castTop (ef_25 m a0) k
  obtain ⟨T3, X3, e3, st3⟩ := instNo X0 hx hZ hown (hw _ (List.mem_of_getElem? (i := 145) rfl)) e0 f_1 (own_NSno (hw _ (List.mem_of_getElem? (i := 146) rfl)) (hw _ (List.mem_of_getElem? (i := 194) rfl)) (NS.step (hw _ (List.mem_of_getElem? (i := 146) rfl)) (NS.step (hw _ (List.mem_of_getElem? (i := 147) rfl)) (NS.step (hw _ (List.mem_of_getElem? (i := 148) rfl)) (own_NSroot (hw _ (List.mem_of_getElem? (i := 149) rfl)) (hw _ (List.mem_of_getElem? (i := 194) rfl)) (by decide)) (by decide)) (by decide)) (by decide)) (by decide)) (g := (mkF m 1 #[vR a0, .unset] [(.ref a0)])) rfl rfl (hb hby d25_1)
  obtain ⟨T4, X4, e4, st4⟩ := instNo X3 hx hZ hown (hw _ (List.mem_of_getElem? (i := 150) rfl)) e3 f_1 (NS.no (hw _ (List.mem_of_getElem? (i := 146) rfl)) (hw _ (List.mem_of_getElem? (i := 247) rfl)) (NS.step (hw _ (List.mem_of_getElem? (i := 146) rfl)) (NS.step (hw _ (List.mem_of_getElem? (i := 147) rfl)) (NS.step (hw _ (List.mem_of_getElem? (i := 148) rfl)) (NS.root (hw _ (List.mem_of_getElem? (i := 149) rfl)) (hw _ (List.mem_of_getElem? (i := 247) rfl)) (by decide)) (by decide)) (by decide)) (by decide)) (by decide)) (g := (mkF m 8 #[vR a0, .unset] [(.ref a0)])) rfl rfl (hb hby d25_8)
  obtain ⟨cq5, kq5, q5a, q5b, q5c⟩ := isOf hZ e4 f_1
  obtain ⟨_, _, ⟨T5, L5, k5, n5⟩, -, X5, ⟨Lc5, hQ5, l5, y5, z5⟩, st5⟩ := X4.interfaceBack hx (xi := (⟨"java/util/Collection", "isEmpty", "()Z"⟩ : MethodName)) (y := (⟨"java/util/ArrayList", "isEmpty", "()Z"⟩ : MethodName)) hown (mvT hZ (hw _ (List.mem_of_getElem? (i := 151) rfl))) (mvT hZ (hw _ (List.mem_of_getElem? (i := 152) rfl))) (mvT hZ (hw _ (List.mem_of_getElem? (i := 153) rfl))) (mvT hZ (hw _ (List.mem_of_getElem? (i := 154) rfl))) (mvT hZ (hw _ (List.mem_of_getElem? (i := 155) rfl))) (mvT hZ (hw _ (List.mem_of_getElem? (i := 156) rfl))) (mvT hZ (hw _ (List.mem_of_getElem? (i := 157) rfl))) (mvT hZ (hw _ (List.mem_of_getElem? (i := 158) rfl))) (by decide) (backOf (W := 0) (rm26s0 l Z A0 hw [] a0 h0 n0 OLD f_2) hZ (hw _ (List.mem_of_getElem? (i := 159) rfl)) (hw _ (List.mem_of_getElem? (i := 77) rfl)) (by decide) (by decide)) q5a q5b q5c (g := (mkF m 32 #[vR a0, .unset] [(.ref a0)])) rfl (by rw [hml]; rfl) (Steps.refl _) (argsL := []) (rest := []) (lenOf pd_17 rfl) rfl (by show 2 * 0 + _ ≤ _; exact Nat.le_of_eq rfl) (hb hby d25_32) (fun _ _ => ⟨rfl, e4, (by decide : 0 + 0 ≤ _), (by decide : 0 + 0 ≤ _)⟩)
  dsimp only [Pt.U, Pt.locs, Pt.cells, Pt.slots] at X5 l5 y5 z5 st5 hQ5
  subst l5 y5 z5
  obtain ⟨rfl, N5q, e5⟩ := hQ5
  have N5 := Fr.app N0 N5q
  obtain ⟨_, _, ⟨T7, L7, k7, n7⟩, -, X7, ⟨Lc7, hQ7, l7, y7, z7⟩, st7⟩ := Jvm.LawKit.callS X5 hx (y := (⟨"java/util/List", "of", "()Ljava/util/List;"⟩ : MethodName)) hown (mvT hZ (hw _ (List.mem_of_getElem? (i := 237) rfl))) (mvT hZ (hw _ (List.mem_of_getElem? (i := 238) rfl))) (mvT hZ (hw _ (List.mem_of_getElem? (i := 139) rfl))) (mvT hZ (hw _ (List.mem_of_getElem? (i := 239) rfl))) (by decide) (backOf (W := 0) (rm37 l Z A0 hw [] w_EMPTY_LIST h0 n0 OLD f_6) hZ (hw _ (List.mem_of_getElem? (i := 239) rfl)) (hw _ (List.mem_of_getElem? (i := 139) rfl)) (by decide) (by decide)) (g := (mkF m 40 #[vR a0, .unset] [])) rfl (by rw [hml]; rfl) (argsL := []) (rest := []) (lenOf pd_18 rfl) rfl (by show 2 * 0 + _ ≤ _; exact Nat.le_of_eq rfl) (hb hby d25_40) (fun _ _ => ⟨rfl, e5, (by decide : 0 + 0 ≤ _), (by decide : 0 + 0 ≤ _)⟩)
  dsimp only [Pt.U, Pt.locs, Pt.cells, Pt.slots] at X7 l7 y7 z7 st7 hQ7
  subst l7 y7 z7
  obtain ⟨rfl, N7q, e7⟩ := hQ7
  have N7 := Fr.app N5 N7q
  obtain ⟨fs, hr, hrun, hended, hW, hsame⟩ := X7.leave (v := some (.ref w_EMPTY_LIST)) (fun h => by rw [Bd.returns] at h; cases h)
  refine ⟨_, _, pre0 _ ?_, hrun, hended, _, _, rfl, ?_, ⟨_, rfl⟩, hW, hsame.mono (by decide) (by decide)⟩
  · show Steps p.tables e below (s₁.setTop (mkF m 0 #[vR a0, .unset] [])) _
    refine XS.aloadN X0.here hx rfl (hb hby d25_0) rfl rfl ?_
    refine st3 _ ?_
    show Steps p.tables e below (T3.setTop (mkF m 4 #[vR a0, .unset] [(.int (0 : Int32))])) _
    refine XS.ifNo X3.here hx rfl (hb hby d25_4) rfl ((if0 _ _).trans (teq (by decide : (0 : Int32) = (0 : Int32))).2) ?_
    refine XS.aloadN X3.here hx rfl (hb hby d25_7) rfl rfl ?_
    show Steps p.tables e below (T3.setTop (mkF m 8 #[vR a0, .unset] [(.ref a0)])) _
    refine st4 _ ?_
    refine XS.ifYes X4.here hx rfl (pc0 := 11) (pc' := 31) rfl (hb hby d25_11) rfl ((if0 _ _).trans (teq (by decide : (0 : Int32) = (0 : Int32))).1) (by decide) (by decide) ?_
    show Steps p.tables e below (T4.setTop (mkF m 31 #[vR a0, .unset] [])) _
    refine XS.aloadN X4.here hx rfl (hb hby d25_31) rfl rfl ?_
    refine st5.trans ?_
    show Steps p.tables e below (T5.setTop (mkF m 37 #[vR a0, .unset] [(.int (1 : Int32))])) _
    refine XS.ifNo X5.here hx rfl (hb hby d25_37) rfl ((if0 _ _).trans (feq (by decide : ¬ ((1 : Int32) = (0 : Int32)))).1) ?_
    refine st7 _ ?_
    show Steps p.tables e below (T7.setTop (mkF m 43 #[vR a0, .unset] [(.ref w_EMPTY_LIST)])) _
    jvm_step X7.here [X7.here.top, hx, (hb hby d25_43), X7.method', Bd.returns, Value.isRef, FieldType.isReference]
    first | (intro acts; rw [hr _ acts rfl rfl rfl]) | rw [hr _ _ rfl rfl rfl]
    exact Steps.refl _
  · show Q25e Z a0 w_EMPTY_LIST h0 n0 _ T7.heap _
    rw [e7]
    exact ⟨rfl, N7, rfl⟩
theorem pd_19 : parseMethodDescriptor "([Ljava/lang/Object;)Ljava/util/List;" = some ⟨[(.array (.object "java/lang/Object"))], some (.object "java/util/List")⟩ := by decide +kernel
theorem d25_44 : decode jdk_56_method_3_code 44 = .ok (.aload_n 0, 1) := by decide +kernel
theorem d25_45 : decode jdk_56_method_3_code 45 = .ok (.invokeinterface 30 1, 5) := by decide +kernel
theorem d25_50 : decode jdk_56_method_3_code 50 = .ok (.invokestatic 34, 3) := by decide +kernel
theorem d25_53 : decode jdk_56_method_3_code 53 = .ok (.areturn, 1) := by decide +kernel
def Q25f (Z : State) (f : Addr) (ka : ClassId) (d : Addr) (a0 : Addr) (w_mir__Ljava_lang_Object_ : Addr) (w_EMPTY : Addr) (h0 : Heap) (n0 : Nat) (v : Option Value) (h : Heap) (L : List Loc) : Prop := ∃ b3_14 : Addr, v = some (.ref b3_14) ∧ Fr n0 L ∧ Keep h0 h [] ∧ h0.size ≤ b3_14 ∧ Exa Z h b3_14 "java/util/ImmutableCollections$List12"
set_option maxRecDepth 65536 in
set_option maxHeartbeats 40000000 in
theorem rm25f (l : Launch) (Z : State) (A0 : Array Value) (hw : ∀ d ∈ tables_1, d.before A0 Z = true) (ws : List Jvm.Cond) (f : Addr) (ka : ClassId) (d : Addr) (a0 : Addr) (w_mir__Ljava_lang_Object_ : Addr) (w_EMPTY : Addr) (h0 : Heap) (n0 : Nat) (OLD : Old Z n0 h0) (f_1 : Exa Z h0 a0 "java/util/ArrayList") (f_2 : Fld Z h0 a0 "java/util/ArrayList" "elementData" "[Ljava/lang/Object;" (.ref d)) (f_3 : Fld Z h0 a0 "java/util/ArrayList" "size" "I" (.int (1 : Int32))) (f_4 : Arv Z h0 d ka (.object "java/lang/Object") (10 : Int32) [(.ref f), .null, .null, .null, .null, .null, .null, .null, .null, .null] .null) (f_5 : Exa Z h0 d "[Ljava/lang/Object;") (f_6 : Exa Z h0 f "com/example/deposita/deposita/core/Finding") (c_10 : own_Mir Z "[Ljava/lang/Object;" w_mir__Ljava_lang_Object_) (f_13 : Sta Z Z.heap "java/util/ImmutableCollections" "EMPTY" "Ljava/lang/Object;" (.ref w_EMPTY)) :
    MetFree l (⟨"java/util/ImmutableCollections", "listCopy", "(Ljava/util/Collection;)Ljava/util/List;"⟩ : MethodName) (head1 (Jvm.Cond.code (⟨"java/util/ImmutableCollections", "listCopy", "(Ljava/util/Collection;)Ljava/util/List;"⟩ : MethodName) jdk_56_method_3_code 2 (some (.object "java/util/List")) :: ws) ({ frames := 6, cells := 2, slots := 3, locals := 80 } : Room)) (fun a U => a = #[(.ref a0)] ∧ Z.Warmed39 U.vm ∧ U.heap = h0) (fun _ _ _ _ _ => True) (fun _ U o U' => ∃ v L, o = .returned v ∧ Q25f Z f ka d a0 w_mir__Ljava_lang_Object_ w_EMPTY h0 n0 v U'.heap L ∧ FrameEnd U o U' L ({ frames := 6, cells := 2, slots := 3, locals := 80 } : Room).cells ({ frames := 6, cells := 2, slots := 3, locals := 80 } : Room).slots) := by
  refine MetFree.of_bodySF (plainFor_of_name pn_java_util_ImmutableCollections) hisR ?_
  intro p e s m args below meth c s₁ Bd hml0 hP hK
  obtain ⟨rfl, hZ, hh⟩ := hP
  have hx := Bd.exec
  have hby := Bd.bytes
  have hml : c.maxLocals = 2 := hml0
  have hown : s.vm.findClass "java/util/ImmutableCollections" = some m.cls := findClass_of_methodNamed Bd.named
  have hnm := (name_of_methodNamed Bd.named Bd.method).1
  have X0 : Stand p l e ({ frames := 6, cells := 2, slots := 3, locals := 80 } : Room) s m #[(.ref a0)] below meth c s₁ [] 0 0 := Stand.of_body Bd
  have e0 : s₁.heap = h0 := by rw [← hh, Bd.state]; rfl
  have N0 := Fr.nil n0
  have pre0 : ∀ t, Steps p.tables e below (s₁.setTop (mkF m 0 #[vR a0, .unset] [])) t → Steps p.tables e below (s₁.setTop (entryFrame m #[(.ref a0)] 2)) t := fun t k => castTop (ef_25 m a0) k
  obtain ⟨T7, X7, e7, st7⟩ := instNo X0 hx hZ hown (hw _ (List.mem_of_getElem? (i := 145) rfl)) e0 f_1 (own_NSno (hw _ (List.mem_of_getElem? (i := 146) rfl)) (hw _ (List.mem_of_getElem? (i := 194) rfl)) (NS.step (hw _ (List.mem_of_getElem? (i := 146) rfl)) (NS.step (hw _ (List.mem_of_getElem? (i := 147) rfl)) (NS.step (hw _ (List.mem_of_getElem? (i := 148) rfl)) (own_NSroot (hw _ (List.mem_of_getElem? (i := 149) rfl)) (hw _ (List.mem_of_getElem? (i := 194) rfl)) (by decide)) (by decide)) (by decide)) (by decide)) (by decide)) (g := (mkF m 1 #[vR a0, .unset] [(.ref a0)])) rfl rfl (hb hby d25_1)
  obtain ⟨T8, X8, e8, st8⟩ := instNo X7 hx hZ hown (hw _ (List.mem_of_getElem? (i := 150) rfl)) e7 f_1 (NS.no (hw _ (List.mem_of_getElem? (i := 146) rfl)) (hw _ (List.mem_of_getElem? (i := 247) rfl)) (NS.step (hw _ (List.mem_of_getElem? (i := 146) rfl)) (NS.step (hw _ (List.mem_of_getElem? (i := 147) rfl)) (NS.step (hw _ (List.mem_of_getElem? (i := 148) rfl)) (NS.root (hw _ (List.mem_of_getElem? (i := 149) rfl)) (hw _ (List.mem_of_getElem? (i := 247) rfl)) (by decide)) (by decide)) (by decide)) (by decide)) (by decide)) (g := (mkF m 8 #[vR a0, .unset] [(.ref a0)])) rfl rfl (hb hby d25_8)
  obtain ⟨cq9, kq9, q9a, q9b, q9c⟩ := isOf hZ e8 f_1
  obtain ⟨_, _, ⟨T9, L9, k9, n9⟩, -, X9, ⟨Lc9, hQ9, l9, y9, z9⟩, st9⟩ := X8.interfaceBack hx (xi := (⟨"java/util/Collection", "isEmpty", "()Z"⟩ : MethodName)) (y := (⟨"java/util/ArrayList", "isEmpty", "()Z"⟩ : MethodName)) hown (mvT hZ (hw _ (List.mem_of_getElem? (i := 151) rfl))) (mvT hZ (hw _ (List.mem_of_getElem? (i := 152) rfl))) (mvT hZ (hw _ (List.mem_of_getElem? (i := 153) rfl))) (mvT hZ (hw _ (List.mem_of_getElem? (i := 154) rfl))) (mvT hZ (hw _ (List.mem_of_getElem? (i := 155) rfl))) (mvT hZ (hw _ (List.mem_of_getElem? (i := 156) rfl))) (mvT hZ (hw _ (List.mem_of_getElem? (i := 157) rfl))) (mvT hZ (hw _ (List.mem_of_getElem? (i := 158) rfl))) (by decide) (backOf (W := 0) (rm26s1 l Z A0 hw [] a0 h0 n0 OLD f_3) hZ (hw _ (List.mem_of_getElem? (i := 159) rfl)) (hw _ (List.mem_of_getElem? (i := 77) rfl)) (by decide) (by decide)) q9a q9b q9c (g := (mkF m 32 #[vR a0, .unset] [(.ref a0)])) rfl (by rw [hml]; rfl) (Steps.refl _) (argsL := []) (rest := []) (lenOf pd_17 rfl) rfl (by show 2 * 0 + _ ≤ _; exact Nat.le_of_eq rfl) (hb hby d25_32) (fun _ _ => ⟨rfl, e8, (by decide : 0 + 0 ≤ _), (by decide : 0 + 0 ≤ _)⟩)
  dsimp only [Pt.U, Pt.locs, Pt.cells, Pt.slots] at X9 l9 y9 z9 st9 hQ9
  subst l9 y9 z9
  obtain ⟨rfl, N9q, e9⟩ := hQ9
  have N9 := Fr.app N0 N9q
  obtain ⟨cq11, kq11, q11a, q11b, q11c⟩ := isOf hZ e9 f_1
  obtain ⟨_, _, ⟨T11, L11, k11, n11⟩, -, X11, ⟨Lc11, hQ11, l11, y11, z11⟩, st11⟩ := X9.interfaceBack hx (xi := (⟨"java/util/Collection", "toArray", "()[Ljava/lang/Object;"⟩ : MethodName)) (y := (⟨"java/util/ArrayList", "toArray", "()[Ljava/lang/Object;"⟩ : MethodName)) hown (mvT hZ (hw _ (List.mem_of_getElem? (i := 160) rfl))) (mvT hZ (hw _ (List.mem_of_getElem? (i := 161) rfl))) (mvT hZ (hw _ (List.mem_of_getElem? (i := 162) rfl))) (mvT hZ (hw _ (List.mem_of_getElem? (i := 163) rfl))) (mvT hZ (hw _ (List.mem_of_getElem? (i := 164) rfl))) (mvT hZ (hw _ (List.mem_of_getElem? (i := 165) rfl))) (mvT hZ (hw _ (List.mem_of_getElem? (i := 166) rfl))) (mvT hZ (hw _ (List.mem_of_getElem? (i := 158) rfl))) (by decide) (backOf (W := 0) (rm27 l Z A0 hw [] f ka d a0 w_mir__Ljava_lang_Object_ h0 n0 OLD f_1 f_2 f_3 f_4 f_5 f_6 c_10) hZ (hw _ (List.mem_of_getElem? (i := 167) rfl)) (hw _ (List.mem_of_getElem? (i := 77) rfl)) (by decide) (by decide)) q11a q11b q11c (g := (mkF m 45 #[vR a0, .unset] [(.ref a0)])) rfl (by rw [hml]; rfl) (Steps.refl _) (argsL := []) (rest := []) (lenOf pd_11 rfl) rfl (by show 2 * 0 + _ ≤ _; exact Nat.le_of_eq rfl) (hb hby d25_45) (fun _ _ => ⟨rfl, e9, (by decide : 0 + 1 ≤ _), (by decide : 0 + 1 ≤ _)⟩)
  dsimp only [Pt.U, Pt.locs, Pt.cells, Pt.slots] at X11 l11 y11 z11 st11 hQ11
  subst l11 y11 z11
  obtain ⟨b6_6_10_11, k6_6_10_11, rfl, N11q, K11, g11_0, g11_1, g11_2, g11_3⟩ := hQ11
  have N11 := Fr.app N9 N11q
  have K_12 : Keep h0 T11.heap [] := Keep.trans (Keep.refl h0 []) K11 all0
  have O_15 := Old.keep OLD K11 all0
  obtain ⟨_, _, ⟨T14, L14, k14, n14⟩, -, X14, ⟨Lc14, hQ14, l14, y14, z14⟩, st14⟩ := Jvm.LawKit.callS X11 hx (y := (⟨"java/util/List", "of", "([Ljava/lang/Object;)Ljava/util/List;"⟩ : MethodName)) hown (mvT hZ (hw _ (List.mem_of_getElem? (i := 190) rfl))) (mvT hZ (hw _ (List.mem_of_getElem? (i := 191) rfl))) (mvT hZ (hw _ (List.mem_of_getElem? (i := 139) rfl))) (mvT hZ (hw _ (List.mem_of_getElem? (i := 192) rfl))) (by decide) (backOf (W := 0) (rm31 l Z A0 hw [] f k6_6_10_11 b6_6_10_11 w_EMPTY T11.heap n0 O_15 g11_2 f_13) hZ (hw _ (List.mem_of_getElem? (i := 192) rfl)) (hw _ (List.mem_of_getElem? (i := 139) rfl)) (by decide) (by decide)) (g := (mkF m 50 #[vR a0, .unset] [(.ref b6_6_10_11)])) rfl (by rw [hml]; rfl) (argsL := [(.ref b6_6_10_11)]) (rest := []) (lenOf pd_19 rfl) rfl (by show 2 * 0 + _ ≤ _; exact Nat.le_of_eq rfl) (hb hby d25_50) (fun _ _ => ⟨rfl, rfl, (by decide : 1 + 1 ≤ _), (by decide : 1 + 2 ≤ _)⟩)
  dsimp only [Pt.U, Pt.locs, Pt.cells, Pt.slots] at X14 l14 y14 z14 st14 hQ14
  subst l14 y14 z14
  obtain ⟨b3_14, rfl, N14q, K14, g14_0, g14_1, g14_2, g14_3⟩ := hQ14
  have N14 := Fr.app N11 N14q
  have K_16 : Keep h0 T14.heap [] := Keep.trans K_12 K14 all0
  obtain ⟨fs, hr, hrun, hended, hW, hsame⟩ := X14.leave (v := some (.ref b3_14)) (fun h => by rw [Bd.returns] at h; cases h)
  refine ⟨_, _, pre0 _ ?_, hrun, hended, _, _, rfl, ?_, ⟨_, rfl⟩, hW, hsame.mono (by decide) (by decide)⟩
  · show Steps p.tables e below (s₁.setTop (mkF m 0 #[vR a0, .unset] [])) _
    refine XS.aloadN X0.here hx rfl (hb hby d25_0) rfl rfl ?_
    refine st7 _ ?_
    show Steps p.tables e below (T7.setTop (mkF m 4 #[vR a0, .unset] [(.int (0 : Int32))])) _
    refine XS.ifNo X7.here hx rfl (hb hby d25_4) rfl ((if0 _ _).trans (teq (by decide : (0 : Int32) = (0 : Int32))).2) ?_
    refine XS.aloadN X7.here hx rfl (hb hby d25_7) rfl rfl ?_
    show Steps p.tables e below (T7.setTop (mkF m 8 #[vR a0, .unset] [(.ref a0)])) _
    refine st8 _ ?_
    refine XS.ifYes X8.here hx rfl (pc0 := 11) (pc' := 31) rfl (hb hby d25_11) rfl ((if0 _ _).trans (teq (by decide : (0 : Int32) = (0 : Int32))).1) (by decide) (by decide) ?_
    show Steps p.tables e below (T8.setTop (mkF m 31 #[vR a0, .unset] [])) _
    refine XS.aloadN X8.here hx rfl (hb hby d25_31) rfl rfl ?_
    refine st9.trans ?_
    show Steps p.tables e below (T9.setTop (mkF m 37 #[vR a0, .unset] [(.int (0 : Int32))])) _
    refine XS.ifYes X9.here hx rfl (pc0 := 37) (pc' := 44) rfl (hb hby d25_37) rfl ((if0 _ _).trans (teq (by decide : (0 : Int32) = (0 : Int32))).1) (by decide) (by decide) ?_
    refine XS.aloadN X9.here hx rfl (hb hby d25_44) rfl rfl ?_
    show Steps p.tables e below (T9.setTop (mkF m 45 #[vR a0, .unset] [(.ref a0)])) _
    refine st11.trans ?_
    refine st14 _ ?_
    show Steps p.tables e below (T14.setTop (mkF m 53 #[vR a0, .unset] [(.ref b3_14)])) _
    jvm_step X14.here [X14.here.top, hx, (hb hby d25_53), X14.method', Bd.returns, Value.isRef, FieldType.isReference]
    first | (intro acts; rw [hr _ acts rfl rfl rfl]) | rw [hr _ _ rfl rfl rfl]
    exact Steps.refl _
  · show Q25f Z f ka d a0 w_mir__Ljava_lang_Object_ w_EMPTY h0 n0 _ T14.heap _
    exact ⟨b3_14, rfl, N14, K_16, (Nat.le_trans K_12.1 g14_0), g14_1⟩
theorem d25_14 : decode jdk_56_method_3_code 14 = .ok (.aload_n 0, 1) := by decide +kernel
theorem d25_15 : decode jdk_56_method_3_code 15 = .ok (.checkcast 12, 3) := by decide +kernel
theorem d25_18 : decode jdk_56_method_3_code 18 = .ok (.astore_n 1, 1) := by decide +kernel
theorem d25_19 : decode jdk_56_method_3_code 19 = .ok (.aload_n 1, 1) := by decide +kernel
theorem d25_20 : decode jdk_56_method_3_code 20 = .ok (.getfield 14, 3) := by decide +kernel
theorem d25_23 : decode jdk_56_method_3_code 23 = .ok (.ifCond .ne 8, 3) := by decide +kernel
theorem d25_26 : decode jdk_56_method_3_code 26 = .ok (.aload_n 0, 1) := by decide +kernel
theorem d25_27 : decode jdk_56_method_3_code 27 = .ok (.checkcast 18, 3) := by decide +kernel
theorem d25_30 : decode jdk_56_method_3_code 30 = .ok (.areturn, 1) := by decide +kernel
def Q25n (Z : State) (a0 : Addr) (h0 : Heap) (n0 : Nat) (v : Option Value) (h : Heap) (L : List Loc) : Prop := v = some (.ref a0) ∧ Fr n0 L ∧ h = h0
set_option maxRecDepth 65536 in
set_option maxHeartbeats 40000000 in
theorem rm25n (l : Launch) (Z : State) (A0 : Array Value) (hw : ∀ d ∈ tables_1, d.before A0 Z = true) (ws : List Jvm.Cond) (a0 : Addr) (h0 : Heap) (n0 : Nat) (OLD : Old Z n0 h0) (f_1 : Exa Z Z.heap a0 "java/util/ImmutableCollections$ListN") (f_2 : Fld Z Z.heap a0 "java/util/ImmutableCollections$ListN" "allowNulls" "Z" (.int (0 : Int32))) :
    MetFree l (⟨"java/util/ImmutableCollections", "listCopy", "(Ljava/util/Collection;)Ljava/util/List;"⟩ : MethodName) (head1 (Jvm.Cond.code (⟨"java/util/ImmutableCollections", "listCopy", "(Ljava/util/Collection;)Ljava/util/List;"⟩ : MethodName) jdk_56_method_3_code 2 (some (.object "java/util/List")) :: ws) ({ frames := 0, cells := 0, slots := 0, locals := 0 } : Room)) (fun a U => a = #[(.ref a0)] ∧ Z.Warmed39 U.vm ∧ U.heap = h0) (fun _ _ _ _ _ => True) (fun _ U o U' => ∃ v L, o = .returned v ∧ Q25n Z a0 h0 n0 v U'.heap L ∧ FrameEnd U o U' L ({ frames := 0, cells := 0, slots := 0, locals := 0 } : Room).cells ({ frames := 0, cells := 0, slots := 0, locals := 0 } : Room).slots) := by
  refine MetFree.of_bodySF (plainFor_of_name pn_java_util_ImmutableCollections) hisR ?_
  intro p e s m args below meth c s₁ Bd hml0 hP hK
  obtain ⟨rfl, hZ, hh⟩ := hP
  have hx := Bd.exec
  have hby := Bd.bytes
  have hml : c.maxLocals = 2 := hml0
  have hown : s.vm.findClass "java/util/ImmutableCollections" = some m.cls := findClass_of_methodNamed Bd.named
  have hnm := (name_of_methodNamed Bd.named Bd.method).1
  have X0 : Stand p l e ({ frames := 0, cells := 0, slots := 0, locals := 0 } : Room) s m #[(.ref a0)] below meth c s₁ [] 0 0 := Stand.of_body Bd
  have e0 : s₁.heap = h0 := by rw [← hh, Bd.state]; rfl
  have N0 := Fr.nil n0
  have pre0 : ∀ t, Steps p.tables e below (s₁.setTop (mkF m 0 #[vR a0, .unset] [])) t → Steps p.tables e below (s₁.setTop (entryFrame m #[(.ref a0)] 2)) t := fun t k => castTop (ef_25 m a0) k
  obtain ⟨T3, X3, e3, st3⟩ := instNo X0 hx hZ hown (hw _ (List.mem_of_getElem? (i := 145) rfl)) e0 (f_1.ext OLD.2) (own_NSno (hw _ (List.mem_of_getElem? (i := 247) rfl)) (hw _ (List.mem_of_getElem? (i := 194) rfl)) (NS.step (hw _ (List.mem_of_getElem? (i := 247) rfl)) (NS.step (hw _ (List.mem_of_getElem? (i := 248) rfl)) (NS.step (hw _ (List.mem_of_getElem? (i := 249) rfl)) (NS.step (hw _ (List.mem_of_getElem? (i := 148) rfl)) (own_NSroot (hw _ (List.mem_of_getElem? (i := 149) rfl)) (hw _ (List.mem_of_getElem? (i := 194) rfl)) (by decide)) (by decide)) (by decide)) (by decide)) (by decide)) (by decide)) (g := (mkF m 1 #[vR a0, .unset] [(.ref a0)])) rfl rfl (hb hby d25_1)
  obtain ⟨T4, X4, e4, st4⟩ := instY X3 hx hZ hown (hw _ (List.mem_of_getElem? (i := 150) rfl)) e3 (Ins.self (f_1.ext OLD.2)) (g := (mkF m 8 #[vR a0, .unset] [(.ref a0)])) rfl rfl (hb hby d25_8)
  obtain ⟨T5, X5, e5, st5⟩ := castY X4 hx hZ hown (hw _ (List.mem_of_getElem? (i := 150) rfl)) e4 (Ins.self (f_1.ext OLD.2)) (g := (mkF m 15 #[vR a0, .unset] [(.ref a0)])) rfl rfl (hb hby d25_15)
  obtain ⟨T6, X6, e6, st6⟩ := getF X5 hx hZ hown (Or.inr (hw _ (List.mem_of_getElem? (i := 251) rfl))) Via.refl e5 (f_2.ext OLD.2) (g := (mkF m 20 #[vR a0, vR a0] [(.ref a0)])) rfl rfl (hb hby d25_20)
  obtain ⟨T7, X7, e7, st7⟩ := castY X6 hx hZ hown (hw _ (List.mem_of_getElem? (i := 253) rfl)) e6 (Ins.of_exa (f_1.ext OLD.2) (hw _ (List.mem_of_getElem? (i := 254) rfl))) (g := (mkF m 27 #[vR a0, vR a0] [(.ref a0)])) rfl rfl (hb hby d25_27)
  obtain ⟨fs, hr, hrun, hended, hW, hsame⟩ := X7.leave (v := some (.ref a0)) (fun h => by rw [Bd.returns] at h; cases h)
  refine ⟨_, _, pre0 _ ?_, hrun, hended, _, _, rfl, ?_, ⟨_, rfl⟩, hW, hsame.mono (by decide) (by decide)⟩
  · show Steps p.tables e below (s₁.setTop (mkF m 0 #[vR a0, .unset] [])) _
    refine XS.aloadN X0.here hx rfl (hb hby d25_0) rfl rfl ?_
    refine st3 _ ?_
    show Steps p.tables e below (T3.setTop (mkF m 4 #[vR a0, .unset] [(.int (0 : Int32))])) _
    refine XS.ifNo X3.here hx rfl (hb hby d25_4) rfl ((if0 _ _).trans (teq (by decide : (0 : Int32) = (0 : Int32))).2) ?_
    refine XS.aloadN X3.here hx rfl (hb hby d25_7) rfl rfl ?_
    show Steps p.tables e below (T3.setTop (mkF m 8 #[vR a0, .unset] [(.ref a0)])) _
    refine st4 _ ?_
    refine XS.ifNo X4.here hx rfl (hb hby d25_11) rfl ((if0 _ _).trans (feq (by decide : ¬ ((1 : Int32) = (0 : Int32)))).1) ?_
    show Steps p.tables e below (T4.setTop (mkF m 14 #[vR a0, .unset] [])) _
    refine XS.aloadN X4.here hx rfl (hb hby d25_14) rfl rfl ?_
    refine st5 _ ?_
    show Steps p.tables e below (T5.setTop (mkF m 18 #[vR a0, .unset] [(.ref a0)])) _
    refine XS.astoreN X5.here hx rfl (hb hby d25_18) rfl rfl (l' := #[vR a0, vR a0]) rfl ?_
    refine XS.aloadN X5.here hx rfl (hb hby d25_19) rfl rfl ?_
    show Steps p.tables e below (T5.setTop (mkF m 20 #[vR a0, vR a0] [(.ref a0)])) _
    refine st6 _ ?_
    refine XS.ifNo X6.here hx rfl (hb hby d25_23) rfl ((if0 _ _).trans (teq (by decide : (0 : Int32) = (0 : Int32))).2) ?_
    show Steps p.tables e below (T6.setTop (mkF m 26 #[vR a0, vR a0] [])) _
    refine XS.aloadN X6.here hx rfl (hb hby d25_26) rfl rfl ?_
    refine st7 _ ?_
    show Steps p.tables e below (T7.setTop (mkF m 30 #[vR a0, vR a0] [(.ref a0)])) _
    jvm_step X7.here [X7.here.top, hx, (hb hby d25_30), X7.method', Bd.returns, Value.isRef, FieldType.isReference]
    first | (intro acts; rw [hr _ acts rfl rfl rfl]) | rw [hr _ _ rfl rfl rfl]
    exact Steps.refl _
  · show Q25n Z a0 h0 n0 _ T7.heap _
    rw [e7]
    exact ⟨rfl, N0, rfl⟩
theorem pd_20 : parseMethodDescriptor "(Ljava/util/Collection;)Ljava/util/List;" = some ⟨[(.object "java/util/Collection")], some (.object "java/util/List")⟩ := by decide +kernel
theorem d24_0 : decode jdk_40_method_48_code 0 = .ok (.aload_n 0, 1) := by decide +kernel
theorem d24_1 : decode jdk_40_method_48_code 1 = .ok (.invokestatic 112, 3) := by decide +kernel
theorem d24_4 : decode jdk_40_method_48_code 4 = .ok (.areturn, 1) := by decide +kernel
theorem ef_24 (m : MethodId) (x0 : Addr) : entryFrame m #[(.ref x0)] 1 = mkF m 0 #[vR x0] [] := by first | (simp [entryFrame, mkF, argsToLocals, Value.category]; done) | rfl
def Q24e (Z : State) (a0 : Addr) (w_EMPTY_LIST : Addr) (h0 : Heap) (n0 : Nat) (v : Option Value) (h : Heap) (L : List Loc) : Prop := v = some (.ref w_EMPTY_LIST) ∧ Fr n0 L ∧ h = h0
set_option maxRecDepth 65536 in
set_option maxHeartbeats 40000000 in
theorem rm24e (l : Launch) (Z : State) (A0 : Array Value) (hw : ∀ d ∈ tables_1, d.before A0 Z = true) (ws : List Jvm.Cond) (a0 : Addr) (w_EMPTY_LIST : Addr) (h0 : Heap) (n0 : Nat) (OLD : Old Z n0 h0) (f_1 : Exa Z h0 a0 "java/util/ArrayList") (f_2 : Fld Z h0 a0 "java/util/ArrayList" "size" "I" (.int (0 : Int32))) (f_3 : Sta Z Z.heap "java/util/ImmutableCollections" "EMPTY_LIST" "Ljava/util/ImmutableCollections$ListN;" (.ref w_EMPTY_LIST)) :
    MetFree l (⟨"java/util/List", "copyOf", "(Ljava/util/Collection;)Ljava/util/List;"⟩ : MethodName) (head1 (Jvm.Cond.code (⟨"java/util/List", "copyOf", "(Ljava/util/Collection;)Ljava/util/List;"⟩ : MethodName) jdk_40_method_48_code 1 (some (.object "java/util/List")) :: ws) ({ frames := 2, cells := 0, slots := 0, locals := 25 } : Room)) (fun a U => a = #[(.ref a0)] ∧ Z.Warmed39 U.vm ∧ U.heap = h0) (fun _ _ _ _ _ => True) (fun _ U o U' => ∃ v L, o = .returned v ∧ Q24e Z a0 w_EMPTY_LIST h0 n0 v U'.heap L ∧ FrameEnd U o U' L ({ frames := 2, cells := 0, slots := 0, locals := 25 } : Room).cells ({ frames := 2, cells := 0, slots := 0, locals := 25 } : Room).slots) := by
  refine MetFree.of_bodySF (plainFor_of_name pn_java_util_List) hisR ?_
  intro p e s m args below meth c s₁ Bd hml0 hP hK
  obtain ⟨rfl, hZ, hh⟩ := hP
  have hx := Bd.exec
  have hby := Bd.bytes
  have hml : c.maxLocals = 1 := hml0
  have hown : s.vm.findClass "java/util/List" = some m.cls := findClass_of_methodNamed Bd.named
  have hnm := (name_of_methodNamed Bd.named Bd.method).1
  have X0 : Stand p l e ({ frames := 2, cells := 0, slots := 0, locals := 25 } : Room) s m #[(.ref a0)] below meth c s₁ [] 0 0 := Stand.of_body Bd
  have e0 : s₁.heap = h0 := by rw [← hh, Bd.state]; rfl
  have N0 := Fr.nil n0
  have pre0 : ∀ t, Steps p.tables e below (s₁.setTop (mkF m 0 #[vR a0] [])) t → Steps p.tables e below (s₁.setTop (entryFrame m #[(.ref a0)] 1)) t := fun t k => castTop (ef_24 m a0) k
  obtain ⟨_, _, ⟨T4, L4, k4, n4⟩, -, X4, ⟨Lc4, hQ4, l4, y4, z4⟩, st4⟩ := Jvm.LawKit.callS X0 hx (y := (⟨"java/util/ImmutableCollections", "listCopy", "(Ljava/util/Collection;)Ljava/util/List;"⟩ : MethodName)) hown (mvT hZ (hw _ (List.mem_of_getElem? (i := 141) rfl))) (mvT hZ (hw _ (List.mem_of_getElem? (i := 142) rfl))) (mvT hZ (hw _ (List.mem_of_getElem? (i := 143) rfl))) (mvT hZ (hw _ (List.mem_of_getElem? (i := 144) rfl))) (by decide) (backOf (W := 0) (rm25e l Z A0 hw [] a0 w_EMPTY_LIST h0 n0 OLD f_1 f_2 f_3) hZ (hw _ (List.mem_of_getElem? (i := 144) rfl)) (hw _ (List.mem_of_getElem? (i := 143) rfl)) (by decide) (by decide)) (g := (mkF m 1 #[vR a0] [(.ref a0)])) rfl (by rw [hml]; rfl) (argsL := [(.ref a0)]) (rest := []) (lenOf pd_20 rfl) rfl (by show 2 * 0 + _ ≤ _; exact Nat.le_of_eq rfl) (hb hby d24_1) (fun _ _ => ⟨rfl, e0, (by decide : 0 + 0 ≤ _), (by decide : 0 + 0 ≤ _)⟩)
  dsimp only [Pt.U, Pt.locs, Pt.cells, Pt.slots] at X4 l4 y4 z4 st4 hQ4
  subst l4 y4 z4
  obtain ⟨rfl, N4q, e4⟩ := hQ4
  have N4 := Fr.app N0 N4q
  obtain ⟨fs, hr, hrun, hended, hW, hsame⟩ := X4.leave (v := some (.ref w_EMPTY_LIST)) (fun h => by rw [Bd.returns] at h; cases h)
  refine ⟨_, _, pre0 _ ?_, hrun, hended, _, _, rfl, ?_, ⟨_, rfl⟩, hW, hsame.mono (by decide) (by decide)⟩
  · show Steps p.tables e below (s₁.setTop (mkF m 0 #[vR a0] [])) _
    refine XS.aloadN X0.here hx rfl (hb hby d24_0) rfl rfl ?_
    refine st4 _ ?_
    show Steps p.tables e below (T4.setTop (mkF m 4 #[vR a0] [(.ref w_EMPTY_LIST)])) _
    jvm_step X4.here [X4.here.top, hx, (hb hby d24_4), X4.method', Bd.returns, Value.isRef, FieldType.isReference]
    first | (intro acts; rw [hr _ acts rfl rfl rfl]) | rw [hr _ _ rfl rfl rfl]
    exact Steps.refl _
  · show Q24e Z a0 w_EMPTY_LIST h0 n0 _ T4.heap _
    rw [e4]
    exact ⟨rfl, N4, rfl⟩
def Q24f (Z : State) (f : Addr) (ka : ClassId) (d : Addr) (a0 : Addr) (w_mir__Ljava_lang_Object_ : Addr) (w_EMPTY : Addr) (h0 : Heap) (n0 : Nat) (v : Option Value) (h : Heap) (L : List Loc) : Prop := ∃ b3_14_9 : Addr, v = some (.ref b3_14_9) ∧ Fr n0 L ∧ Keep h0 h [] ∧ h0.size ≤ b3_14_9 ∧ Exa Z h b3_14_9 "java/util/ImmutableCollections$List12"
set_option maxRecDepth 65536 in
set_option maxHeartbeats 40000000 in
theorem rm24f (l : Launch) (Z : State) (A0 : Array Value) (hw : ∀ d ∈ tables_1, d.before A0 Z = true) (ws : List Jvm.Cond) (f : Addr) (ka : ClassId) (d : Addr) (a0 : Addr) (w_mir__Ljava_lang_Object_ : Addr) (w_EMPTY : Addr) (h0 : Heap) (n0 : Nat) (OLD : Old Z n0 h0) (f_1 : Exa Z h0 a0 "java/util/ArrayList") (f_2 : Fld Z h0 a0 "java/util/ArrayList" "elementData" "[Ljava/lang/Object;" (.ref d)) (f_3 : Fld Z h0 a0 "java/util/ArrayList" "size" "I" (.int (1 : Int32))) (f_4 : Arv Z h0 d ka (.object "java/lang/Object") (10 : Int32) [(.ref f), .null, .null, .null, .null, .null, .null, .null, .null, .null] .null) (f_5 : Exa Z h0 d "[Ljava/lang/Object;") (f_6 : Exa Z h0 f "com/example/deposita/deposita/core/Finding") (c_7 : own_Mir Z "[Ljava/lang/Object;" w_mir__Ljava_lang_Object_) (f_8 : Sta Z Z.heap "java/util/ImmutableCollections" "EMPTY" "Ljava/lang/Object;" (.ref w_EMPTY)) :
    MetFree l (⟨"java/util/List", "copyOf", "(Ljava/util/Collection;)Ljava/util/List;"⟩ : MethodName) (head1 (Jvm.Cond.code (⟨"java/util/List", "copyOf", "(Ljava/util/Collection;)Ljava/util/List;"⟩ : MethodName) jdk_40_method_48_code 1 (some (.object "java/util/List")) :: ws) ({ frames := 7, cells := 2, slots := 3, locals := 93 } : Room)) (fun a U => a = #[(.ref a0)] ∧ Z.Warmed39 U.vm ∧ U.heap = h0) (fun _ _ _ _ _ => True) (fun _ U o U' => ∃ v L, o = .returned v ∧ Q24f Z f ka d a0 w_mir__Ljava_lang_Object_ w_EMPTY h0 n0 v U'.heap L ∧ FrameEnd U o U' L ({ frames := 7, cells := 2, slots := 3, locals := 93 } : Room).cells ({ frames := 7, cells := 2, slots := 3, locals := 93 } : Room).slots) := by
  refine MetFree.of_bodySF (plainFor_of_name pn_java_util_List) hisR ?_
  intro p e s m args below meth c s₁ Bd hml0 hP hK
  obtain ⟨rfl, hZ, hh⟩ := hP
  have hx := Bd.exec
  have hby := Bd.bytes
  have hml : c.maxLocals = 1 := hml0
  have hown : s.vm.findClass "java/util/List" = some m.cls := findClass_of_methodNamed Bd.named
  have hnm := (name_of_methodNamed Bd.named Bd.method).1
  have X0 : Stand p l e ({ frames := 7, cells := 2, slots := 3, locals := 93 } : Room) s m #[(.ref a0)] below meth c s₁ [] 0 0 := Stand.of_body Bd
  have e0 : s₁.heap = h0 := by rw [← hh, Bd.state]; rfl
  have N0 := Fr.nil n0
  have pre0 : ∀ t, Steps p.tables e below (s₁.setTop (mkF m 0 #[vR a0] [])) t → Steps p.tables e below (s₁.setTop (entryFrame m #[(.ref a0)] 1)) t := fun t k => castTop (ef_24 m a0) k
  obtain ⟨_, _, ⟨T9, L9, k9, n9⟩, -, X9, ⟨Lc9, hQ9, l9, y9, z9⟩, st9⟩ := Jvm.LawKit.callS X0 hx (y := (⟨"java/util/ImmutableCollections", "listCopy", "(Ljava/util/Collection;)Ljava/util/List;"⟩ : MethodName)) hown (mvT hZ (hw _ (List.mem_of_getElem? (i := 141) rfl))) (mvT hZ (hw _ (List.mem_of_getElem? (i := 142) rfl))) (mvT hZ (hw _ (List.mem_of_getElem? (i := 143) rfl))) (mvT hZ (hw _ (List.mem_of_getElem? (i := 144) rfl))) (by decide) (backOf (W := 0) (rm25f l Z A0 hw [] f ka d a0 w_mir__Ljava_lang_Object_ w_EMPTY h0 n0 OLD f_1 f_2 f_3 f_4 f_5 f_6 c_7 f_8) hZ (hw _ (List.mem_of_getElem? (i := 144) rfl)) (hw _ (List.mem_of_getElem? (i := 143) rfl)) (by decide) (by decide)) (g := (mkF m 1 #[vR a0] [(.ref a0)])) rfl (by rw [hml]; rfl) (argsL := [(.ref a0)]) (rest := []) (lenOf pd_20 rfl) rfl (by show 2 * 0 + _ ≤ _; exact Nat.le_of_eq rfl) (hb hby d24_1) (fun _ _ => ⟨rfl, e0, (by decide : 0 + 2 ≤ _), (by decide : 0 + 3 ≤ _)⟩)
  dsimp only [Pt.U, Pt.locs, Pt.cells, Pt.slots] at X9 l9 y9 z9 st9 hQ9
  subst l9 y9 z9
  obtain ⟨b3_14_9, rfl, N9q, K9, g9_0, g9_1⟩ := hQ9
  have N9 := Fr.app N0 N9q
  have K_10 : Keep h0 T9.heap [] := Keep.trans (Keep.refl h0 []) K9 all0
  obtain ⟨fs, hr, hrun, hended, hW, hsame⟩ := X9.leave (v := some (.ref b3_14_9)) (fun h => by rw [Bd.returns] at h; cases h)
  refine ⟨_, _, pre0 _ ?_, hrun, hended, _, _, rfl, ?_, ⟨_, rfl⟩, hW, hsame.mono (by decide) (by decide)⟩
  · show Steps p.tables e below (s₁.setTop (mkF m 0 #[vR a0] [])) _
    refine XS.aloadN X0.here hx rfl (hb hby d24_0) rfl rfl ?_
    refine st9 _ ?_
    show Steps p.tables e below (T9.setTop (mkF m 4 #[vR a0] [(.ref b3_14_9)])) _
    jvm_step X9.here [X9.here.top, hx, (hb hby d24_4), X9.method', Bd.returns, Value.isRef, FieldType.isReference]
    first | (intro acts; rw [hr _ acts rfl rfl rfl]) | rw [hr _ _ rfl rfl rfl]
    exact Steps.refl _
  · show Q24f Z f ka d a0 w_mir__Ljava_lang_Object_ w_EMPTY h0 n0 _ T9.heap _
    exact ⟨b3_14_9, rfl, N9, K_10, (Nat.le_trans (Keep.refl h0 []).1 g9_0), g9_1⟩
def Q24n (Z : State) (a0 : Addr) (h0 : Heap) (n0 : Nat) (v : Option Value) (h : Heap) (L : List Loc) : Prop := v = some (.ref a0) ∧ Fr n0 L ∧ h = h0
set_option maxRecDepth 65536 in
set_option maxHeartbeats 40000000 in
theorem rm24n (l : Launch) (Z : State) (A0 : Array Value) (hw : ∀ d ∈ tables_1, d.before A0 Z = true) (ws : List Jvm.Cond) (a0 : Addr) (h0 : Heap) (n0 : Nat) (OLD : Old Z n0 h0) (f_1 : Exa Z Z.heap a0 "java/util/ImmutableCollections$ListN") (f_2 : Fld Z Z.heap a0 "java/util/ImmutableCollections$ListN" "allowNulls" "Z" (.int (0 : Int32))) :
    MetFree l (⟨"java/util/List", "copyOf", "(Ljava/util/Collection;)Ljava/util/List;"⟩ : MethodName) (head1 (Jvm.Cond.code (⟨"java/util/List", "copyOf", "(Ljava/util/Collection;)Ljava/util/List;"⟩ : MethodName) jdk_40_method_48_code 1 (some (.object "java/util/List")) :: ws) ({ frames := 1, cells := 0, slots := 0, locals := 13 } : Room)) (fun a U => a = #[(.ref a0)] ∧ Z.Warmed39 U.vm ∧ U.heap = h0) (fun _ _ _ _ _ => True) (fun _ U o U' => ∃ v L, o = .returned v ∧ Q24n Z a0 h0 n0 v U'.heap L ∧ FrameEnd U o U' L ({ frames := 1, cells := 0, slots := 0, locals := 13 } : Room).cells ({ frames := 1, cells := 0, slots := 0, locals := 13 } : Room).slots) := by
  refine MetFree.of_bodySF (plainFor_of_name pn_java_util_List) hisR ?_
  intro p e s m args below meth c s₁ Bd hml0 hP hK
  obtain ⟨rfl, hZ, hh⟩ := hP
  have hx := Bd.exec
  have hby := Bd.bytes
  have hml : c.maxLocals = 1 := hml0
  have hown : s.vm.findClass "java/util/List" = some m.cls := findClass_of_methodNamed Bd.named
  have hnm := (name_of_methodNamed Bd.named Bd.method).1
  have X0 : Stand p l e ({ frames := 1, cells := 0, slots := 0, locals := 13 } : Room) s m #[(.ref a0)] below meth c s₁ [] 0 0 := Stand.of_body Bd
  have e0 : s₁.heap = h0 := by rw [← hh, Bd.state]; rfl
  have N0 := Fr.nil n0
  have pre0 : ∀ t, Steps p.tables e below (s₁.setTop (mkF m 0 #[vR a0] [])) t → Steps p.tables e below (s₁.setTop (entryFrame m #[(.ref a0)] 1)) t := fun t k => castTop (ef_24 m a0) k
  obtain ⟨_, _, ⟨T3, L3, k3, n3⟩, -, X3, ⟨Lc3, hQ3, l3, y3, z3⟩, st3⟩ := Jvm.LawKit.callS X0 hx (y := (⟨"java/util/ImmutableCollections", "listCopy", "(Ljava/util/Collection;)Ljava/util/List;"⟩ : MethodName)) hown (mvT hZ (hw _ (List.mem_of_getElem? (i := 141) rfl))) (mvT hZ (hw _ (List.mem_of_getElem? (i := 142) rfl))) (mvT hZ (hw _ (List.mem_of_getElem? (i := 143) rfl))) (mvT hZ (hw _ (List.mem_of_getElem? (i := 144) rfl))) (by decide) (backOf (W := 0) (rm25n l Z A0 hw [] a0 h0 n0 OLD f_1 f_2) hZ (hw _ (List.mem_of_getElem? (i := 144) rfl)) (hw _ (List.mem_of_getElem? (i := 143) rfl)) (by decide) (by decide)) (g := (mkF m 1 #[vR a0] [(.ref a0)])) rfl (by rw [hml]; rfl) (argsL := [(.ref a0)]) (rest := []) (lenOf pd_20 rfl) rfl (by show 2 * 0 + _ ≤ _; exact Nat.le_of_eq rfl) (hb hby d24_1) (fun _ _ => ⟨rfl, e0, (by decide : 0 + 0 ≤ _), (by decide : 0 + 0 ≤ _)⟩)
  dsimp only [Pt.U, Pt.locs, Pt.cells, Pt.slots] at X3 l3 y3 z3 st3 hQ3
  subst l3 y3 z3
  obtain ⟨rfl, N3q, e3⟩ := hQ3
  have N3 := Fr.app N0 N3q
  obtain ⟨fs, hr, hrun, hended, hW, hsame⟩ := X3.leave (v := some (.ref a0)) (fun h => by rw [Bd.returns] at h; cases h)
  refine ⟨_, _, pre0 _ ?_, hrun, hended, _, _, rfl, ?_, ⟨_, rfl⟩, hW, hsame.mono (by decide) (by decide)⟩
  · show Steps p.tables e below (s₁.setTop (mkF m 0 #[vR a0] [])) _
    refine XS.aloadN X0.here hx rfl (hb hby d24_0) rfl rfl ?_
    refine st3 _ ?_
    show Steps p.tables e below (T3.setTop (mkF m 4 #[vR a0] [(.ref a0)])) _
    jvm_step X3.here [X3.here.top, hx, (hb hby d24_4), X3.method', Bd.returns, Value.isRef, FieldType.isReference]
    first | (intro acts; rw [hr _ acts rfl rfl rfl]) | rw [hr _ _ rfl rfl rfl]
    exact Steps.refl _
  · show Q24n Z a0 h0 n0 _ T3.heap _
    rw [e3]
    exact ⟨rfl, N3, rfl⟩
theorem d23_0 : decode prog_44_method_1_code 0 = .ok (.aload_n 0, 1) := by decide +kernel
theorem d23_1 : decode prog_44_method_1_code 1 = .ok (.invokespecial 1, 3) := by decide +kernel
theorem d23_4 : decode prog_44_method_1_code 4 = .ok (.aload_n 3, 1) := by decide +kernel
theorem d23_5 : decode prog_44_method_1_code 5 = .ok (.invokestatic 7, 3) := by decide +kernel
theorem d23_8 : decode prog_44_method_1_code 8 = .ok (.astore_n 3, 1) := by decide +kernel
theorem d23_9 : decode prog_44_method_1_code 9 = .ok (.aload_n 0, 1) := by decide +kernel
theorem d23_10 : decode prog_44_method_1_code 10 = .ok (.aload_n 1, 1) := by decide +kernel
theorem d23_11 : decode prog_44_method_1_code 11 = .ok (.putfield 13, 3) := by decide +kernel
theorem d23_14 : decode prog_44_method_1_code 14 = .ok (.aload_n 0, 1) := by decide +kernel
theorem d23_15 : decode prog_44_method_1_code 15 = .ok (.aload_n 2, 1) := by decide +kernel
theorem d23_16 : decode prog_44_method_1_code 16 = .ok (.putfield 19, 3) := by decide +kernel
theorem d23_19 : decode prog_44_method_1_code 19 = .ok (.aload_n 0, 1) := by decide +kernel
theorem d23_20 : decode prog_44_method_1_code 20 = .ok (.aload_n 3, 1) := by decide +kernel
theorem d23_21 : decode prog_44_method_1_code 21 = .ok (.putfield 23, 3) := by decide +kernel
theorem d23_24 : decode prog_44_method_1_code 24 = .ok (.aload_n 0, 1) := by decide +kernel
theorem d23_25 : decode prog_44_method_1_code 25 = .ok (.aload 4, 2) := by decide +kernel
theorem d23_27 : decode prog_44_method_1_code 27 = .ok (.putfield 27, 3) := by decide +kernel
theorem d23_30 : decode prog_44_method_1_code 30 = .ok (.return_, 1) := by decide +kernel
theorem pn_com_example_deposita_deposita_formats_Mapped : plainName "com/example/deposita/deposita/formats/Mapped" = true := by first | (simp [plainName, overriddenIn]; done) | decide +kernel
theorem ef_23n2 (m : MethodId) (x0 : Addr) (x1 : Addr) (x3 : Addr) (x4 : Addr) : entryFrame m #[(.ref x0), (.ref x1), .null, (.ref x3), (.ref x4)] 5 = mkF m 0 #[vR x0, vR x1, .val .null, vR x3, vR x4] [] := by first | (simp [entryFrame, mkF, argsToLocals, Value.category]; done) | rfl
def Q23e1 (Z : State) (a0 : Addr) (a1 : Addr) (a3 : Addr) (a4 : Addr) (u_recordId_a0 : Value) (u_product_a0 : Value) (u_warnings_a0 : Value) (u_refusal_a0 : Value) (w_EMPTY_LIST : Addr) (h0 : Heap) (n0 : Nat) (v : Option Value) (h : Heap) (L : List Loc) : Prop := v = none ∧ Fr n0 L ∧ Keep h0 h [a0] ∧ Exa Z h a0 "com/example/deposita/deposita/formats/Mapped" ∧ Fld Z h a0 "com/example/deposita/deposita/formats/Mapped" "recordId" "Ljava/lang/String;" (.ref a1) ∧ Fld Z h a0 "com/example/deposita/deposita/formats/Mapped" "product" "Lcom/example/deposita/deposita/core/Product;" .null ∧ Fld Z h a0 "com/example/deposita/deposita/formats/Mapped" "warnings" "Ljava/util/List;" (.ref w_EMPTY_LIST) ∧ Fld Z h a0 "com/example/deposita/deposita/formats/Mapped" "refusal" "Lcom/example/deposita/deposita/core/Finding;" (.ref a4)
set_option maxRecDepth 65536 in
set_option maxHeartbeats 40000000 in
theorem rm23e1 (l : Launch) (Z : State) (A0 : Array Value) (hw : ∀ d ∈ tables_1, d.before A0 Z = true) (ws : List Jvm.Cond) (a0 : Addr) (a1 : Addr) (a3 : Addr) (a4 : Addr) (u_recordId_a0 : Value) (u_product_a0 : Value) (u_warnings_a0 : Value) (u_refusal_a0 : Value) (w_EMPTY_LIST : Addr) (h0 : Heap) (n0 : Nat) (OLD : Old Z n0 h0) (f_1 : Exa Z h0 a3 "java/util/ArrayList") (f_2 : Fld Z h0 a3 "java/util/ArrayList" "size" "I" (.int (0 : Int32))) (f_3 : Exa Z h0 a0 "com/example/deposita/deposita/formats/Mapped") (f_4 : Fld Z h0 a0 "com/example/deposita/deposita/formats/Mapped" "recordId" "Ljava/lang/String;" u_recordId_a0) (f_5 : Fld Z h0 a0 "com/example/deposita/deposita/formats/Mapped" "product" "Lcom/example/deposita/deposita/core/Product;" u_product_a0) (f_6 : Fld Z h0 a0 "com/example/deposita/deposita/formats/Mapped" "warnings" "Ljava/util/List;" u_warnings_a0) (f_7 : Fld Z h0 a0 "com/example/deposita/deposita/formats/Mapped" "refusal" "Lcom/example/deposita/deposita/core/Finding;" u_refusal_a0) (f_9 : Sta Z Z.heap "java/util/ImmutableCollections" "EMPTY_LIST" "Ljava/util/ImmutableCollections$ListN;" (.ref w_EMPTY_LIST)) (ge_a0 : n0 ≤ a0) :
    MetFree l (⟨"com/example/deposita/deposita/formats/Mapped", "<init>", "(Ljava/lang/String;Lcom/example/deposita/deposita/core/Product;Ljava/util/List;Lcom/example/deposita/deposita/core/Finding;)V"⟩ : MethodName) (head1 (Jvm.Cond.code (⟨"com/example/deposita/deposita/formats/Mapped", "<init>", "(Ljava/lang/String;Lcom/example/deposita/deposita/core/Product;Ljava/util/List;Lcom/example/deposita/deposita/core/Finding;)V"⟩ : MethodName) prog_44_method_1_code 5 none :: ws) ({ frames := 3, cells := 0, slots := 0, locals := 37 } : Room)) (fun a U => a = #[(.ref a0), (.ref a1), .null, (.ref a3), (.ref a4)] ∧ Z.Warmed39 U.vm ∧ U.heap = h0) (fun _ _ _ _ _ => True) (fun _ U o U' => ∃ v L, o = .returned v ∧ Q23e1 Z a0 a1 a3 a4 u_recordId_a0 u_product_a0 u_warnings_a0 u_refusal_a0 w_EMPTY_LIST h0 n0 v U'.heap L ∧ FrameEnd U o U' L ({ frames := 3, cells := 0, slots := 0, locals := 37 } : Room).cells ({ frames := 3, cells := 0, slots := 0, locals := 37 } : Room).slots) := by
  refine MetFree.of_bodySF (plainFor_of_name pn_com_example_deposita_deposita_formats_Mapped) hisR ?_
  intro p e s m args below meth c s₁ Bd hml0 hP hK
  obtain ⟨rfl, hZ, hh⟩ := hP
  have hx := Bd.exec
  have hby := Bd.bytes
  have hml : c.maxLocals = 5 := hml0
  have hown : s.vm.findClass "com/example/deposita/deposita/formats/Mapped" = some m.cls := findClass_of_methodNamed Bd.named
  have hnm := (name_of_methodNamed Bd.named Bd.method).1
  have X0 : Stand p l e ({ frames := 3, cells := 0, slots := 0, locals := 37 } : Room) s m #[(.ref a0), (.ref a1), .null, (.ref a3), (.ref a4)] below meth c s₁ [] 0 0 := Stand.of_body Bd
  have e0 : s₁.heap = h0 := by rw [← hh, Bd.state]; rfl
  have N0 := Fr.nil n0
  have pre0 : ∀ t, Steps p.tables e below (s₁.setTop (mkF m 0 #[vR a0, vR a1, .val .null, vR a3, vR a4] [])) t → Steps p.tables e below (s₁.setTop (entryFrame m #[(.ref a0), (.ref a1), .null, (.ref a3), (.ref a4)] 5)) t := fun t k => castTop (ef_23n2 m a0 a1 a3 a4) k
  obtain ⟨_, _, ⟨T8, L8, k8, n8⟩, -, X8, ⟨Lc8, hQ8, l8, y8, z8⟩, st8⟩ := X0.specialBack hx (y := (⟨"java/lang/Record", "<init>", "()V"⟩ : MethodName)) rfl hown (mvT hZ (hw _ (List.mem_of_getElem? (i := 136) rfl))) (mvT hZ (hw _ (List.mem_of_getElem? (i := 40) rfl))) (mvT hZ (hw _ (List.mem_of_getElem? (i := 43) rfl))) (by decide) (backOf (W := 0) (rm8 l Z A0 hw [] a0 h0 n0 OLD ) hZ (hw _ (List.mem_of_getElem? (i := 43) rfl)) (hw _ (List.mem_of_getElem? (i := 42) rfl)) (by decide) (by decide)) (g := (mkF m 1 #[vR a0, vR a1, .val .null, vR a3, vR a4] [(.ref a0)])) rfl (by rw [hml]; rfl) (Steps.refl _) (a := a0) (argsL := []) (rest := []) (lenOf pd_7 rfl) rfl (by show 2 * 0 + _ ≤ _; exact Nat.le_of_eq rfl) (hb hby d23_1) (fun _ _ => ⟨rfl, e0, (by decide : 0 + 0 ≤ _), (by decide : 0 + 0 ≤ _)⟩)
  dsimp only [Pt.U, Pt.locs, Pt.cells, Pt.slots] at X8 l8 y8 z8 st8 hQ8
  subst l8 y8 z8
  obtain ⟨rfl, N8q, e8⟩ := hQ8
  have N8 := Fr.app N0 N8q
  obtain ⟨_, _, ⟨T10, L10, k10, n10⟩, -, X10, ⟨Lc10, hQ10, l10, y10, z10⟩, st10⟩ := Jvm.LawKit.callS X8 hx (y := (⟨"java/util/List", "copyOf", "(Ljava/util/Collection;)Ljava/util/List;"⟩ : MethodName)) hown (mvT hZ (hw _ (List.mem_of_getElem? (i := 137) rfl))) (mvT hZ (hw _ (List.mem_of_getElem? (i := 138) rfl))) (mvT hZ (hw _ (List.mem_of_getElem? (i := 139) rfl))) (mvT hZ (hw _ (List.mem_of_getElem? (i := 140) rfl))) (by decide) (backOf (W := 0) (rm24e l Z A0 hw [] a3 w_EMPTY_LIST h0 n0 OLD f_1 f_2 f_9) hZ (hw _ (List.mem_of_getElem? (i := 140) rfl)) (hw _ (List.mem_of_getElem? (i := 139) rfl)) (by decide) (by decide)) (g := (mkF m 5 #[vR a0, vR a1, .val .null, vR a3, vR a4] [(.ref a3)])) rfl (by rw [hml]; rfl) (argsL := [(.ref a3)]) (rest := []) (lenOf pd_20 rfl) rfl (by show 2 * 0 + _ ≤ _; exact Nat.le_of_eq rfl) (hb hby d23_5) (fun _ _ => ⟨rfl, e8, (by decide : 0 + 0 ≤ _), (by decide : 0 + 0 ≤ _)⟩)
  dsimp only [Pt.U, Pt.locs, Pt.cells, Pt.slots] at X10 l10 y10 z10 st10 hQ10
  subst l10 y10 z10
  obtain ⟨rfl, N10q, e10⟩ := hQ10
  have N10 := Fr.app N8 N10q
  obtain ⟨T11, h11, X11, e11, W11, st11⟩ := putF X10 hx hZ hown (host := "") (Or.inl (hw _ (List.mem_of_getElem? (i := 222) rfl))) Via.refl e10 f_4 f_3 (Or.inr ⟨(hw _ (List.mem_of_getElem? (i := 223) rfl)), rfl, hnm⟩) (hw _ (List.mem_of_getElem? (i := 131) rfl)) (ty := (.object "java/lang/String")) (by decide) rfl rfl (g := (mkF m 11 #[vR a0, vR a1, .val .null, vR w_EMPTY_LIST, vR a4] [(.ref a1), (.ref a0)])) rfl rfl (hb hby d23_11)
  have N11 := Fr.snoc X11 N10 ge_a0
  have f_12 := f_4.same W11
  have K_13 : Keep h0 h11 [a0] := (Keep.refl h0 [a0]).wr W11 (Or.inl (List.mem_of_getElem? (i := 0) rfl))
  have f_14 := f_3.wr W11
  have f_15 := f_5.other W11 (Or.inr (slot_ne (Or.inr (hw _ (List.mem_of_getElem? (i := 225) rfl))) (Or.inr (hw _ (List.mem_of_getElem? (i := 223) rfl))) (by decide) (t := (.object "com/example/deposita/deposita/core/Product")) (t' := (.object "java/lang/String")) (by decide) (by decide)))
  obtain ⟨T16, h16, X16, e16, W16, st16⟩ := putF X11 hx hZ hown (host := "") (Or.inl (hw _ (List.mem_of_getElem? (i := 224) rfl))) Via.refl e11 f_15 f_14 (Or.inr ⟨(hw _ (List.mem_of_getElem? (i := 225) rfl)), rfl, hnm⟩) (hw _ (List.mem_of_getElem? (i := 131) rfl)) (ty := (.object "com/example/deposita/deposita/core/Product")) (by decide) rfl rfl (g := (mkF m 16 #[vR a0, vR a1, .val .null, vR w_EMPTY_LIST, vR a4] [.null, (.ref a0)])) rfl rfl (hb hby d23_16)
  have N16 := Fr.snoc X16 N11 ge_a0
  have f_17 := f_15.same W16
  have K_18 : Keep h0 h16 [a0] := K_13.wr W16 (Or.inl (List.mem_of_getElem? (i := 0) rfl))
  have f_19 := f_14.wr W16
  have f_20 := f_6.other W11 (Or.inr (slot_ne (Or.inr (hw _ (List.mem_of_getElem? (i := 227) rfl))) (Or.inr (hw _ (List.mem_of_getElem? (i := 223) rfl))) (by decide) (t := (.object "java/util/List")) (t' := (.object "java/lang/String")) (by decide) (by decide)))
  have f_21 := f_20.other W16 (Or.inr (slot_ne (Or.inr (hw _ (List.mem_of_getElem? (i := 227) rfl))) (Or.inr (hw _ (List.mem_of_getElem? (i := 225) rfl))) (by decide) (t := (.object "java/util/List")) (t' := (.object "com/example/deposita/deposita/core/Product")) (by decide) (by decide)))
  obtain ⟨T22, h22, X22, e22, W22, st22⟩ := putF X16 hx hZ hown (host := "") (Or.inl (hw _ (List.mem_of_getElem? (i := 226) rfl))) Via.refl e16 f_21 f_19 (Or.inr ⟨(hw _ (List.mem_of_getElem? (i := 227) rfl)), rfl, hnm⟩) (hw _ (List.mem_of_getElem? (i := 131) rfl)) (ty := (.object "java/util/List")) (by decide) rfl rfl (g := (mkF m 21 #[vR a0, vR a1, .val .null, vR w_EMPTY_LIST, vR a4] [(.ref w_EMPTY_LIST), (.ref a0)])) rfl rfl (hb hby d23_21)
  have N22 := Fr.snoc X22 N16 ge_a0
  have f_23 := f_21.same W22
  have K_24 : Keep h0 h22 [a0] := K_18.wr W22 (Or.inl (List.mem_of_getElem? (i := 0) rfl))
  have f_25 := f_19.wr W22
  have f_26 := f_7.other W11 (Or.inr (slot_ne (Or.inr (hw _ (List.mem_of_getElem? (i := 229) rfl))) (Or.inr (hw _ (List.mem_of_getElem? (i := 223) rfl))) (by decide) (t := (.object "com/example/deposita/deposita/core/Finding")) (t' := (.object "java/lang/String")) (by decide) (by decide)))
  have f_27 := f_26.other W16 (Or.inr (slot_ne (Or.inr (hw _ (List.mem_of_getElem? (i := 229) rfl))) (Or.inr (hw _ (List.mem_of_getElem? (i := 225) rfl))) (by decide) (t := (.object "com/example/deposita/deposita/core/Finding")) (t' := (.object "com/example/deposita/deposita/core/Product")) (by decide) (by decide)))
  have f_28 := f_27.other W22 (Or.inr (slot_ne (Or.inr (hw _ (List.mem_of_getElem? (i := 229) rfl))) (Or.inr (hw _ (List.mem_of_getElem? (i := 227) rfl))) (by decide) (t := (.object "com/example/deposita/deposita/core/Finding")) (t' := (.object "java/util/List")) (by decide) (by decide)))
  obtain ⟨T29, h29, X29, e29, W29, st29⟩ := putF X22 hx hZ hown (host := "") (Or.inl (hw _ (List.mem_of_getElem? (i := 228) rfl))) Via.refl e22 f_28 f_25 (Or.inr ⟨(hw _ (List.mem_of_getElem? (i := 229) rfl)), rfl, hnm⟩) (hw _ (List.mem_of_getElem? (i := 131) rfl)) (ty := (.object "com/example/deposita/deposita/core/Finding")) (by decide) rfl rfl (g := (mkF m 27 #[vR a0, vR a1, .val .null, vR w_EMPTY_LIST, vR a4] [(.ref a4), (.ref a0)])) rfl rfl (hb hby d23_27)
  have N29 := Fr.snoc X29 N22 ge_a0
  have f_30 := f_28.same W29
  have K_31 : Keep h0 h29 [a0] := K_24.wr W29 (Or.inl (List.mem_of_getElem? (i := 0) rfl))
  have f_32 := f_25.wr W29
  have f_33 := f_12.other W16 (Or.inr (slot_ne (Or.inr (hw _ (List.mem_of_getElem? (i := 223) rfl))) (Or.inr (hw _ (List.mem_of_getElem? (i := 225) rfl))) (by decide) (t := (.object "java/lang/String")) (t' := (.object "com/example/deposita/deposita/core/Product")) (by decide) (by decide)))
  have f_34 := f_33.other W22 (Or.inr (slot_ne (Or.inr (hw _ (List.mem_of_getElem? (i := 223) rfl))) (Or.inr (hw _ (List.mem_of_getElem? (i := 227) rfl))) (by decide) (t := (.object "java/lang/String")) (t' := (.object "java/util/List")) (by decide) (by decide)))
  have f_35 := f_34.other W29 (Or.inr (slot_ne (Or.inr (hw _ (List.mem_of_getElem? (i := 223) rfl))) (Or.inr (hw _ (List.mem_of_getElem? (i := 229) rfl))) (by decide) (t := (.object "java/lang/String")) (t' := (.object "com/example/deposita/deposita/core/Finding")) (by decide) (by decide)))
  have f_36 := f_17.other W22 (Or.inr (slot_ne (Or.inr (hw _ (List.mem_of_getElem? (i := 225) rfl))) (Or.inr (hw _ (List.mem_of_getElem? (i := 227) rfl))) (by decide) (t := (.object "com/example/deposita/deposita/core/Product")) (t' := (.object "java/util/List")) (by decide) (by decide)))
  have f_37 := f_36.other W29 (Or.inr (slot_ne (Or.inr (hw _ (List.mem_of_getElem? (i := 225) rfl))) (Or.inr (hw _ (List.mem_of_getElem? (i := 229) rfl))) (by decide) (t := (.object "com/example/deposita/deposita/core/Product")) (t' := (.object "com/example/deposita/deposita/core/Finding")) (by decide) (by decide)))
  have f_38 := f_23.other W29 (Or.inr (slot_ne (Or.inr (hw _ (List.mem_of_getElem? (i := 227) rfl))) (Or.inr (hw _ (List.mem_of_getElem? (i := 229) rfl))) (by decide) (t := (.object "java/util/List")) (t' := (.object "com/example/deposita/deposita/core/Finding")) (by decide) (by decide)))
  obtain ⟨fs, hr, hrun, hended, hW, hsame⟩ := X29.leave (v := none) (fun _ => rfl)
  refine ⟨_, _, pre0 _ ?_, hrun, hended, _, _, rfl, ?_, ⟨_, rfl⟩, hW, hsame.mono (by decide) (by decide)⟩
  · show Steps p.tables e below (s₁.setTop (mkF m 0 #[vR a0, vR a1, .val .null, vR a3, vR a4] [])) _
    refine XS.aloadN X0.here hx rfl (hb hby d23_0) rfl rfl ?_
    refine st8.trans ?_
    show Steps p.tables e below (T8.setTop (mkF m 4 #[vR a0, vR a1, .val .null, vR a3, vR a4] [])) _
    refine XS.aloadN X8.here hx rfl (hb hby d23_4) rfl rfl ?_
    refine st10 _ ?_
    show Steps p.tables e below (T10.setTop (mkF m 8 #[vR a0, vR a1, .val .null, vR a3, vR a4] [(.ref w_EMPTY_LIST)])) _
    refine XS.astoreN X10.here hx rfl (hb hby d23_8) rfl rfl (l' := #[vR a0, vR a1, .val .null, vR w_EMPTY_LIST, vR a4]) rfl ?_
    refine XS.aloadN X10.here hx rfl (hb hby d23_9) rfl rfl ?_
    show Steps p.tables e below (T10.setTop (mkF m 10 #[vR a0, vR a1, .val .null, vR w_EMPTY_LIST, vR a4] [(.ref a0)])) _
    refine XS.aloadN X10.here hx rfl (hb hby d23_10) rfl rfl ?_
    refine st11 _ ?_
    show Steps p.tables e below (T11.setTop (mkF m 14 #[vR a0, vR a1, .val .null, vR w_EMPTY_LIST, vR a4] [])) _
    refine XS.aloadN X11.here hx rfl (hb hby d23_14) rfl rfl ?_
    refine XS.aloadN X11.here hx rfl (hb hby d23_15) rfl rfl ?_
    show Steps p.tables e below (T11.setTop (mkF m 16 #[vR a0, vR a1, .val .null, vR w_EMPTY_LIST, vR a4] [.null, (.ref a0)])) _
    refine st16 _ ?_
    refine XS.aloadN X16.here hx rfl (hb hby d23_19) rfl rfl ?_
    show Steps p.tables e below (T16.setTop (mkF m 20 #[vR a0, vR a1, .val .null, vR w_EMPTY_LIST, vR a4] [(.ref a0)])) _
    refine XS.aloadN X16.here hx rfl (hb hby d23_20) rfl rfl ?_
    refine st22 _ ?_
    show Steps p.tables e below (T22.setTop (mkF m 24 #[vR a0, vR a1, .val .null, vR w_EMPTY_LIST, vR a4] [])) _
    refine XS.aloadN X22.here hx rfl (hb hby d23_24) rfl rfl ?_
    refine XS.aload X22.here hx rfl (hb hby d23_25) rfl rfl ?_
    show Steps p.tables e below (T22.setTop (mkF m 27 #[vR a0, vR a1, .val .null, vR w_EMPTY_LIST, vR a4] [(.ref a4), (.ref a0)])) _
    refine st29 _ ?_
    show Steps p.tables e below (T29.setTop (mkF m 30 #[vR a0, vR a1, .val .null, vR w_EMPTY_LIST, vR a4] [])) _
    exact X29.returnOut hx Bd.returns (hb hby d23_30) hr
  · show Q23e1 Z a0 a1 a3 a4 u_recordId_a0 u_product_a0 u_warnings_a0 u_refusal_a0 w_EMPTY_LIST h0 n0 _ T29.heap _
    rw [e29]
    exact ⟨rfl, N29, K_31, f_32, f_35, f_37, f_38, f_30⟩
def Q23f1 (Z : State) (f : Addr) (ka : ClassId) (d : Addr) (a0 : Addr) (a1 : Addr) (a3 : Addr) (a4 : Addr) (u_recordId_a0 : Value) (u_product_a0 : Value) (u_warnings_a0 : Value) (u_refusal_a0 : Value) (w_mir__Ljava_lang_Object_ : Addr) (w_EMPTY : Addr) (h0 : Heap) (n0 : Nat) (v : Option Value) (h : Heap) (L : List Loc) : Prop := ∃ b3_14_9_15 : Addr, v = none ∧ Fr n0 L ∧ Keep h0 h [a0] ∧ h0.size ≤ b3_14_9_15 ∧ Exa Z h b3_14_9_15 "java/util/ImmutableCollections$List12" ∧ Exa Z h a0 "com/example/deposita/deposita/formats/Mapped" ∧ Fld Z h a0 "com/example/deposita/deposita/formats/Mapped" "recordId" "Ljava/lang/String;" (.ref a1) ∧ Fld Z h a0 "com/example/deposita/deposita/formats/Mapped" "product" "Lcom/example/deposita/deposita/core/Product;" .null ∧ Fld Z h a0 "com/example/deposita/deposita/formats/Mapped" "warnings" "Ljava/util/List;" (.ref b3_14_9_15) ∧ Fld Z h a0 "com/example/deposita/deposita/formats/Mapped" "refusal" "Lcom/example/deposita/deposita/core/Finding;" (.ref a4)
set_option maxRecDepth 65536 in
set_option maxHeartbeats 40000000 in
theorem rm23f1 (l : Launch) (Z : State) (A0 : Array Value) (hw : ∀ d ∈ tables_1, d.before A0 Z = true) (ws : List Jvm.Cond) (f : Addr) (ka : ClassId) (d : Addr) (a0 : Addr) (a1 : Addr) (a3 : Addr) (a4 : Addr) (u_recordId_a0 : Value) (u_product_a0 : Value) (u_warnings_a0 : Value) (u_refusal_a0 : Value) (w_mir__Ljava_lang_Object_ : Addr) (w_EMPTY : Addr) (h0 : Heap) (n0 : Nat) (OLD : Old Z n0 h0) (f_1 : Exa Z h0 a3 "java/util/ArrayList") (f_2 : Fld Z h0 a3 "java/util/ArrayList" "elementData" "[Ljava/lang/Object;" (.ref d)) (f_3 : Fld Z h0 a3 "java/util/ArrayList" "size" "I" (.int (1 : Int32))) (f_4 : Arv Z h0 d ka (.object "java/lang/Object") (10 : Int32) [(.ref f), .null, .null, .null, .null, .null, .null, .null, .null, .null] .null) (f_5 : Exa Z h0 d "[Ljava/lang/Object;") (f_6 : Exa Z h0 f "com/example/deposita/deposita/core/Finding") (f_7 : Exa Z h0 a0 "com/example/deposita/deposita/formats/Mapped") (f_8 : Fld Z h0 a0 "com/example/deposita/deposita/formats/Mapped" "recordId" "Ljava/lang/String;" u_recordId_a0) (f_9 : Fld Z h0 a0 "com/example/deposita/deposita/formats/Mapped" "product" "Lcom/example/deposita/deposita/core/Product;" u_product_a0) (f_10 : Fld Z h0 a0 "com/example/deposita/deposita/formats/Mapped" "warnings" "Ljava/util/List;" u_warnings_a0) (f_11 : Fld Z h0 a0 "com/example/deposita/deposita/formats/Mapped" "refusal" "Lcom/example/deposita/deposita/core/Finding;" u_refusal_a0) (c_13 : own_Mir Z "[Ljava/lang/Object;" w_mir__Ljava_lang_Object_) (f_14 : Sta Z Z.heap "java/util/ImmutableCollections" "EMPTY" "Ljava/lang/Object;" (.ref w_EMPTY)) (ge_a0 : n0 ≤ a0) :
    MetFree l (⟨"com/example/deposita/deposita/formats/Mapped", "<init>", "(Ljava/lang/String;Lcom/example/deposita/deposita/core/Product;Ljava/util/List;Lcom/example/deposita/deposita/core/Finding;)V"⟩ : MethodName) (head1 (Jvm.Cond.code (⟨"com/example/deposita/deposita/formats/Mapped", "<init>", "(Ljava/lang/String;Lcom/example/deposita/deposita/core/Product;Ljava/util/List;Lcom/example/deposita/deposita/core/Finding;)V"⟩ : MethodName) prog_44_method_1_code 5 none :: ws) ({ frames := 8, cells := 2, slots := 3, locals := 105 } : Room)) (fun a U => a = #[(.ref a0), (.ref a1), .null, (.ref a3), (.ref a4)] ∧ Z.Warmed39 U.vm ∧ U.heap = h0) (fun _ _ _ _ _ => True) (fun _ U o U' => ∃ v L, o = .returned v ∧ Q23f1 Z f ka d a0 a1 a3 a4 u_recordId_a0 u_product_a0 u_warnings_a0 u_refusal_a0 w_mir__Ljava_lang_Object_ w_EMPTY h0 n0 v U'.heap L ∧ FrameEnd U o U' L ({ frames := 8, cells := 2, slots := 3, locals := 105 } : Room).cells ({ frames := 8, cells := 2, slots := 3, locals := 105 } : Room).slots) := by
  refine MetFree.of_bodySF (plainFor_of_name pn_com_example_deposita_deposita_formats_Mapped) hisR ?_
  intro p e s m args below meth c s₁ Bd hml0 hP hK
  obtain ⟨rfl, hZ, hh⟩ := hP
  have hx := Bd.exec
  have hby := Bd.bytes
  have hml : c.maxLocals = 5 := hml0
  have hown : s.vm.findClass "com/example/deposita/deposita/formats/Mapped" = some m.cls := findClass_of_methodNamed Bd.named
  have hnm := (name_of_methodNamed Bd.named Bd.method).1
  have X0 : Stand p l e ({ frames := 8, cells := 2, slots := 3, locals := 105 } : Room) s m #[(.ref a0), (.ref a1), .null, (.ref a3), (.ref a4)] below meth c s₁ [] 0 0 := Stand.of_body Bd
  have e0 : s₁.heap = h0 := by rw [← hh, Bd.state]; rfl
  have N0 := Fr.nil n0
  have pre0 : ∀ t, Steps p.tables e below (s₁.setTop (mkF m 0 #[vR a0, vR a1, .val .null, vR a3, vR a4] [])) t → Steps p.tables e below (s₁.setTop (entryFrame m #[(.ref a0), (.ref a1), .null, (.ref a3), (.ref a4)] 5)) t := fun t k => castTop (ef_23n2 m a0 a1 a3 a4) k
  obtain ⟨_, _, ⟨T12, L12, k12, n12⟩, -, X12, ⟨Lc12, hQ12, l12, y12, z12⟩, st12⟩ := X0.specialBack hx (y := (⟨"java/lang/Record", "<init>", "()V"⟩ : MethodName)) rfl hown (mvT hZ (hw _ (List.mem_of_getElem? (i := 136) rfl))) (mvT hZ (hw _ (List.mem_of_getElem? (i := 40) rfl))) (mvT hZ (hw _ (List.mem_of_getElem? (i := 43) rfl))) (by decide) (backOf (W := 0) (rm8 l Z A0 hw [] a0 h0 n0 OLD ) hZ (hw _ (List.mem_of_getElem? (i := 43) rfl)) (hw _ (List.mem_of_getElem? (i := 42) rfl)) (by decide) (by decide)) (g := (mkF m 1 #[vR a0, vR a1, .val .null, vR a3, vR a4] [(.ref a0)])) rfl (by rw [hml]; rfl) (Steps.refl _) (a := a0) (argsL := []) (rest := []) (lenOf pd_7 rfl) rfl (by show 2 * 0 + _ ≤ _; exact Nat.le_of_eq rfl) (hb hby d23_1) (fun _ _ => ⟨rfl, e0, (by decide : 0 + 0 ≤ _), (by decide : 0 + 0 ≤ _)⟩)
  dsimp only [Pt.U, Pt.locs, Pt.cells, Pt.slots] at X12 l12 y12 z12 st12 hQ12
  subst l12 y12 z12
  obtain ⟨rfl, N12q, e12⟩ := hQ12
  have N12 := Fr.app N0 N12q
  obtain ⟨_, _, ⟨T15, L15, k15, n15⟩, -, X15, ⟨Lc15, hQ15, l15, y15, z15⟩, st15⟩ := Jvm.LawKit.callS X12 hx (y := (⟨"java/util/List", "copyOf", "(Ljava/util/Collection;)Ljava/util/List;"⟩ : MethodName)) hown (mvT hZ (hw _ (List.mem_of_getElem? (i := 137) rfl))) (mvT hZ (hw _ (List.mem_of_getElem? (i := 138) rfl))) (mvT hZ (hw _ (List.mem_of_getElem? (i := 139) rfl))) (mvT hZ (hw _ (List.mem_of_getElem? (i := 140) rfl))) (by decide) (backOf (W := 0) (rm24f l Z A0 hw [] f ka d a3 w_mir__Ljava_lang_Object_ w_EMPTY h0 n0 OLD f_1 f_2 f_3 f_4 f_5 f_6 c_13 f_14) hZ (hw _ (List.mem_of_getElem? (i := 140) rfl)) (hw _ (List.mem_of_getElem? (i := 139) rfl)) (by decide) (by decide)) (g := (mkF m 5 #[vR a0, vR a1, .val .null, vR a3, vR a4] [(.ref a3)])) rfl (by rw [hml]; rfl) (argsL := [(.ref a3)]) (rest := []) (lenOf pd_20 rfl) rfl (by show 2 * 0 + _ ≤ _; exact Nat.le_of_eq rfl) (hb hby d23_5) (fun _ _ => ⟨rfl, e12, (by decide : 0 + 2 ≤ _), (by decide : 0 + 3 ≤ _)⟩)
  dsimp only [Pt.U, Pt.locs, Pt.cells, Pt.slots] at X15 l15 y15 z15 st15 hQ15
  subst l15 y15 z15
  obtain ⟨b3_14_9_15, rfl, N15q, K15, g15_0, g15_1⟩ := hQ15
  have N15 := Fr.app N12 N15q
  have K_16 : Keep h0 T15.heap [a0] := Keep.trans (Keep.refl h0 [a0]) K15 all0
  have f_17 := f_7.keep K15
  have f_18 := f_8.keep K15 nin0
  obtain ⟨T19, h19, X19, e19, W19, st19⟩ := putF X15 hx hZ hown (host := "") (Or.inl (hw _ (List.mem_of_getElem? (i := 222) rfl))) Via.refl rfl f_18 f_17 (Or.inr ⟨(hw _ (List.mem_of_getElem? (i := 223) rfl)), rfl, hnm⟩) (hw _ (List.mem_of_getElem? (i := 131) rfl)) (ty := (.object "java/lang/String")) (by decide) rfl rfl (g := (mkF m 11 #[vR a0, vR a1, .val .null, vR b3_14_9_15, vR a4] [(.ref a1), (.ref a0)])) rfl rfl (hb hby d23_11)
  have N19 := Fr.snoc X19 N15 ge_a0
  have f_20 := f_18.same W19
  have K_21 : Keep h0 h19 [a0] := K_16.wr W19 (Or.inl (List.mem_of_getElem? (i := 0) rfl))
  have f_22 := f_17.wr W19
  have f_23 := f_9.keep K15 nin0
  have f_24 := f_23.other W19 (Or.inr (slot_ne (Or.inr (hw _ (List.mem_of_getElem? (i := 225) rfl))) (Or.inr (hw _ (List.mem_of_getElem? (i := 223) rfl))) (by decide) (t := (.object "com/example/deposita/deposita/core/Product")) (t' := (.object "java/lang/String")) (by decide) (by decide)))
  obtain ⟨T25, h25, X25, e25, W25, st25⟩ := putF X19 hx hZ hown (host := "") (Or.inl (hw _ (List.mem_of_getElem? (i := 224) rfl))) Via.refl e19 f_24 f_22 (Or.inr ⟨(hw _ (List.mem_of_getElem? (i := 225) rfl)), rfl, hnm⟩) (hw _ (List.mem_of_getElem? (i := 131) rfl)) (ty := (.object "com/example/deposita/deposita/core/Product")) (by decide) rfl rfl (g := (mkF m 16 #[vR a0, vR a1, .val .null, vR b3_14_9_15, vR a4] [.null, (.ref a0)])) rfl rfl (hb hby d23_16)
  have N25 := Fr.snoc X25 N19 ge_a0
  have f_26 := f_24.same W25
  have K_27 : Keep h0 h25 [a0] := K_21.wr W25 (Or.inl (List.mem_of_getElem? (i := 0) rfl))
  have f_28 := f_22.wr W25
  have f_29 := f_10.keep K15 nin0
  have f_30 := f_29.other W19 (Or.inr (slot_ne (Or.inr (hw _ (List.mem_of_getElem? (i := 227) rfl))) (Or.inr (hw _ (List.mem_of_getElem? (i := 223) rfl))) (by decide) (t := (.object "java/util/List")) (t' := (.object "java/lang/String")) (by decide) (by decide)))
  have f_31 := f_30.other W25 (Or.inr (slot_ne (Or.inr (hw _ (List.mem_of_getElem? (i := 227) rfl))) (Or.inr (hw _ (List.mem_of_getElem? (i := 225) rfl))) (by decide) (t := (.object "java/util/List")) (t' := (.object "com/example/deposita/deposita/core/Product")) (by decide) (by decide)))
  obtain ⟨T32, h32, X32, e32, W32, st32⟩ := putF X25 hx hZ hown (host := "") (Or.inl (hw _ (List.mem_of_getElem? (i := 226) rfl))) Via.refl e25 f_31 f_28 (Or.inr ⟨(hw _ (List.mem_of_getElem? (i := 227) rfl)), rfl, hnm⟩) (hw _ (List.mem_of_getElem? (i := 131) rfl)) (ty := (.object "java/util/List")) (by decide) rfl rfl (g := (mkF m 21 #[vR a0, vR a1, .val .null, vR b3_14_9_15, vR a4] [(.ref b3_14_9_15), (.ref a0)])) rfl rfl (hb hby d23_21)
  have N32 := Fr.snoc X32 N25 ge_a0
  have f_33 := f_31.same W32
  have K_34 : Keep h0 h32 [a0] := K_27.wr W32 (Or.inl (List.mem_of_getElem? (i := 0) rfl))
  have f_35 := f_28.wr W32
  have f_36 := f_11.keep K15 nin0
  have f_37 := f_36.other W19 (Or.inr (slot_ne (Or.inr (hw _ (List.mem_of_getElem? (i := 229) rfl))) (Or.inr (hw _ (List.mem_of_getElem? (i := 223) rfl))) (by decide) (t := (.object "com/example/deposita/deposita/core/Finding")) (t' := (.object "java/lang/String")) (by decide) (by decide)))
  have f_38 := f_37.other W25 (Or.inr (slot_ne (Or.inr (hw _ (List.mem_of_getElem? (i := 229) rfl))) (Or.inr (hw _ (List.mem_of_getElem? (i := 225) rfl))) (by decide) (t := (.object "com/example/deposita/deposita/core/Finding")) (t' := (.object "com/example/deposita/deposita/core/Product")) (by decide) (by decide)))
  have f_39 := f_38.other W32 (Or.inr (slot_ne (Or.inr (hw _ (List.mem_of_getElem? (i := 229) rfl))) (Or.inr (hw _ (List.mem_of_getElem? (i := 227) rfl))) (by decide) (t := (.object "com/example/deposita/deposita/core/Finding")) (t' := (.object "java/util/List")) (by decide) (by decide)))
  obtain ⟨T40, h40, X40, e40, W40, st40⟩ := putF X32 hx hZ hown (host := "") (Or.inl (hw _ (List.mem_of_getElem? (i := 228) rfl))) Via.refl e32 f_39 f_35 (Or.inr ⟨(hw _ (List.mem_of_getElem? (i := 229) rfl)), rfl, hnm⟩) (hw _ (List.mem_of_getElem? (i := 131) rfl)) (ty := (.object "com/example/deposita/deposita/core/Finding")) (by decide) rfl rfl (g := (mkF m 27 #[vR a0, vR a1, .val .null, vR b3_14_9_15, vR a4] [(.ref a4), (.ref a0)])) rfl rfl (hb hby d23_27)
  have N40 := Fr.snoc X40 N32 ge_a0
  have f_41 := f_39.same W40
  have K_42 : Keep h0 h40 [a0] := K_34.wr W40 (Or.inl (List.mem_of_getElem? (i := 0) rfl))
  have f_43 := g15_1.wr W19
  have f_44 := f_43.wr W25
  have f_45 := f_44.wr W32
  have f_46 := f_45.wr W40
  have f_47 := f_35.wr W40
  have f_48 := f_20.other W25 (Or.inr (slot_ne (Or.inr (hw _ (List.mem_of_getElem? (i := 223) rfl))) (Or.inr (hw _ (List.mem_of_getElem? (i := 225) rfl))) (by decide) (t := (.object "java/lang/String")) (t' := (.object "com/example/deposita/deposita/core/Product")) (by decide) (by decide)))
  have f_49 := f_48.other W32 (Or.inr (slot_ne (Or.inr (hw _ (List.mem_of_getElem? (i := 223) rfl))) (Or.inr (hw _ (List.mem_of_getElem? (i := 227) rfl))) (by decide) (t := (.object "java/lang/String")) (t' := (.object "java/util/List")) (by decide) (by decide)))
  have f_50 := f_49.other W40 (Or.inr (slot_ne (Or.inr (hw _ (List.mem_of_getElem? (i := 223) rfl))) (Or.inr (hw _ (List.mem_of_getElem? (i := 229) rfl))) (by decide) (t := (.object "java/lang/String")) (t' := (.object "com/example/deposita/deposita/core/Finding")) (by decide) (by decide)))
  have f_51 := f_26.other W32 (Or.inr (slot_ne (Or.inr (hw _ (List.mem_of_getElem? (i := 225) rfl))) (Or.inr (hw _ (List.mem_of_getElem? (i := 227) rfl))) (by decide) (t := (.object "com/example/deposita/deposita/core/Product")) (t' := (.object "java/util/List")) (by decide) (by decide)))
  have f_52 := f_51.other W40 (Or.inr (slot_ne (Or.inr (hw _ (List.mem_of_getElem? (i := 225) rfl))) (Or.inr (hw _ (List.mem_of_getElem? (i := 229) rfl))) (by decide) (t := (.object "com/example/deposita/deposita/core/Product")) (t' := (.object "com/example/deposita/deposita/core/Finding")) (by decide) (by decide)))
  have f_53 := f_33.other W40 (Or.inr (slot_ne (Or.inr (hw _ (List.mem_of_getElem? (i := 227) rfl))) (Or.inr (hw _ (List.mem_of_getElem? (i := 229) rfl))) (by decide) (t := (.object "java/util/List")) (t' := (.object "com/example/deposita/deposita/core/Finding")) (by decide) (by decide)))
  obtain ⟨fs, hr, hrun, hended, hW, hsame⟩ := X40.leave (v := none) (fun _ => rfl)
  refine ⟨_, _, pre0 _ ?_, hrun, hended, _, _, rfl, ?_, ⟨_, rfl⟩, hW, hsame.mono (by decide) (by decide)⟩
  · show Steps p.tables e below (s₁.setTop (mkF m 0 #[vR a0, vR a1, .val .null, vR a3, vR a4] [])) _
    refine XS.aloadN X0.here hx rfl (hb hby d23_0) rfl rfl ?_
    refine st12.trans ?_
    show Steps p.tables e below (T12.setTop (mkF m 4 #[vR a0, vR a1, .val .null, vR a3, vR a4] [])) _
    refine XS.aloadN X12.here hx rfl (hb hby d23_4) rfl rfl ?_
    refine st15 _ ?_
    show Steps p.tables e below (T15.setTop (mkF m 8 #[vR a0, vR a1, .val .null, vR a3, vR a4] [(.ref b3_14_9_15)])) _
    refine XS.astoreN X15.here hx rfl (hb hby d23_8) rfl rfl (l' := #[vR a0, vR a1, .val .null, vR b3_14_9_15, vR a4]) rfl ?_
    refine XS.aloadN X15.here hx rfl (hb hby d23_9) rfl rfl ?_
    show Steps p.tables e below (T15.setTop (mkF m 10 #[vR a0, vR a1, .val .null, vR b3_14_9_15, vR a4] [(.ref a0)])) _
    refine XS.aloadN X15.here hx rfl (hb hby d23_10) rfl rfl ?_
    refine st19 _ ?_
    show Steps p.tables e below (T19.setTop (mkF m 14 #[vR a0, vR a1, .val .null, vR b3_14_9_15, vR a4] [])) _
    refine XS.aloadN X19.here hx rfl (hb hby d23_14) rfl rfl ?_
    refine XS.aloadN X19.here hx rfl (hb hby d23_15) rfl rfl ?_
    show Steps p.tables e below (T19.setTop (mkF m 16 #[vR a0, vR a1, .val .null, vR b3_14_9_15, vR a4] [.null, (.ref a0)])) _
    refine st25 _ ?_
    refine XS.aloadN X25.here hx rfl (hb hby d23_19) rfl rfl ?_
    show Steps p.tables e below (T25.setTop (mkF m 20 #[vR a0, vR a1, .val .null, vR b3_14_9_15, vR a4] [(.ref a0)])) _
    refine XS.aloadN X25.here hx rfl (hb hby d23_20) rfl rfl ?_
    refine st32 _ ?_
    show Steps p.tables e below (T32.setTop (mkF m 24 #[vR a0, vR a1, .val .null, vR b3_14_9_15, vR a4] [])) _
    refine XS.aloadN X32.here hx rfl (hb hby d23_24) rfl rfl ?_
    refine XS.aload X32.here hx rfl (hb hby d23_25) rfl rfl ?_
    show Steps p.tables e below (T32.setTop (mkF m 27 #[vR a0, vR a1, .val .null, vR b3_14_9_15, vR a4] [(.ref a4), (.ref a0)])) _
    refine st40 _ ?_
    show Steps p.tables e below (T40.setTop (mkF m 30 #[vR a0, vR a1, .val .null, vR b3_14_9_15, vR a4] [])) _
    exact X40.returnOut hx Bd.returns (hb hby d23_30) hr
  · show Q23f1 Z f ka d a0 a1 a3 a4 u_recordId_a0 u_product_a0 u_warnings_a0 u_refusal_a0 w_mir__Ljava_lang_Object_ w_EMPTY h0 n0 _ T40.heap _
    rw [e40]
    exact ⟨b3_14_9_15, rfl, N40, K_42, (Nat.le_trans (Keep.refl h0 [a0]).1 g15_0), f_46, f_47, f_50, f_52, f_53, f_41⟩
theorem ef_23n2n4 (m : MethodId) (x0 : Addr) (x1 : Addr) (x3 : Addr) : entryFrame m #[(.ref x0), (.ref x1), .null, (.ref x3), .null] 5 = mkF m 0 #[vR x0, vR x1, .val .null, vR x3, .val .null] [] := by first | (simp [entryFrame, mkF, argsToLocals, Value.category]; done) | rfl
def Q23e0 (Z : State) (a0 : Addr) (a1 : Addr) (a3 : Addr) (u_recordId_a0 : Value) (u_product_a0 : Value) (u_warnings_a0 : Value) (u_refusal_a0 : Value) (w_EMPTY_LIST : Addr) (h0 : Heap) (n0 : Nat) (v : Option Value) (h : Heap) (L : List Loc) : Prop := v = none ∧ Fr n0 L ∧ Keep h0 h [a0] ∧ Exa Z h a0 "com/example/deposita/deposita/formats/Mapped" ∧ Fld Z h a0 "com/example/deposita/deposita/formats/Mapped" "recordId" "Ljava/lang/String;" (.ref a1) ∧ Fld Z h a0 "com/example/deposita/deposita/formats/Mapped" "product" "Lcom/example/deposita/deposita/core/Product;" .null ∧ Fld Z h a0 "com/example/deposita/deposita/formats/Mapped" "warnings" "Ljava/util/List;" (.ref w_EMPTY_LIST) ∧ Fld Z h a0 "com/example/deposita/deposita/formats/Mapped" "refusal" "Lcom/example/deposita/deposita/core/Finding;" .null
set_option maxRecDepth 65536 in
set_option maxHeartbeats 40000000 in
theorem rm23e0 (l : Launch) (Z : State) (A0 : Array Value) (hw : ∀ d ∈ tables_1, d.before A0 Z = true) (ws : List Jvm.Cond) (a0 : Addr) (a1 : Addr) (a3 : Addr) (u_recordId_a0 : Value) (u_product_a0 : Value) (u_warnings_a0 : Value) (u_refusal_a0 : Value) (w_EMPTY_LIST : Addr) (h0 : Heap) (n0 : Nat) (OLD : Old Z n0 h0) (f_1 : Exa Z h0 a3 "java/util/ArrayList") (f_2 : Fld Z h0 a3 "java/util/ArrayList" "size" "I" (.int (0 : Int32))) (f_3 : Exa Z h0 a0 "com/example/deposita/deposita/formats/Mapped") (f_4 : Fld Z h0 a0 "com/example/deposita/deposita/formats/Mapped" "recordId" "Ljava/lang/String;" u_recordId_a0) (f_5 : Fld Z h0 a0 "com/example/deposita/deposita/formats/Mapped" "product" "Lcom/example/deposita/deposita/core/Product;" u_product_a0) (f_6 : Fld Z h0 a0 "com/example/deposita/deposita/formats/Mapped" "warnings" "Ljava/util/List;" u_warnings_a0) (f_7 : Fld Z h0 a0 "com/example/deposita/deposita/formats/Mapped" "refusal" "Lcom/example/deposita/deposita/core/Finding;" u_refusal_a0) (f_9 : Sta Z Z.heap "java/util/ImmutableCollections" "EMPTY_LIST" "Ljava/util/ImmutableCollections$ListN;" (.ref w_EMPTY_LIST)) (ge_a0 : n0 ≤ a0) :
    MetFree l (⟨"com/example/deposita/deposita/formats/Mapped", "<init>", "(Ljava/lang/String;Lcom/example/deposita/deposita/core/Product;Ljava/util/List;Lcom/example/deposita/deposita/core/Finding;)V"⟩ : MethodName) (head1 (Jvm.Cond.code (⟨"com/example/deposita/deposita/formats/Mapped", "<init>", "(Ljava/lang/String;Lcom/example/deposita/deposita/core/Product;Ljava/util/List;Lcom/example/deposita/deposita/core/Finding;)V"⟩ : MethodName) prog_44_method_1_code 5 none :: ws) ({ frames := 3, cells := 0, slots := 0, locals := 37 } : Room)) (fun a U => a = #[(.ref a0), (.ref a1), .null, (.ref a3), .null] ∧ Z.Warmed39 U.vm ∧ U.heap = h0) (fun _ _ _ _ _ => True) (fun _ U o U' => ∃ v L, o = .returned v ∧ Q23e0 Z a0 a1 a3 u_recordId_a0 u_product_a0 u_warnings_a0 u_refusal_a0 w_EMPTY_LIST h0 n0 v U'.heap L ∧ FrameEnd U o U' L ({ frames := 3, cells := 0, slots := 0, locals := 37 } : Room).cells ({ frames := 3, cells := 0, slots := 0, locals := 37 } : Room).slots) := by
  refine MetFree.of_bodySF (plainFor_of_name pn_com_example_deposita_deposita_formats_Mapped) hisR ?_
  intro p e s m args below meth c s₁ Bd hml0 hP hK
  obtain ⟨rfl, hZ, hh⟩ := hP
  have hx := Bd.exec
  have hby := Bd.bytes
  have hml : c.maxLocals = 5 := hml0
  have hown : s.vm.findClass "com/example/deposita/deposita/formats/Mapped" = some m.cls := findClass_of_methodNamed Bd.named
  have hnm := (name_of_methodNamed Bd.named Bd.method).1
  have X0 : Stand p l e ({ frames := 3, cells := 0, slots := 0, locals := 37 } : Room) s m #[(.ref a0), (.ref a1), .null, (.ref a3), .null] below meth c s₁ [] 0 0 := Stand.of_body Bd
  have e0 : s₁.heap = h0 := by rw [← hh, Bd.state]; rfl
  have N0 := Fr.nil n0
  have pre0 : ∀ t, Steps p.tables e below (s₁.setTop (mkF m 0 #[vR a0, vR a1, .val .null, vR a3, .val .null] [])) t → Steps p.tables e below (s₁.setTop (entryFrame m #[(.ref a0), (.ref a1), .null, (.ref a3), .null] 5)) t := fun t k => castTop (ef_23n2n4 m a0 a1 a3) k
  obtain ⟨_, _, ⟨T8, L8, k8, n8⟩, -, X8, ⟨Lc8, hQ8, l8, y8, z8⟩, st8⟩ := X0.specialBack hx (y := (⟨"java/lang/Record", "<init>", "()V"⟩ : MethodName)) rfl hown (mvT hZ (hw _ (List.mem_of_getElem? (i := 136) rfl))) (mvT hZ (hw _ (List.mem_of_getElem? (i := 40) rfl))) (mvT hZ (hw _ (List.mem_of_getElem? (i := 43) rfl))) (by decide) (backOf (W := 0) (rm8 l Z A0 hw [] a0 h0 n0 OLD ) hZ (hw _ (List.mem_of_getElem? (i := 43) rfl)) (hw _ (List.mem_of_getElem? (i := 42) rfl)) (by decide) (by decide)) (g := (mkF m 1 #[vR a0, vR a1, .val .null, vR a3, .val .null] [(.ref a0)])) rfl (by rw [hml]; rfl) (Steps.refl _) (a := a0) (argsL := []) (rest := []) (lenOf pd_7 rfl) rfl (by show 2 * 0 + _ ≤ _; exact Nat.le_of_eq rfl) (hb hby d23_1) (fun _ _ => ⟨rfl, e0, (by decide : 0 + 0 ≤ _), (by decide : 0 + 0 ≤ _)⟩)
  dsimp only [Pt.U, Pt.locs, Pt.cells, Pt.slots] at X8 l8 y8 z8 st8 hQ8
  subst l8 y8 z8
  obtain ⟨rfl, N8q, e8⟩ := hQ8
  have N8 := Fr.app N0 N8q
  obtain ⟨_, _, ⟨T10, L10, k10, n10⟩, -, X10, ⟨Lc10, hQ10, l10, y10, z10⟩, st10⟩ := Jvm.LawKit.callS X8 hx (y := (⟨"java/util/List", "copyOf", "(Ljava/util/Collection;)Ljava/util/List;"⟩ : MethodName)) hown (mvT hZ (hw _ (List.mem_of_getElem? (i := 137) rfl))) (mvT hZ (hw _ (List.mem_of_getElem? (i := 138) rfl))) (mvT hZ (hw _ (List.mem_of_getElem? (i := 139) rfl))) (mvT hZ (hw _ (List.mem_of_getElem? (i := 140) rfl))) (by decide) (backOf (W := 0) (rm24e l Z A0 hw [] a3 w_EMPTY_LIST h0 n0 OLD f_1 f_2 f_9) hZ (hw _ (List.mem_of_getElem? (i := 140) rfl)) (hw _ (List.mem_of_getElem? (i := 139) rfl)) (by decide) (by decide)) (g := (mkF m 5 #[vR a0, vR a1, .val .null, vR a3, .val .null] [(.ref a3)])) rfl (by rw [hml]; rfl) (argsL := [(.ref a3)]) (rest := []) (lenOf pd_20 rfl) rfl (by show 2 * 0 + _ ≤ _; exact Nat.le_of_eq rfl) (hb hby d23_5) (fun _ _ => ⟨rfl, e8, (by decide : 0 + 0 ≤ _), (by decide : 0 + 0 ≤ _)⟩)
  dsimp only [Pt.U, Pt.locs, Pt.cells, Pt.slots] at X10 l10 y10 z10 st10 hQ10
  subst l10 y10 z10
  obtain ⟨rfl, N10q, e10⟩ := hQ10
  have N10 := Fr.app N8 N10q
  obtain ⟨T11, h11, X11, e11, W11, st11⟩ := putF X10 hx hZ hown (host := "") (Or.inl (hw _ (List.mem_of_getElem? (i := 222) rfl))) Via.refl e10 f_4 f_3 (Or.inr ⟨(hw _ (List.mem_of_getElem? (i := 223) rfl)), rfl, hnm⟩) (hw _ (List.mem_of_getElem? (i := 131) rfl)) (ty := (.object "java/lang/String")) (by decide) rfl rfl (g := (mkF m 11 #[vR a0, vR a1, .val .null, vR w_EMPTY_LIST, .val .null] [(.ref a1), (.ref a0)])) rfl rfl (hb hby d23_11)
  have N11 := Fr.snoc X11 N10 ge_a0
  have f_12 := f_4.same W11
  have K_13 : Keep h0 h11 [a0] := (Keep.refl h0 [a0]).wr W11 (Or.inl (List.mem_of_getElem? (i := 0) rfl))
  have f_14 := f_3.wr W11
  have f_15 := f_5.other W11 (Or.inr (slot_ne (Or.inr (hw _ (List.mem_of_getElem? (i := 225) rfl))) (Or.inr (hw _ (List.mem_of_getElem? (i := 223) rfl))) (by decide) (t := (.object "com/example/deposita/deposita/core/Product")) (t' := (.object "java/lang/String")) (by decide) (by decide)))
  obtain ⟨T16, h16, X16, e16, W16, st16⟩ := putF X11 hx hZ hown (host := "") (Or.inl (hw _ (List.mem_of_getElem? (i := 224) rfl))) Via.refl e11 f_15 f_14 (Or.inr ⟨(hw _ (List.mem_of_getElem? (i := 225) rfl)), rfl, hnm⟩) (hw _ (List.mem_of_getElem? (i := 131) rfl)) (ty := (.object "com/example/deposita/deposita/core/Product")) (by decide) rfl rfl (g := (mkF m 16 #[vR a0, vR a1, .val .null, vR w_EMPTY_LIST, .val .null] [.null, (.ref a0)])) rfl rfl (hb hby d23_16)
  have N16 := Fr.snoc X16 N11 ge_a0
  have f_17 := f_15.same W16
  have K_18 : Keep h0 h16 [a0] := K_13.wr W16 (Or.inl (List.mem_of_getElem? (i := 0) rfl))
  have f_19 := f_14.wr W16
  have f_20 := f_6.other W11 (Or.inr (slot_ne (Or.inr (hw _ (List.mem_of_getElem? (i := 227) rfl))) (Or.inr (hw _ (List.mem_of_getElem? (i := 223) rfl))) (by decide) (t := (.object "java/util/List")) (t' := (.object "java/lang/String")) (by decide) (by decide)))
  have f_21 := f_20.other W16 (Or.inr (slot_ne (Or.inr (hw _ (List.mem_of_getElem? (i := 227) rfl))) (Or.inr (hw _ (List.mem_of_getElem? (i := 225) rfl))) (by decide) (t := (.object "java/util/List")) (t' := (.object "com/example/deposita/deposita/core/Product")) (by decide) (by decide)))
  obtain ⟨T22, h22, X22, e22, W22, st22⟩ := putF X16 hx hZ hown (host := "") (Or.inl (hw _ (List.mem_of_getElem? (i := 226) rfl))) Via.refl e16 f_21 f_19 (Or.inr ⟨(hw _ (List.mem_of_getElem? (i := 227) rfl)), rfl, hnm⟩) (hw _ (List.mem_of_getElem? (i := 131) rfl)) (ty := (.object "java/util/List")) (by decide) rfl rfl (g := (mkF m 21 #[vR a0, vR a1, .val .null, vR w_EMPTY_LIST, .val .null] [(.ref w_EMPTY_LIST), (.ref a0)])) rfl rfl (hb hby d23_21)
  have N22 := Fr.snoc X22 N16 ge_a0
  have f_23 := f_21.same W22
  have K_24 : Keep h0 h22 [a0] := K_18.wr W22 (Or.inl (List.mem_of_getElem? (i := 0) rfl))
  have f_25 := f_19.wr W22
  have f_26 := f_7.other W11 (Or.inr (slot_ne (Or.inr (hw _ (List.mem_of_getElem? (i := 229) rfl))) (Or.inr (hw _ (List.mem_of_getElem? (i := 223) rfl))) (by decide) (t := (.object "com/example/deposita/deposita/core/Finding")) (t' := (.object "java/lang/String")) (by decide) (by decide)))
  have f_27 := f_26.other W16 (Or.inr (slot_ne (Or.inr (hw _ (List.mem_of_getElem? (i := 229) rfl))) (Or.inr (hw _ (List.mem_of_getElem? (i := 225) rfl))) (by decide) (t := (.object "com/example/deposita/deposita/core/Finding")) (t' := (.object "com/example/deposita/deposita/core/Product")) (by decide) (by decide)))
  have f_28 := f_27.other W22 (Or.inr (slot_ne (Or.inr (hw _ (List.mem_of_getElem? (i := 229) rfl))) (Or.inr (hw _ (List.mem_of_getElem? (i := 227) rfl))) (by decide) (t := (.object "com/example/deposita/deposita/core/Finding")) (t' := (.object "java/util/List")) (by decide) (by decide)))
  obtain ⟨T29, h29, X29, e29, W29, st29⟩ := putF X22 hx hZ hown (host := "") (Or.inl (hw _ (List.mem_of_getElem? (i := 228) rfl))) Via.refl e22 f_28 f_25 (Or.inr ⟨(hw _ (List.mem_of_getElem? (i := 229) rfl)), rfl, hnm⟩) (hw _ (List.mem_of_getElem? (i := 131) rfl)) (ty := (.object "com/example/deposita/deposita/core/Finding")) (by decide) rfl rfl (g := (mkF m 27 #[vR a0, vR a1, .val .null, vR w_EMPTY_LIST, .val .null] [.null, (.ref a0)])) rfl rfl (hb hby d23_27)
  have N29 := Fr.snoc X29 N22 ge_a0
  have f_30 := f_28.same W29
  have K_31 : Keep h0 h29 [a0] := K_24.wr W29 (Or.inl (List.mem_of_getElem? (i := 0) rfl))
  have f_32 := f_25.wr W29
  have f_33 := f_12.other W16 (Or.inr (slot_ne (Or.inr (hw _ (List.mem_of_getElem? (i := 223) rfl))) (Or.inr (hw _ (List.mem_of_getElem? (i := 225) rfl))) (by decide) (t := (.object "java/lang/String")) (t' := (.object "com/example/deposita/deposita/core/Product")) (by decide) (by decide)))
  have f_34 := f_33.other W22 (Or.inr (slot_ne (Or.inr (hw _ (List.mem_of_getElem? (i := 223) rfl))) (Or.inr (hw _ (List.mem_of_getElem? (i := 227) rfl))) (by decide) (t := (.object "java/lang/String")) (t' := (.object "java/util/List")) (by decide) (by decide)))
  have f_35 := f_34.other W29 (Or.inr (slot_ne (Or.inr (hw _ (List.mem_of_getElem? (i := 223) rfl))) (Or.inr (hw _ (List.mem_of_getElem? (i := 229) rfl))) (by decide) (t := (.object "java/lang/String")) (t' := (.object "com/example/deposita/deposita/core/Finding")) (by decide) (by decide)))
  have f_36 := f_17.other W22 (Or.inr (slot_ne (Or.inr (hw _ (List.mem_of_getElem? (i := 225) rfl))) (Or.inr (hw _ (List.mem_of_getElem? (i := 227) rfl))) (by decide) (t := (.object "com/example/deposita/deposita/core/Product")) (t' := (.object "java/util/List")) (by decide) (by decide)))
  have f_37 := f_36.other W29 (Or.inr (slot_ne (Or.inr (hw _ (List.mem_of_getElem? (i := 225) rfl))) (Or.inr (hw _ (List.mem_of_getElem? (i := 229) rfl))) (by decide) (t := (.object "com/example/deposita/deposita/core/Product")) (t' := (.object "com/example/deposita/deposita/core/Finding")) (by decide) (by decide)))
  have f_38 := f_23.other W29 (Or.inr (slot_ne (Or.inr (hw _ (List.mem_of_getElem? (i := 227) rfl))) (Or.inr (hw _ (List.mem_of_getElem? (i := 229) rfl))) (by decide) (t := (.object "java/util/List")) (t' := (.object "com/example/deposita/deposita/core/Finding")) (by decide) (by decide)))
  obtain ⟨fs, hr, hrun, hended, hW, hsame⟩ := X29.leave (v := none) (fun _ => rfl)
  refine ⟨_, _, pre0 _ ?_, hrun, hended, _, _, rfl, ?_, ⟨_, rfl⟩, hW, hsame.mono (by decide) (by decide)⟩
  · show Steps p.tables e below (s₁.setTop (mkF m 0 #[vR a0, vR a1, .val .null, vR a3, .val .null] [])) _
    refine XS.aloadN X0.here hx rfl (hb hby d23_0) rfl rfl ?_
    refine st8.trans ?_
    show Steps p.tables e below (T8.setTop (mkF m 4 #[vR a0, vR a1, .val .null, vR a3, .val .null] [])) _
    refine XS.aloadN X8.here hx rfl (hb hby d23_4) rfl rfl ?_
    refine st10 _ ?_
    show Steps p.tables e below (T10.setTop (mkF m 8 #[vR a0, vR a1, .val .null, vR a3, .val .null] [(.ref w_EMPTY_LIST)])) _
    refine XS.astoreN X10.here hx rfl (hb hby d23_8) rfl rfl (l' := #[vR a0, vR a1, .val .null, vR w_EMPTY_LIST, .val .null]) rfl ?_
    refine XS.aloadN X10.here hx rfl (hb hby d23_9) rfl rfl ?_
    show Steps p.tables e below (T10.setTop (mkF m 10 #[vR a0, vR a1, .val .null, vR w_EMPTY_LIST, .val .null] [(.ref a0)])) _
    refine XS.aloadN X10.here hx rfl (hb hby d23_10) rfl rfl ?_
    refine st11 _ ?_
    show Steps p.tables e below (T11.setTop (mkF m 14 #[vR a0, vR a1, .val .null, vR w_EMPTY_LIST, .val .null] [])) _
    refine XS.aloadN X11.here hx rfl (hb hby d23_14) rfl rfl ?_
    refine XS.aloadN X11.here hx rfl (hb hby d23_15) rfl rfl ?_
    show Steps p.tables e below (T11.setTop (mkF m 16 #[vR a0, vR a1, .val .null, vR w_EMPTY_LIST, .val .null] [.null, (.ref a0)])) _
    refine st16 _ ?_
    refine XS.aloadN X16.here hx rfl (hb hby d23_19) rfl rfl ?_
    show Steps p.tables e below (T16.setTop (mkF m 20 #[vR a0, vR a1, .val .null, vR w_EMPTY_LIST, .val .null] [(.ref a0)])) _
    refine XS.aloadN X16.here hx rfl (hb hby d23_20) rfl rfl ?_
    refine st22 _ ?_
    show Steps p.tables e below (T22.setTop (mkF m 24 #[vR a0, vR a1, .val .null, vR w_EMPTY_LIST, .val .null] [])) _
    refine XS.aloadN X22.here hx rfl (hb hby d23_24) rfl rfl ?_
    refine XS.aload X22.here hx rfl (hb hby d23_25) rfl rfl ?_
    show Steps p.tables e below (T22.setTop (mkF m 27 #[vR a0, vR a1, .val .null, vR w_EMPTY_LIST, .val .null] [.null, (.ref a0)])) _
    refine st29 _ ?_
    show Steps p.tables e below (T29.setTop (mkF m 30 #[vR a0, vR a1, .val .null, vR w_EMPTY_LIST, .val .null] [])) _
    exact X29.returnOut hx Bd.returns (hb hby d23_30) hr
  · show Q23e0 Z a0 a1 a3 u_recordId_a0 u_product_a0 u_warnings_a0 u_refusal_a0 w_EMPTY_LIST h0 n0 _ T29.heap _
    rw [e29]
    exact ⟨rfl, N29, K_31, f_32, f_35, f_37, f_38, f_30⟩
def Q23f0 (Z : State) (f : Addr) (ka : ClassId) (d : Addr) (a0 : Addr) (a1 : Addr) (a3 : Addr) (u_recordId_a0 : Value) (u_product_a0 : Value) (u_warnings_a0 : Value) (u_refusal_a0 : Value) (w_mir__Ljava_lang_Object_ : Addr) (w_EMPTY : Addr) (h0 : Heap) (n0 : Nat) (v : Option Value) (h : Heap) (L : List Loc) : Prop := ∃ b3_14_9_15 : Addr, v = none ∧ Fr n0 L ∧ Keep h0 h [a0] ∧ h0.size ≤ b3_14_9_15 ∧ Exa Z h b3_14_9_15 "java/util/ImmutableCollections$List12" ∧ Exa Z h a0 "com/example/deposita/deposita/formats/Mapped" ∧ Fld Z h a0 "com/example/deposita/deposita/formats/Mapped" "recordId" "Ljava/lang/String;" (.ref a1) ∧ Fld Z h a0 "com/example/deposita/deposita/formats/Mapped" "product" "Lcom/example/deposita/deposita/core/Product;" .null ∧ Fld Z h a0 "com/example/deposita/deposita/formats/Mapped" "warnings" "Ljava/util/List;" (.ref b3_14_9_15) ∧ Fld Z h a0 "com/example/deposita/deposita/formats/Mapped" "refusal" "Lcom/example/deposita/deposita/core/Finding;" .null
set_option maxRecDepth 65536 in
set_option maxHeartbeats 40000000 in
theorem rm23f0 (l : Launch) (Z : State) (A0 : Array Value) (hw : ∀ d ∈ tables_1, d.before A0 Z = true) (ws : List Jvm.Cond) (f : Addr) (ka : ClassId) (d : Addr) (a0 : Addr) (a1 : Addr) (a3 : Addr) (u_recordId_a0 : Value) (u_product_a0 : Value) (u_warnings_a0 : Value) (u_refusal_a0 : Value) (w_mir__Ljava_lang_Object_ : Addr) (w_EMPTY : Addr) (h0 : Heap) (n0 : Nat) (OLD : Old Z n0 h0) (f_1 : Exa Z h0 a3 "java/util/ArrayList") (f_2 : Fld Z h0 a3 "java/util/ArrayList" "elementData" "[Ljava/lang/Object;" (.ref d)) (f_3 : Fld Z h0 a3 "java/util/ArrayList" "size" "I" (.int (1 : Int32))) (f_4 : Arv Z h0 d ka (.object "java/lang/Object") (10 : Int32) [(.ref f), .null, .null, .null, .null, .null, .null, .null, .null, .null] .null) (f_5 : Exa Z h0 d "[Ljava/lang/Object;") (f_6 : Exa Z h0 f "com/example/deposita/deposita/core/Finding") (f_7 : Exa Z h0 a0 "com/example/deposita/deposita/formats/Mapped") (f_8 : Fld Z h0 a0 "com/example/deposita/deposita/formats/Mapped" "recordId" "Ljava/lang/String;" u_recordId_a0) (f_9 : Fld Z h0 a0 "com/example/deposita/deposita/formats/Mapped" "product" "Lcom/example/deposita/deposita/core/Product;" u_product_a0) (f_10 : Fld Z h0 a0 "com/example/deposita/deposita/formats/Mapped" "warnings" "Ljava/util/List;" u_warnings_a0) (f_11 : Fld Z h0 a0 "com/example/deposita/deposita/formats/Mapped" "refusal" "Lcom/example/deposita/deposita/core/Finding;" u_refusal_a0) (c_13 : own_Mir Z "[Ljava/lang/Object;" w_mir__Ljava_lang_Object_) (f_14 : Sta Z Z.heap "java/util/ImmutableCollections" "EMPTY" "Ljava/lang/Object;" (.ref w_EMPTY)) (ge_a0 : n0 ≤ a0) :
    MetFree l (⟨"com/example/deposita/deposita/formats/Mapped", "<init>", "(Ljava/lang/String;Lcom/example/deposita/deposita/core/Product;Ljava/util/List;Lcom/example/deposita/deposita/core/Finding;)V"⟩ : MethodName) (head1 (Jvm.Cond.code (⟨"com/example/deposita/deposita/formats/Mapped", "<init>", "(Ljava/lang/String;Lcom/example/deposita/deposita/core/Product;Ljava/util/List;Lcom/example/deposita/deposita/core/Finding;)V"⟩ : MethodName) prog_44_method_1_code 5 none :: ws) ({ frames := 8, cells := 2, slots := 3, locals := 105 } : Room)) (fun a U => a = #[(.ref a0), (.ref a1), .null, (.ref a3), .null] ∧ Z.Warmed39 U.vm ∧ U.heap = h0) (fun _ _ _ _ _ => True) (fun _ U o U' => ∃ v L, o = .returned v ∧ Q23f0 Z f ka d a0 a1 a3 u_recordId_a0 u_product_a0 u_warnings_a0 u_refusal_a0 w_mir__Ljava_lang_Object_ w_EMPTY h0 n0 v U'.heap L ∧ FrameEnd U o U' L ({ frames := 8, cells := 2, slots := 3, locals := 105 } : Room).cells ({ frames := 8, cells := 2, slots := 3, locals := 105 } : Room).slots) := by
  refine MetFree.of_bodySF (plainFor_of_name pn_com_example_deposita_deposita_formats_Mapped) hisR ?_
  intro p e s m args below meth c s₁ Bd hml0 hP hK
  obtain ⟨rfl, hZ, hh⟩ := hP
  have hx := Bd.exec
  have hby := Bd.bytes
  have hml : c.maxLocals = 5 := hml0
  have hown : s.vm.findClass "com/example/deposita/deposita/formats/Mapped" = some m.cls := findClass_of_methodNamed Bd.named
  have hnm := (name_of_methodNamed Bd.named Bd.method).1
  have X0 : Stand p l e ({ frames := 8, cells := 2, slots := 3, locals := 105 } : Room) s m #[(.ref a0), (.ref a1), .null, (.ref a3), .null] below meth c s₁ [] 0 0 := Stand.of_body Bd
  have e0 : s₁.heap = h0 := by rw [← hh, Bd.state]; rfl
  have N0 := Fr.nil n0
  have pre0 : ∀ t, Steps p.tables e below (s₁.setTop (mkF m 0 #[vR a0, vR a1, .val .null, vR a3, .val .null] [])) t → Steps p.tables e below (s₁.setTop (entryFrame m #[(.ref a0), (.ref a1), .null, (.ref a3), .null] 5)) t := fun t k => castTop (ef_23n2n4 m a0 a1 a3) k
  obtain ⟨_, _, ⟨T12, L12, k12, n12⟩, -, X12, ⟨Lc12, hQ12, l12, y12, z12⟩, st12⟩ := X0.specialBack hx (y := (⟨"java/lang/Record", "<init>", "()V"⟩ : MethodName)) rfl hown (mvT hZ (hw _ (List.mem_of_getElem? (i := 136) rfl))) (mvT hZ (hw _ (List.mem_of_getElem? (i := 40) rfl))) (mvT hZ (hw _ (List.mem_of_getElem? (i := 43) rfl))) (by decide) (backOf (W := 0) (rm8 l Z A0 hw [] a0 h0 n0 OLD ) hZ (hw _ (List.mem_of_getElem? (i := 43) rfl)) (hw _ (List.mem_of_getElem? (i := 42) rfl)) (by decide) (by decide)) (g := (mkF m 1 #[vR a0, vR a1, .val .null, vR a3, .val .null] [(.ref a0)])) rfl (by rw [hml]; rfl) (Steps.refl _) (a := a0) (argsL := []) (rest := []) (lenOf pd_7 rfl) rfl (by show 2 * 0 + _ ≤ _; exact Nat.le_of_eq rfl) (hb hby d23_1) (fun _ _ => ⟨rfl, e0, (by decide : 0 + 0 ≤ _), (by decide : 0 + 0 ≤ _)⟩)
  dsimp only [Pt.U, Pt.locs, Pt.cells, Pt.slots] at X12 l12 y12 z12 st12 hQ12
  subst l12 y12 z12
  obtain ⟨rfl, N12q, e12⟩ := hQ12
  have N12 := Fr.app N0 N12q
  obtain ⟨_, _, ⟨T15, L15, k15, n15⟩, -, X15, ⟨Lc15, hQ15, l15, y15, z15⟩, st15⟩ := Jvm.LawKit.callS X12 hx (y := (⟨"java/util/List", "copyOf", "(Ljava/util/Collection;)Ljava/util/List;"⟩ : MethodName)) hown (mvT hZ (hw _ (List.mem_of_getElem? (i := 137) rfl))) (mvT hZ (hw _ (List.mem_of_getElem? (i := 138) rfl))) (mvT hZ (hw _ (List.mem_of_getElem? (i := 139) rfl))) (mvT hZ (hw _ (List.mem_of_getElem? (i := 140) rfl))) (by decide) (backOf (W := 0) (rm24f l Z A0 hw [] f ka d a3 w_mir__Ljava_lang_Object_ w_EMPTY h0 n0 OLD f_1 f_2 f_3 f_4 f_5 f_6 c_13 f_14) hZ (hw _ (List.mem_of_getElem? (i := 140) rfl)) (hw _ (List.mem_of_getElem? (i := 139) rfl)) (by decide) (by decide)) (g := (mkF m 5 #[vR a0, vR a1, .val .null, vR a3, .val .null] [(.ref a3)])) rfl (by rw [hml]; rfl) (argsL := [(.ref a3)]) (rest := []) (lenOf pd_20 rfl) rfl (by show 2 * 0 + _ ≤ _; exact Nat.le_of_eq rfl) (hb hby d23_5) (fun _ _ => ⟨rfl, e12, (by decide : 0 + 2 ≤ _), (by decide : 0 + 3 ≤ _)⟩)
  dsimp only [Pt.U, Pt.locs, Pt.cells, Pt.slots] at X15 l15 y15 z15 st15 hQ15
  subst l15 y15 z15
  obtain ⟨b3_14_9_15, rfl, N15q, K15, g15_0, g15_1⟩ := hQ15
  have N15 := Fr.app N12 N15q
  have K_16 : Keep h0 T15.heap [a0] := Keep.trans (Keep.refl h0 [a0]) K15 all0
  have f_17 := f_7.keep K15
  have f_18 := f_8.keep K15 nin0
  obtain ⟨T19, h19, X19, e19, W19, st19⟩ := putF X15 hx hZ hown (host := "") (Or.inl (hw _ (List.mem_of_getElem? (i := 222) rfl))) Via.refl rfl f_18 f_17 (Or.inr ⟨(hw _ (List.mem_of_getElem? (i := 223) rfl)), rfl, hnm⟩) (hw _ (List.mem_of_getElem? (i := 131) rfl)) (ty := (.object "java/lang/String")) (by decide) rfl rfl (g := (mkF m 11 #[vR a0, vR a1, .val .null, vR b3_14_9_15, .val .null] [(.ref a1), (.ref a0)])) rfl rfl (hb hby d23_11)
  have N19 := Fr.snoc X19 N15 ge_a0
  have f_20 := f_18.same W19
  have K_21 : Keep h0 h19 [a0] := K_16.wr W19 (Or.inl (List.mem_of_getElem? (i := 0) rfl))
  have f_22 := f_17.wr W19
  have f_23 := f_9.keep K15 nin0
  have f_24 := f_23.other W19 (Or.inr (slot_ne (Or.inr (hw _ (List.mem_of_getElem? (i := 225) rfl))) (Or.inr (hw _ (List.mem_of_getElem? (i := 223) rfl))) (by decide) (t := (.object "com/example/deposita/deposita/core/Product")) (t' := (.object "java/lang/String")) (by decide) (by decide)))
  obtain ⟨T25, h25, X25, e25, W25, st25⟩ := putF X19 hx hZ hown (host := "") (Or.inl (hw _ (List.mem_of_getElem? (i := 224) rfl))) Via.refl e19 f_24 f_22 (Or.inr ⟨(hw _ (List.mem_of_getElem? (i := 225) rfl)), rfl, hnm⟩) (hw _ (List.mem_of_getElem? (i := 131) rfl)) (ty := (.object "com/example/deposita/deposita/core/Product")) (by decide) rfl rfl (g := (mkF m 16 #[vR a0, vR a1, .val .null, vR b3_14_9_15, .val .null] [.null, (.ref a0)])) rfl rfl (hb hby d23_16)
  have N25 := Fr.snoc X25 N19 ge_a0
  have f_26 := f_24.same W25
  have K_27 : Keep h0 h25 [a0] := K_21.wr W25 (Or.inl (List.mem_of_getElem? (i := 0) rfl))
  have f_28 := f_22.wr W25
  have f_29 := f_10.keep K15 nin0
  have f_30 := f_29.other W19 (Or.inr (slot_ne (Or.inr (hw _ (List.mem_of_getElem? (i := 227) rfl))) (Or.inr (hw _ (List.mem_of_getElem? (i := 223) rfl))) (by decide) (t := (.object "java/util/List")) (t' := (.object "java/lang/String")) (by decide) (by decide)))
  have f_31 := f_30.other W25 (Or.inr (slot_ne (Or.inr (hw _ (List.mem_of_getElem? (i := 227) rfl))) (Or.inr (hw _ (List.mem_of_getElem? (i := 225) rfl))) (by decide) (t := (.object "java/util/List")) (t' := (.object "com/example/deposita/deposita/core/Product")) (by decide) (by decide)))
  obtain ⟨T32, h32, X32, e32, W32, st32⟩ := putF X25 hx hZ hown (host := "") (Or.inl (hw _ (List.mem_of_getElem? (i := 226) rfl))) Via.refl e25 f_31 f_28 (Or.inr ⟨(hw _ (List.mem_of_getElem? (i := 227) rfl)), rfl, hnm⟩) (hw _ (List.mem_of_getElem? (i := 131) rfl)) (ty := (.object "java/util/List")) (by decide) rfl rfl (g := (mkF m 21 #[vR a0, vR a1, .val .null, vR b3_14_9_15, .val .null] [(.ref b3_14_9_15), (.ref a0)])) rfl rfl (hb hby d23_21)
  have N32 := Fr.snoc X32 N25 ge_a0
  have f_33 := f_31.same W32
  have K_34 : Keep h0 h32 [a0] := K_27.wr W32 (Or.inl (List.mem_of_getElem? (i := 0) rfl))
  have f_35 := f_28.wr W32
  have f_36 := f_11.keep K15 nin0
  have f_37 := f_36.other W19 (Or.inr (slot_ne (Or.inr (hw _ (List.mem_of_getElem? (i := 229) rfl))) (Or.inr (hw _ (List.mem_of_getElem? (i := 223) rfl))) (by decide) (t := (.object "com/example/deposita/deposita/core/Finding")) (t' := (.object "java/lang/String")) (by decide) (by decide)))
  have f_38 := f_37.other W25 (Or.inr (slot_ne (Or.inr (hw _ (List.mem_of_getElem? (i := 229) rfl))) (Or.inr (hw _ (List.mem_of_getElem? (i := 225) rfl))) (by decide) (t := (.object "com/example/deposita/deposita/core/Finding")) (t' := (.object "com/example/deposita/deposita/core/Product")) (by decide) (by decide)))
  have f_39 := f_38.other W32 (Or.inr (slot_ne (Or.inr (hw _ (List.mem_of_getElem? (i := 229) rfl))) (Or.inr (hw _ (List.mem_of_getElem? (i := 227) rfl))) (by decide) (t := (.object "com/example/deposita/deposita/core/Finding")) (t' := (.object "java/util/List")) (by decide) (by decide)))
  obtain ⟨T40, h40, X40, e40, W40, st40⟩ := putF X32 hx hZ hown (host := "") (Or.inl (hw _ (List.mem_of_getElem? (i := 228) rfl))) Via.refl e32 f_39 f_35 (Or.inr ⟨(hw _ (List.mem_of_getElem? (i := 229) rfl)), rfl, hnm⟩) (hw _ (List.mem_of_getElem? (i := 131) rfl)) (ty := (.object "com/example/deposita/deposita/core/Finding")) (by decide) rfl rfl (g := (mkF m 27 #[vR a0, vR a1, .val .null, vR b3_14_9_15, .val .null] [.null, (.ref a0)])) rfl rfl (hb hby d23_27)
  have N40 := Fr.snoc X40 N32 ge_a0
  have f_41 := f_39.same W40
  have K_42 : Keep h0 h40 [a0] := K_34.wr W40 (Or.inl (List.mem_of_getElem? (i := 0) rfl))
  have f_43 := g15_1.wr W19
  have f_44 := f_43.wr W25
  have f_45 := f_44.wr W32
  have f_46 := f_45.wr W40
  have f_47 := f_35.wr W40
  have f_48 := f_20.other W25 (Or.inr (slot_ne (Or.inr (hw _ (List.mem_of_getElem? (i := 223) rfl))) (Or.inr (hw _ (List.mem_of_getElem? (i := 225) rfl))) (by decide) (t := (.object "java/lang/String")) (t' := (.object "com/example/deposita/deposita/core/Product")) (by decide) (by decide)))
  have f_49 := f_48.other W32 (Or.inr (slot_ne (Or.inr (hw _ (List.mem_of_getElem? (i := 223) rfl))) (Or.inr (hw _ (List.mem_of_getElem? (i := 227) rfl))) (by decide) (t := (.object "java/lang/String")) (t' := (.object "java/util/List")) (by decide) (by decide)))
  have f_50 := f_49.other W40 (Or.inr (slot_ne (Or.inr (hw _ (List.mem_of_getElem? (i := 223) rfl))) (Or.inr (hw _ (List.mem_of_getElem? (i := 229) rfl))) (by decide) (t := (.object "java/lang/String")) (t' := (.object "com/example/deposita/deposita/core/Finding")) (by decide) (by decide)))
  have f_51 := f_26.other W32 (Or.inr (slot_ne (Or.inr (hw _ (List.mem_of_getElem? (i := 225) rfl))) (Or.inr (hw _ (List.mem_of_getElem? (i := 227) rfl))) (by decide) (t := (.object "com/example/deposita/deposita/core/Product")) (t' := (.object "java/util/List")) (by decide) (by decide)))
  have f_52 := f_51.other W40 (Or.inr (slot_ne (Or.inr (hw _ (List.mem_of_getElem? (i := 225) rfl))) (Or.inr (hw _ (List.mem_of_getElem? (i := 229) rfl))) (by decide) (t := (.object "com/example/deposita/deposita/core/Product")) (t' := (.object "com/example/deposita/deposita/core/Finding")) (by decide) (by decide)))
  have f_53 := f_33.other W40 (Or.inr (slot_ne (Or.inr (hw _ (List.mem_of_getElem? (i := 227) rfl))) (Or.inr (hw _ (List.mem_of_getElem? (i := 229) rfl))) (by decide) (t := (.object "java/util/List")) (t' := (.object "com/example/deposita/deposita/core/Finding")) (by decide) (by decide)))
  obtain ⟨fs, hr, hrun, hended, hW, hsame⟩ := X40.leave (v := none) (fun _ => rfl)
  refine ⟨_, _, pre0 _ ?_, hrun, hended, _, _, rfl, ?_, ⟨_, rfl⟩, hW, hsame.mono (by decide) (by decide)⟩
  · show Steps p.tables e below (s₁.setTop (mkF m 0 #[vR a0, vR a1, .val .null, vR a3, .val .null] [])) _
    refine XS.aloadN X0.here hx rfl (hb hby d23_0) rfl rfl ?_
    refine st12.trans ?_
    show Steps p.tables e below (T12.setTop (mkF m 4 #[vR a0, vR a1, .val .null, vR a3, .val .null] [])) _
    refine XS.aloadN X12.here hx rfl (hb hby d23_4) rfl rfl ?_
    refine st15 _ ?_
    show Steps p.tables e below (T15.setTop (mkF m 8 #[vR a0, vR a1, .val .null, vR a3, .val .null] [(.ref b3_14_9_15)])) _
    refine XS.astoreN X15.here hx rfl (hb hby d23_8) rfl rfl (l' := #[vR a0, vR a1, .val .null, vR b3_14_9_15, .val .null]) rfl ?_
    refine XS.aloadN X15.here hx rfl (hb hby d23_9) rfl rfl ?_
    show Steps p.tables e below (T15.setTop (mkF m 10 #[vR a0, vR a1, .val .null, vR b3_14_9_15, .val .null] [(.ref a0)])) _
    refine XS.aloadN X15.here hx rfl (hb hby d23_10) rfl rfl ?_
    refine st19 _ ?_
    show Steps p.tables e below (T19.setTop (mkF m 14 #[vR a0, vR a1, .val .null, vR b3_14_9_15, .val .null] [])) _
    refine XS.aloadN X19.here hx rfl (hb hby d23_14) rfl rfl ?_
    refine XS.aloadN X19.here hx rfl (hb hby d23_15) rfl rfl ?_
    show Steps p.tables e below (T19.setTop (mkF m 16 #[vR a0, vR a1, .val .null, vR b3_14_9_15, .val .null] [.null, (.ref a0)])) _
    refine st25 _ ?_
    refine XS.aloadN X25.here hx rfl (hb hby d23_19) rfl rfl ?_
    show Steps p.tables e below (T25.setTop (mkF m 20 #[vR a0, vR a1, .val .null, vR b3_14_9_15, .val .null] [(.ref a0)])) _
    refine XS.aloadN X25.here hx rfl (hb hby d23_20) rfl rfl ?_
    refine st32 _ ?_
    show Steps p.tables e below (T32.setTop (mkF m 24 #[vR a0, vR a1, .val .null, vR b3_14_9_15, .val .null] [])) _
    refine XS.aloadN X32.here hx rfl (hb hby d23_24) rfl rfl ?_
    refine XS.aload X32.here hx rfl (hb hby d23_25) rfl rfl ?_
    show Steps p.tables e below (T32.setTop (mkF m 27 #[vR a0, vR a1, .val .null, vR b3_14_9_15, .val .null] [.null, (.ref a0)])) _
    refine st40 _ ?_
    show Steps p.tables e below (T40.setTop (mkF m 30 #[vR a0, vR a1, .val .null, vR b3_14_9_15, .val .null] [])) _
    exact X40.returnOut hx Bd.returns (hb hby d23_30) hr
  · show Q23f0 Z f ka d a0 a1 a3 u_recordId_a0 u_product_a0 u_warnings_a0 u_refusal_a0 w_mir__Ljava_lang_Object_ w_EMPTY h0 n0 _ T40.heap _
    rw [e40]
    exact ⟨b3_14_9_15, rfl, N40, K_42, (Nat.le_trans (Keep.refl h0 [a0]).1 g15_0), f_46, f_47, f_50, f_52, f_53, f_41⟩
def Q23n1 (Z : State) (a0 : Addr) (a1 : Addr) (a3 : Addr) (a4 : Addr) (u_recordId_a0 : Value) (u_product_a0 : Value) (u_warnings_a0 : Value) (u_refusal_a0 : Value) (h0 : Heap) (n0 : Nat) (v : Option Value) (h : Heap) (L : List Loc) : Prop := v = none ∧ Fr n0 L ∧ Keep h0 h [a0] ∧ Exa Z h a0 "com/example/deposita/deposita/formats/Mapped" ∧ Fld Z h a0 "com/example/deposita/deposita/formats/Mapped" "recordId" "Ljava/lang/String;" (.ref a1) ∧ Fld Z h a0 "com/example/deposita/deposita/formats/Mapped" "product" "Lcom/example/deposita/deposita/core/Product;" .null ∧ Fld Z h a0 "com/example/deposita/deposita/formats/Mapped" "warnings" "Ljava/util/List;" (.ref a3) ∧ Fld Z h a0 "com/example/deposita/deposita/formats/Mapped" "refusal" "Lcom/example/deposita/deposita/core/Finding;" (.ref a4)
set_option maxRecDepth 65536 in
set_option maxHeartbeats 40000000 in
theorem rm23n1 (l : Launch) (Z : State) (A0 : Array Value) (hw : ∀ d ∈ tables_1, d.before A0 Z = true) (ws : List Jvm.Cond) (a0 : Addr) (a1 : Addr) (a3 : Addr) (a4 : Addr) (u_recordId_a0 : Value) (u_product_a0 : Value) (u_warnings_a0 : Value) (u_refusal_a0 : Value) (h0 : Heap) (n0 : Nat) (OLD : Old Z n0 h0) (f_1 : Exa Z Z.heap a3 "java/util/ImmutableCollections$ListN") (f_2 : Fld Z Z.heap a3 "java/util/ImmutableCollections$ListN" "allowNulls" "Z" (.int (0 : Int32))) (f_3 : Exa Z h0 a0 "com/example/deposita/deposita/formats/Mapped") (f_4 : Fld Z h0 a0 "com/example/deposita/deposita/formats/Mapped" "recordId" "Ljava/lang/String;" u_recordId_a0) (f_5 : Fld Z h0 a0 "com/example/deposita/deposita/formats/Mapped" "product" "Lcom/example/deposita/deposita/core/Product;" u_product_a0) (f_6 : Fld Z h0 a0 "com/example/deposita/deposita/formats/Mapped" "warnings" "Ljava/util/List;" u_warnings_a0) (f_7 : Fld Z h0 a0 "com/example/deposita/deposita/formats/Mapped" "refusal" "Lcom/example/deposita/deposita/core/Finding;" u_refusal_a0) (ge_a0 : n0 ≤ a0) :
    MetFree l (⟨"com/example/deposita/deposita/formats/Mapped", "<init>", "(Ljava/lang/String;Lcom/example/deposita/deposita/core/Product;Ljava/util/List;Lcom/example/deposita/deposita/core/Finding;)V"⟩ : MethodName) (head1 (Jvm.Cond.code (⟨"com/example/deposita/deposita/formats/Mapped", "<init>", "(Ljava/lang/String;Lcom/example/deposita/deposita/core/Product;Ljava/util/List;Lcom/example/deposita/deposita/core/Finding;)V"⟩ : MethodName) prog_44_method_1_code 5 none :: ws) ({ frames := 2, cells := 0, slots := 0, locals := 25 } : Room)) (fun a U => a = #[(.ref a0), (.ref a1), .null, (.ref a3), (.ref a4)] ∧ Z.Warmed39 U.vm ∧ U.heap = h0) (fun _ _ _ _ _ => True) (fun _ U o U' => ∃ v L, o = .returned v ∧ Q23n1 Z a0 a1 a3 a4 u_recordId_a0 u_product_a0 u_warnings_a0 u_refusal_a0 h0 n0 v U'.heap L ∧ FrameEnd U o U' L ({ frames := 2, cells := 0, slots := 0, locals := 25 } : Room).cells ({ frames := 2, cells := 0, slots := 0, locals := 25 } : Room).slots) := by
  refine MetFree.of_bodySF (plainFor_of_name pn_com_example_deposita_deposita_formats_Mapped) hisR ?_
  intro p e s m args below meth c s₁ Bd hml0 hP hK
  obtain ⟨rfl, hZ, hh⟩ := hP
  have hx := Bd.exec
  have hby := Bd.bytes
  have hml : c.maxLocals = 5 := hml0
  have hown : s.vm.findClass "com/example/deposita/deposita/formats/Mapped" = some m.cls := findClass_of_methodNamed Bd.named
  have hnm := (name_of_methodNamed Bd.named Bd.method).1
  have X0 : Stand p l e ({ frames := 2, cells := 0, slots := 0, locals := 25 } : Room) s m #[(.ref a0), (.ref a1), .null, (.ref a3), (.ref a4)] below meth c s₁ [] 0 0 := Stand.of_body Bd
  have e0 : s₁.heap = h0 := by rw [← hh, Bd.state]; rfl
  have N0 := Fr.nil n0
  have pre0 : ∀ t, Steps p.tables e below (s₁.setTop (mkF m 0 #[vR a0, vR a1, .val .null, vR a3, vR a4] [])) t → Steps p.tables e below (s₁.setTop (entryFrame m #[(.ref a0), (.ref a1), .null, (.ref a3), (.ref a4)] 5)) t := fun t k => castTop (ef_23n2 m a0 a1 a3 a4) k
  obtain ⟨_, _, ⟨T8, L8, k8, n8⟩, -, X8, ⟨Lc8, hQ8, l8, y8, z8⟩, st8⟩ := X0.specialBack hx (y := (⟨"java/lang/Record", "<init>", "()V"⟩ : MethodName)) rfl hown (mvT hZ (hw _ (List.mem_of_getElem? (i := 136) rfl))) (mvT hZ (hw _ (List.mem_of_getElem? (i := 40) rfl))) (mvT hZ (hw _ (List.mem_of_getElem? (i := 43) rfl))) (by decide) (backOf (W := 0) (rm8 l Z A0 hw [] a0 h0 n0 OLD ) hZ (hw _ (List.mem_of_getElem? (i := 43) rfl)) (hw _ (List.mem_of_getElem? (i := 42) rfl)) (by decide) (by decide)) (g := (mkF m 1 #[vR a0, vR a1, .val .null, vR a3, vR a4] [(.ref a0)])) rfl (by rw [hml]; rfl) (Steps.refl _) (a := a0) (argsL := []) (rest := []) (lenOf pd_7 rfl) rfl (by show 2 * 0 + _ ≤ _; exact Nat.le_of_eq rfl) (hb hby d23_1) (fun _ _ => ⟨rfl, e0, (by decide : 0 + 0 ≤ _), (by decide : 0 + 0 ≤ _)⟩)
  dsimp only [Pt.U, Pt.locs, Pt.cells, Pt.slots] at X8 l8 y8 z8 st8 hQ8
  subst l8 y8 z8
  obtain ⟨rfl, N8q, e8⟩ := hQ8
  have N8 := Fr.app N0 N8q
  obtain ⟨_, _, ⟨T9, L9, k9, n9⟩, -, X9, ⟨Lc9, hQ9, l9, y9, z9⟩, st9⟩ := Jvm.LawKit.callS X8 hx (y := (⟨"java/util/List", "copyOf", "(Ljava/util/Collection;)Ljava/util/List;"⟩ : MethodName)) hown (mvT hZ (hw _ (List.mem_of_getElem? (i := 137) rfl))) (mvT hZ (hw _ (List.mem_of_getElem? (i := 138) rfl))) (mvT hZ (hw _ (List.mem_of_getElem? (i := 139) rfl))) (mvT hZ (hw _ (List.mem_of_getElem? (i := 140) rfl))) (by decide) (backOf (W := 0) (rm24n l Z A0 hw [] a3 h0 n0 OLD f_1 f_2) hZ (hw _ (List.mem_of_getElem? (i := 140) rfl)) (hw _ (List.mem_of_getElem? (i := 139) rfl)) (by decide) (by decide)) (g := (mkF m 5 #[vR a0, vR a1, .val .null, vR a3, vR a4] [(.ref a3)])) rfl (by rw [hml]; rfl) (argsL := [(.ref a3)]) (rest := []) (lenOf pd_20 rfl) rfl (by show 2 * 0 + _ ≤ _; exact Nat.le_of_eq rfl) (hb hby d23_5) (fun _ _ => ⟨rfl, e8, (by decide : 0 + 0 ≤ _), (by decide : 0 + 0 ≤ _)⟩)
  dsimp only [Pt.U, Pt.locs, Pt.cells, Pt.slots] at X9 l9 y9 z9 st9 hQ9
  subst l9 y9 z9
  obtain ⟨rfl, N9q, e9⟩ := hQ9
  have N9 := Fr.app N8 N9q
  obtain ⟨T10, h10, X10, e10, W10, st10⟩ := putF X9 hx hZ hown (host := "") (Or.inl (hw _ (List.mem_of_getElem? (i := 222) rfl))) Via.refl e9 f_4 f_3 (Or.inr ⟨(hw _ (List.mem_of_getElem? (i := 223) rfl)), rfl, hnm⟩) (hw _ (List.mem_of_getElem? (i := 131) rfl)) (ty := (.object "java/lang/String")) (by decide) rfl rfl (g := (mkF m 11 #[vR a0, vR a1, .val .null, vR a3, vR a4] [(.ref a1), (.ref a0)])) rfl rfl (hb hby d23_11)
  have N10 := Fr.snoc X10 N9 ge_a0
  have f_11 := f_4.same W10
  have K_12 : Keep h0 h10 [a0] := (Keep.refl h0 [a0]).wr W10 (Or.inl (List.mem_of_getElem? (i := 0) rfl))
  have f_13 := f_3.wr W10
  have f_14 := f_5.other W10 (Or.inr (slot_ne (Or.inr (hw _ (List.mem_of_getElem? (i := 225) rfl))) (Or.inr (hw _ (List.mem_of_getElem? (i := 223) rfl))) (by decide) (t := (.object "com/example/deposita/deposita/core/Product")) (t' := (.object "java/lang/String")) (by decide) (by decide)))
  obtain ⟨T15, h15, X15, e15, W15, st15⟩ := putF X10 hx hZ hown (host := "") (Or.inl (hw _ (List.mem_of_getElem? (i := 224) rfl))) Via.refl e10 f_14 f_13 (Or.inr ⟨(hw _ (List.mem_of_getElem? (i := 225) rfl)), rfl, hnm⟩) (hw _ (List.mem_of_getElem? (i := 131) rfl)) (ty := (.object "com/example/deposita/deposita/core/Product")) (by decide) rfl rfl (g := (mkF m 16 #[vR a0, vR a1, .val .null, vR a3, vR a4] [.null, (.ref a0)])) rfl rfl (hb hby d23_16)
  have N15 := Fr.snoc X15 N10 ge_a0
  have f_16 := f_14.same W15
  have K_17 : Keep h0 h15 [a0] := K_12.wr W15 (Or.inl (List.mem_of_getElem? (i := 0) rfl))
  have f_18 := f_13.wr W15
  have f_19 := f_6.other W10 (Or.inr (slot_ne (Or.inr (hw _ (List.mem_of_getElem? (i := 227) rfl))) (Or.inr (hw _ (List.mem_of_getElem? (i := 223) rfl))) (by decide) (t := (.object "java/util/List")) (t' := (.object "java/lang/String")) (by decide) (by decide)))
  have f_20 := f_19.other W15 (Or.inr (slot_ne (Or.inr (hw _ (List.mem_of_getElem? (i := 227) rfl))) (Or.inr (hw _ (List.mem_of_getElem? (i := 225) rfl))) (by decide) (t := (.object "java/util/List")) (t' := (.object "com/example/deposita/deposita/core/Product")) (by decide) (by decide)))
  obtain ⟨T21, h21, X21, e21, W21, st21⟩ := putF X15 hx hZ hown (host := "") (Or.inl (hw _ (List.mem_of_getElem? (i := 226) rfl))) Via.refl e15 f_20 f_18 (Or.inr ⟨(hw _ (List.mem_of_getElem? (i := 227) rfl)), rfl, hnm⟩) (hw _ (List.mem_of_getElem? (i := 131) rfl)) (ty := (.object "java/util/List")) (by decide) rfl rfl (g := (mkF m 21 #[vR a0, vR a1, .val .null, vR a3, vR a4] [(.ref a3), (.ref a0)])) rfl rfl (hb hby d23_21)
  have N21 := Fr.snoc X21 N15 ge_a0
  have f_22 := f_20.same W21
  have K_23 : Keep h0 h21 [a0] := K_17.wr W21 (Or.inl (List.mem_of_getElem? (i := 0) rfl))
  have f_24 := f_18.wr W21
  have f_25 := f_7.other W10 (Or.inr (slot_ne (Or.inr (hw _ (List.mem_of_getElem? (i := 229) rfl))) (Or.inr (hw _ (List.mem_of_getElem? (i := 223) rfl))) (by decide) (t := (.object "com/example/deposita/deposita/core/Finding")) (t' := (.object "java/lang/String")) (by decide) (by decide)))
  have f_26 := f_25.other W15 (Or.inr (slot_ne (Or.inr (hw _ (List.mem_of_getElem? (i := 229) rfl))) (Or.inr (hw _ (List.mem_of_getElem? (i := 225) rfl))) (by decide) (t := (.object "com/example/deposita/deposita/core/Finding")) (t' := (.object "com/example/deposita/deposita/core/Product")) (by decide) (by decide)))
  have f_27 := f_26.other W21 (Or.inr (slot_ne (Or.inr (hw _ (List.mem_of_getElem? (i := 229) rfl))) (Or.inr (hw _ (List.mem_of_getElem? (i := 227) rfl))) (by decide) (t := (.object "com/example/deposita/deposita/core/Finding")) (t' := (.object "java/util/List")) (by decide) (by decide)))
  obtain ⟨T28, h28, X28, e28, W28, st28⟩ := putF X21 hx hZ hown (host := "") (Or.inl (hw _ (List.mem_of_getElem? (i := 228) rfl))) Via.refl e21 f_27 f_24 (Or.inr ⟨(hw _ (List.mem_of_getElem? (i := 229) rfl)), rfl, hnm⟩) (hw _ (List.mem_of_getElem? (i := 131) rfl)) (ty := (.object "com/example/deposita/deposita/core/Finding")) (by decide) rfl rfl (g := (mkF m 27 #[vR a0, vR a1, .val .null, vR a3, vR a4] [(.ref a4), (.ref a0)])) rfl rfl (hb hby d23_27)
  have N28 := Fr.snoc X28 N21 ge_a0
  have f_29 := f_27.same W28
  have K_30 : Keep h0 h28 [a0] := K_23.wr W28 (Or.inl (List.mem_of_getElem? (i := 0) rfl))
  have f_31 := f_24.wr W28
  have f_32 := f_11.other W15 (Or.inr (slot_ne (Or.inr (hw _ (List.mem_of_getElem? (i := 223) rfl))) (Or.inr (hw _ (List.mem_of_getElem? (i := 225) rfl))) (by decide) (t := (.object "java/lang/String")) (t' := (.object "com/example/deposita/deposita/core/Product")) (by decide) (by decide)))
  have f_33 := f_32.other W21 (Or.inr (slot_ne (Or.inr (hw _ (List.mem_of_getElem? (i := 223) rfl))) (Or.inr (hw _ (List.mem_of_getElem? (i := 227) rfl))) (by decide) (t := (.object "java/lang/String")) (t' := (.object "java/util/List")) (by decide) (by decide)))
  have f_34 := f_33.other W28 (Or.inr (slot_ne (Or.inr (hw _ (List.mem_of_getElem? (i := 223) rfl))) (Or.inr (hw _ (List.mem_of_getElem? (i := 229) rfl))) (by decide) (t := (.object "java/lang/String")) (t' := (.object "com/example/deposita/deposita/core/Finding")) (by decide) (by decide)))
  have f_35 := f_16.other W21 (Or.inr (slot_ne (Or.inr (hw _ (List.mem_of_getElem? (i := 225) rfl))) (Or.inr (hw _ (List.mem_of_getElem? (i := 227) rfl))) (by decide) (t := (.object "com/example/deposita/deposita/core/Product")) (t' := (.object "java/util/List")) (by decide) (by decide)))
  have f_36 := f_35.other W28 (Or.inr (slot_ne (Or.inr (hw _ (List.mem_of_getElem? (i := 225) rfl))) (Or.inr (hw _ (List.mem_of_getElem? (i := 229) rfl))) (by decide) (t := (.object "com/example/deposita/deposita/core/Product")) (t' := (.object "com/example/deposita/deposita/core/Finding")) (by decide) (by decide)))
  have f_37 := f_22.other W28 (Or.inr (slot_ne (Or.inr (hw _ (List.mem_of_getElem? (i := 227) rfl))) (Or.inr (hw _ (List.mem_of_getElem? (i := 229) rfl))) (by decide) (t := (.object "java/util/List")) (t' := (.object "com/example/deposita/deposita/core/Finding")) (by decide) (by decide)))
  obtain ⟨fs, hr, hrun, hended, hW, hsame⟩ := X28.leave (v := none) (fun _ => rfl)
  refine ⟨_, _, pre0 _ ?_, hrun, hended, _, _, rfl, ?_, ⟨_, rfl⟩, hW, hsame.mono (by decide) (by decide)⟩
  · show Steps p.tables e below (s₁.setTop (mkF m 0 #[vR a0, vR a1, .val .null, vR a3, vR a4] [])) _
    refine XS.aloadN X0.here hx rfl (hb hby d23_0) rfl rfl ?_
    refine st8.trans ?_
    show Steps p.tables e below (T8.setTop (mkF m 4 #[vR a0, vR a1, .val .null, vR a3, vR a4] [])) _
    refine XS.aloadN X8.here hx rfl (hb hby d23_4) rfl rfl ?_
    refine st9 _ ?_
    show Steps p.tables e below (T9.setTop (mkF m 8 #[vR a0, vR a1, .val .null, vR a3, vR a4] [(.ref a3)])) _
    refine XS.astoreN X9.here hx rfl (hb hby d23_8) rfl rfl (l' := #[vR a0, vR a1, .val .null, vR a3, vR a4]) rfl ?_
    refine XS.aloadN X9.here hx rfl (hb hby d23_9) rfl rfl ?_
    show Steps p.tables e below (T9.setTop (mkF m 10 #[vR a0, vR a1, .val .null, vR a3, vR a4] [(.ref a0)])) _
    refine XS.aloadN X9.here hx rfl (hb hby d23_10) rfl rfl ?_
    refine st10 _ ?_
    show Steps p.tables e below (T10.setTop (mkF m 14 #[vR a0, vR a1, .val .null, vR a3, vR a4] [])) _
    refine XS.aloadN X10.here hx rfl (hb hby d23_14) rfl rfl ?_
    refine XS.aloadN X10.here hx rfl (hb hby d23_15) rfl rfl ?_
    show Steps p.tables e below (T10.setTop (mkF m 16 #[vR a0, vR a1, .val .null, vR a3, vR a4] [.null, (.ref a0)])) _
    refine st15 _ ?_
    refine XS.aloadN X15.here hx rfl (hb hby d23_19) rfl rfl ?_
    show Steps p.tables e below (T15.setTop (mkF m 20 #[vR a0, vR a1, .val .null, vR a3, vR a4] [(.ref a0)])) _
    refine XS.aloadN X15.here hx rfl (hb hby d23_20) rfl rfl ?_
    refine st21 _ ?_
    show Steps p.tables e below (T21.setTop (mkF m 24 #[vR a0, vR a1, .val .null, vR a3, vR a4] [])) _
    refine XS.aloadN X21.here hx rfl (hb hby d23_24) rfl rfl ?_
    refine XS.aload X21.here hx rfl (hb hby d23_25) rfl rfl ?_
    show Steps p.tables e below (T21.setTop (mkF m 27 #[vR a0, vR a1, .val .null, vR a3, vR a4] [(.ref a4), (.ref a0)])) _
    refine st28 _ ?_
    show Steps p.tables e below (T28.setTop (mkF m 30 #[vR a0, vR a1, .val .null, vR a3, vR a4] [])) _
    exact X28.returnOut hx Bd.returns (hb hby d23_30) hr
  · show Q23n1 Z a0 a1 a3 a4 u_recordId_a0 u_product_a0 u_warnings_a0 u_refusal_a0 h0 n0 _ T28.heap _
    rw [e28]
    exact ⟨rfl, N28, K_30, f_31, f_34, f_36, f_37, f_29⟩
theorem d36_0 : decode prog_44_method_4_code 0 = .ok (.aload_n 0, 1) := by decide +kernel
theorem d36_1 : decode prog_44_method_4_code 1 = .ok (.getfield 27, 3) := by decide +kernel
theorem d36_4 : decode prog_44_method_4_code 4 = .ok (.ifnull 7, 3) := by decide +kernel
theorem d36_11 : decode prog_44_method_4_code 11 = .ok (.iconst 0, 1) := by decide +kernel
theorem d36_12 : decode prog_44_method_4_code 12 = .ok (.ireturn, 1) := by decide +kernel
theorem ef_36 (m : MethodId) (x0 : Addr) : entryFrame m #[(.ref x0)] 1 = mkF m 0 #[vR x0] [] := by first | (simp [entryFrame, mkF, argsToLocals, Value.category]; done) | rfl
def Q36r0 (Z : State) (a0 : Addr) (h0 : Heap) (n0 : Nat) (v : Option Value) (h : Heap) (L : List Loc) : Prop := v = some (.int (0 : Int32)) ∧ Fr n0 L ∧ h = h0
set_option maxRecDepth 65536 in
set_option maxHeartbeats 40000000 in
theorem rm36r0 (l : Launch) (Z : State) (A0 : Array Value) (hw : ∀ d ∈ tables_1, d.before A0 Z = true) (ws : List Jvm.Cond) (a0 : Addr) (h0 : Heap) (n0 : Nat) (OLD : Old Z n0 h0) (f_1 : Fld Z h0 a0 "com/example/deposita/deposita/formats/Mapped" "refusal" "Lcom/example/deposita/deposita/core/Finding;" .null) :
    MetFree l (⟨"com/example/deposita/deposita/formats/Mapped", "isRefused", "()Z"⟩ : MethodName) (head1 (Jvm.Cond.code (⟨"com/example/deposita/deposita/formats/Mapped", "isRefused", "()Z"⟩ : MethodName) prog_44_method_4_code 1 (some .boolean) :: ws) ({ frames := 0, cells := 0, slots := 0, locals := 0 } : Room)) (fun a U => a = #[(.ref a0)] ∧ Z.Warmed39 U.vm ∧ U.heap = h0) (fun _ _ _ _ _ => True) (fun _ U o U' => ∃ v L, o = .returned v ∧ Q36r0 Z a0 h0 n0 v U'.heap L ∧ FrameEnd U o U' L ({ frames := 0, cells := 0, slots := 0, locals := 0 } : Room).cells ({ frames := 0, cells := 0, slots := 0, locals := 0 } : Room).slots) := by
  refine MetFree.of_bodySF (plainFor_of_name pn_com_example_deposita_deposita_formats_Mapped) hisR ?_
  intro p e s m args below meth c s₁ Bd hml0 hP hK
  obtain ⟨rfl, hZ, hh⟩ := hP
  have hx := Bd.exec
  have hby := Bd.bytes
  have hml : c.maxLocals = 1 := hml0
  have hown : s.vm.findClass "com/example/deposita/deposita/formats/Mapped" = some m.cls := findClass_of_methodNamed Bd.named
  have hnm := (name_of_methodNamed Bd.named Bd.method).1
  have X0 : Stand p l e ({ frames := 0, cells := 0, slots := 0, locals := 0 } : Room) s m #[(.ref a0)] below meth c s₁ [] 0 0 := Stand.of_body Bd
  have e0 : s₁.heap = h0 := by rw [← hh, Bd.state]; rfl
  have N0 := Fr.nil n0
  have pre0 : ∀ t, Steps p.tables e below (s₁.setTop (mkF m 0 #[vR a0] [])) t → Steps p.tables e below (s₁.setTop (entryFrame m #[(.ref a0)] 1)) t := fun t k => castTop (ef_36 m a0) k
  obtain ⟨T2, X2, e2, st2⟩ := getF X0 hx hZ hown (host := "") (Or.inl (hw _ (List.mem_of_getElem? (i := 228) rfl))) Via.refl e0 f_1 (g := (mkF m 1 #[vR a0] [(.ref a0)])) rfl rfl (hb hby d36_1)
  obtain ⟨fs, hr, hrun, hended, hW, hsame⟩ := X2.leave (v := some (.int (0 : Int32))) (fun h => by rw [Bd.returns] at h; cases h)
  refine ⟨_, _, pre0 _ ?_, hrun, hended, _, _, rfl, ?_, ⟨_, rfl⟩, hW, hsame.mono (by decide) (by decide)⟩
  · show Steps p.tables e below (s₁.setTop (mkF m 0 #[vR a0] [])) _
    refine XS.aloadN X0.here hx rfl (hb hby d36_0) rfl rfl ?_
    refine st2 _ ?_
    show Steps p.tables e below (T2.setTop (mkF m 4 #[vR a0] [.null])) _
    refine XS.ifnullYes X2.here hx rfl (pc0 := 4) (pc' := 11) rfl (hb hby d36_4) rfl (by decide) (by decide) ?_
    refine XS.iconst X2.here hx rfl (hb hby d36_11) ?_
    show Steps p.tables e below (T2.setTop (mkF m 12 #[vR a0] [(.int (0 : Int32))])) _
    exact retN X2 hx (t := .boolean) Bd.returns (by simp) (hb hby d36_12) hr
  · show Q36r0 Z a0 h0 n0 _ T2.heap _
    rw [e2]
    exact ⟨rfl, N0, rfl⟩
theorem d36_7 : decode prog_44_method_4_code 7 = .ok (.iconst 1, 1) := by decide +kernel
theorem d36_8 : decode prog_44_method_4_code 8 = .ok (.goto 4, 3) := by decide +kernel
def Q36r1 (Z : State) (a0 : Addr) (w_refusal_a0 : Addr) (h0 : Heap) (n0 : Nat) (v : Option Value) (h : Heap) (L : List Loc) : Prop := v = some (.int (1 : Int32)) ∧ Fr n0 L ∧ h = h0
set_option maxRecDepth 65536 in
set_option maxHeartbeats 40000000 in
theorem rm36r1 (l : Launch) (Z : State) (A0 : Array Value) (hw : ∀ d ∈ tables_1, d.before A0 Z = true) (ws : List Jvm.Cond) (a0 : Addr) (w_refusal_a0 : Addr) (h0 : Heap) (n0 : Nat) (OLD : Old Z n0 h0) (f_1 : Fld Z h0 a0 "com/example/deposita/deposita/formats/Mapped" "refusal" "Lcom/example/deposita/deposita/core/Finding;" (.ref w_refusal_a0)) :
    MetFree l (⟨"com/example/deposita/deposita/formats/Mapped", "isRefused", "()Z"⟩ : MethodName) (head1 (Jvm.Cond.code (⟨"com/example/deposita/deposita/formats/Mapped", "isRefused", "()Z"⟩ : MethodName) prog_44_method_4_code 1 (some .boolean) :: ws) ({ frames := 0, cells := 0, slots := 0, locals := 0 } : Room)) (fun a U => a = #[(.ref a0)] ∧ Z.Warmed39 U.vm ∧ U.heap = h0) (fun _ _ _ _ _ => True) (fun _ U o U' => ∃ v L, o = .returned v ∧ Q36r1 Z a0 w_refusal_a0 h0 n0 v U'.heap L ∧ FrameEnd U o U' L ({ frames := 0, cells := 0, slots := 0, locals := 0 } : Room).cells ({ frames := 0, cells := 0, slots := 0, locals := 0 } : Room).slots) := by
  refine MetFree.of_bodySF (plainFor_of_name pn_com_example_deposita_deposita_formats_Mapped) hisR ?_
  intro p e s m args below meth c s₁ Bd hml0 hP hK
  obtain ⟨rfl, hZ, hh⟩ := hP
  have hx := Bd.exec
  have hby := Bd.bytes
  have hml : c.maxLocals = 1 := hml0
  have hown : s.vm.findClass "com/example/deposita/deposita/formats/Mapped" = some m.cls := findClass_of_methodNamed Bd.named
  have hnm := (name_of_methodNamed Bd.named Bd.method).1
  have X0 : Stand p l e ({ frames := 0, cells := 0, slots := 0, locals := 0 } : Room) s m #[(.ref a0)] below meth c s₁ [] 0 0 := Stand.of_body Bd
  have e0 : s₁.heap = h0 := by rw [← hh, Bd.state]; rfl
  have N0 := Fr.nil n0
  have pre0 : ∀ t, Steps p.tables e below (s₁.setTop (mkF m 0 #[vR a0] [])) t → Steps p.tables e below (s₁.setTop (entryFrame m #[(.ref a0)] 1)) t := fun t k => castTop (ef_36 m a0) k
  obtain ⟨T2, X2, e2, st2⟩ := getF X0 hx hZ hown (host := "") (Or.inl (hw _ (List.mem_of_getElem? (i := 228) rfl))) Via.refl e0 f_1 (g := (mkF m 1 #[vR a0] [(.ref a0)])) rfl rfl (hb hby d36_1)
  obtain ⟨fs, hr, hrun, hended, hW, hsame⟩ := X2.leave (v := some (.int (1 : Int32))) (fun h => by rw [Bd.returns] at h; cases h)
  refine ⟨_, _, pre0 _ ?_, hrun, hended, _, _, rfl, ?_, ⟨_, rfl⟩, hW, hsame.mono (by decide) (by decide)⟩
  · show Steps p.tables e below (s₁.setTop (mkF m 0 #[vR a0] [])) _
    refine XS.aloadN X0.here hx rfl (hb hby d36_0) rfl rfl ?_
    refine st2 _ ?_
    show Steps p.tables e below (T2.setTop (mkF m 4 #[vR a0] [(.ref w_refusal_a0)])) _
    refine XS.ifnullNo X2.here hx rfl (hb hby d36_4) rfl ?_
    refine XS.iconst X2.here hx rfl (hb hby d36_7) ?_
    show Steps p.tables e below (T2.setTop (mkF m 8 #[vR a0] [(.int (1 : Int32))])) _
    refine XS.goto X2.here hx rfl (pc0 := 8) (pc' := 12) rfl (hb hby d36_8) (by decide) (by decide) ?_
    show Steps p.tables e below (T2.setTop (mkF m 12 #[vR a0] [(.int (1 : Int32))])) _
    exact retN X2 hx (t := .boolean) Bd.returns (by simp) (hb hby d36_12) hr
  · show Q36r1 Z a0 w_refusal_a0 h0 n0 _ T2.heap _
    rw [e2]
    exact ⟨rfl, N0, rfl⟩
theorem pd_21 : parseMethodDescriptor "(Ljava/lang/String;Lcom/example/deposita/deposita/core/Product;Ljava/util/List;Lcom/example/deposita/deposita/core/Finding;)V" = some ⟨[(.object "java/lang/String"), (.object "com/example/deposita/deposita/core/Product"), (.object "java/util/List"), (.object "com/example/deposita/deposita/core/Finding")], none⟩ := by decide +kernel
theorem d38_0 : decode prog_44_method_3_code 0 = .ok (.new 14, 3) := by decide +kernel
theorem d38_3 : decode prog_44_method_3_code 3 = .ok (.dup, 1) := by decide +kernel
theorem d38_4 : decode prog_44_method_3_code 4 = .ok (.aload_n 0, 1) := by decide +kernel
theorem d38_5 : decode prog_44_method_3_code 5 = .ok (.aconst_null, 1) := by decide +kernel
theorem d38_6 : decode prog_44_method_3_code 6 = .ok (.invokestatic 34, 3) := by decide +kernel
theorem d38_9 : decode prog_44_method_3_code 9 = .ok (.aload_n 1, 1) := by decide +kernel
theorem d38_10 : decode prog_44_method_3_code 10 = .ok (.invokespecial 31, 3) := by decide +kernel
theorem d38_13 : decode prog_44_method_3_code 13 = .ok (.areturn, 1) := by decide +kernel
theorem ef_38 (m : MethodId) (x0 : Addr) (x1 : Addr) : entryFrame m #[(.ref x0), (.ref x1)] 2 = mkF m 0 #[vR x0, vR x1] [] := by first | (simp [entryFrame, mkF, argsToLocals, Value.category]; done) | rfl
def Q38 (Z : State) (w_EMPTY_LIST : Addr) (a0 : Addr) (a1 : Addr) (h0 : Heap) (n0 : Nat) (v : Option Value) (h : Heap) (L : List Loc) : Prop := ∃ b4 : Addr, v = some (.ref b4) ∧ Fr n0 L ∧ Keep h0 h [] ∧ h0.size ≤ b4 ∧ Exa Z h b4 "com/example/deposita/deposita/formats/Mapped" ∧ Fld Z h b4 "com/example/deposita/deposita/formats/Mapped" "recordId" "Ljava/lang/String;" (.ref a0) ∧ Fld Z h b4 "com/example/deposita/deposita/formats/Mapped" "product" "Lcom/example/deposita/deposita/core/Product;" .null ∧ Fld Z h b4 "com/example/deposita/deposita/formats/Mapped" "warnings" "Ljava/util/List;" (.ref w_EMPTY_LIST) ∧ Fld Z h b4 "com/example/deposita/deposita/formats/Mapped" "refusal" "Lcom/example/deposita/deposita/core/Finding;" (.ref a1)
set_option maxRecDepth 65536 in
set_option maxHeartbeats 40000000 in
theorem rm38 (l : Launch) (Z : State) (A0 : Array Value) (hw : ∀ d ∈ tables_1, d.before A0 Z = true) (ws : List Jvm.Cond) (w_EMPTY_LIST : Addr) (a0 : Addr) (a1 : Addr) (h0 : Heap) (n0 : Nat) (OLD : Old Z n0 h0) (f_1 : Sta Z Z.heap "java/util/ImmutableCollections" "EMPTY_LIST" "Ljava/util/ImmutableCollections$ListN;" (.ref w_EMPTY_LIST)) (f_2 : Exa Z Z.heap w_EMPTY_LIST "java/util/ImmutableCollections$ListN") (f_3 : Fld Z Z.heap w_EMPTY_LIST "java/util/ImmutableCollections$ListN" "allowNulls" "Z" (.int (0 : Int32))) :
    MetFree l (⟨"com/example/deposita/deposita/formats/Mapped", "refused", "(Ljava/lang/String;Lcom/example/deposita/deposita/core/Finding;)Lcom/example/deposita/deposita/formats/Mapped;"⟩ : MethodName) (head1 (Jvm.Cond.code (⟨"com/example/deposita/deposita/formats/Mapped", "refused", "(Ljava/lang/String;Lcom/example/deposita/deposita/core/Finding;)Lcom/example/deposita/deposita/formats/Mapped;"⟩ : MethodName) prog_44_method_3_code 2 (some (.object "com/example/deposita/deposita/formats/Mapped")) :: ws) ({ frames := 3, cells := 1, slots := 4, locals := 42 } : Room)) (fun a U => a = #[(.ref a0), (.ref a1)] ∧ Z.Warmed39 U.vm ∧ U.heap = h0) (fun _ _ _ _ _ => True) (fun _ U o U' => ∃ v L, o = .returned v ∧ Q38 Z w_EMPTY_LIST a0 a1 h0 n0 v U'.heap L ∧ FrameEnd U o U' L ({ frames := 3, cells := 1, slots := 4, locals := 42 } : Room).cells ({ frames := 3, cells := 1, slots := 4, locals := 42 } : Room).slots) := by
  refine MetFree.of_bodySF (plainFor_of_name pn_com_example_deposita_deposita_formats_Mapped) hisR ?_
  intro p e s m args below meth c s₁ Bd hml0 hP hK
  obtain ⟨rfl, hZ, hh⟩ := hP
  have hx := Bd.exec
  have hby := Bd.bytes
  have hml : c.maxLocals = 2 := hml0
  have hown : s.vm.findClass "com/example/deposita/deposita/formats/Mapped" = some m.cls := findClass_of_methodNamed Bd.named
  have hnm := (name_of_methodNamed Bd.named Bd.method).1
  have X0 : Stand p l e ({ frames := 3, cells := 1, slots := 4, locals := 42 } : Room) s m #[(.ref a0), (.ref a1)] below meth c s₁ [] 0 0 := Stand.of_body Bd
  have e0 : s₁.heap = h0 := by rw [← hh, Bd.state]; rfl
  have N0 := Fr.nil n0
  have pre0 : ∀ t, Steps p.tables e below (s₁.setTop (mkF m 0 #[vR a0, vR a1] [])) t → Steps p.tables e below (s₁.setTop (entryFrame m #[(.ref a0), (.ref a1)] 2)) t := fun t k => castTop (ef_38 m a0 a1) k
  obtain ⟨T4, h4, X4, e4, E4, A4, D4, M4, st4⟩ := newO X0 hx hZ hown (hw _ (List.mem_of_getElem? (i := 244) rfl)) (hw _ (List.mem_of_getElem? (i := 131) rfl)) (hw _ (List.mem_of_getElem? (i := 132) rfl)) e0 (g := (mkF m 0 #[vR a0, vR a1] [])) rfl (hb hby d38_0) (by decide) (by decide)
  obtain ⟨b4, g4⟩ : ∃ z, z = h0.size := ⟨_, rfl⟩
  rw [← g4] at A4 D4 M4 st4
  have K_5 : Keep h0 h4 [] := (Keep.refl h0 []).ext E4
  have f_6 : Fld Z h4 b4 "com/example/deposita/deposita/formats/Mapped" "recordId" "Ljava/lang/String;" .null := (D4 (Or.inr (hw _ (List.mem_of_getElem? (i := 223) rfl))) (ty := (.object "java/lang/String")) (by decide))
  have f_7 : Fld Z h4 b4 "com/example/deposita/deposita/formats/Mapped" "product" "Lcom/example/deposita/deposita/core/Product;" .null := (D4 (Or.inr (hw _ (List.mem_of_getElem? (i := 225) rfl))) (ty := (.object "com/example/deposita/deposita/core/Product")) (by decide))
  have f_8 : Fld Z h4 b4 "com/example/deposita/deposita/formats/Mapped" "warnings" "Ljava/util/List;" .null := (D4 (Or.inr (hw _ (List.mem_of_getElem? (i := 227) rfl))) (ty := (.object "java/util/List")) (by decide))
  have f_9 : Fld Z h4 b4 "com/example/deposita/deposita/formats/Mapped" "refusal" "Lcom/example/deposita/deposita/core/Finding;" .null := (D4 (Or.inr (hw _ (List.mem_of_getElem? (i := 229) rfl))) (ty := (.object "com/example/deposita/deposita/core/Finding")) (by decide))
  have O_11 := Old.ext OLD E4
  obtain ⟨_, _, ⟨T10, L10, k10, n10⟩, -, X10, ⟨Lc10, hQ10, l10, y10, z10⟩, st10⟩ := Jvm.LawKit.callS X4 hx (y := (⟨"java/util/List", "of", "()Ljava/util/List;"⟩ : MethodName)) hown (mvT hZ (hw _ (List.mem_of_getElem? (i := 245) rfl))) (mvT hZ (hw _ (List.mem_of_getElem? (i := 238) rfl))) (mvT hZ (hw _ (List.mem_of_getElem? (i := 139) rfl))) (mvT hZ (hw _ (List.mem_of_getElem? (i := 239) rfl))) (by decide) (backOf (W := 4) (rm37 l Z A0 hw [] w_EMPTY_LIST h4 n0 O_11 f_1) hZ (hw _ (List.mem_of_getElem? (i := 239) rfl)) (hw _ (List.mem_of_getElem? (i := 139) rfl)) (by decide) (by decide)) (g := (mkF m 6 #[vR a0, vR a1] [.null, (.ref a0), (.ref b4), (.ref b4)])) rfl (by rw [hml]; rfl) (argsL := []) (rest := [.null, (.ref a0), (.ref b4), (.ref b4)]) (lenOf pd_18 rfl) rfl (by show 2 * 0 + _ ≤ _; exact Nat.le_of_eq rfl) (hb hby d38_6) (fun _ _ => ⟨rfl, e4, (by decide : 1 + 0 ≤ _), (by decide : 4 + 0 ≤ _)⟩)
  dsimp only [Pt.U, Pt.locs, Pt.cells, Pt.slots] at X10 l10 y10 z10 st10 hQ10
  subst l10 y10 z10
  obtain ⟨rfl, N10q, e10⟩ := hQ10
  have N10 := Fr.app N0 N10q
  have ge_12 : n0 ≤ b4 := own_ge OLD (Nat.le_of_eq g4.symm)
  obtain ⟨_, _, ⟨T13, L13, k13, n13⟩, -, X13, ⟨Lc13, hQ13, l13, y13, z13⟩, st13⟩ := X10.specialBack hx (y := (⟨"com/example/deposita/deposita/formats/Mapped", "<init>", "(Ljava/lang/String;Lcom/example/deposita/deposita/core/Product;Ljava/util/List;Lcom/example/deposita/deposita/core/Finding;)V"⟩ : MethodName)) rfl hown (mvT hZ (hw _ (List.mem_of_getElem? (i := 246) rfl))) (mvT hZ (hw _ (List.mem_of_getElem? (i := 134) rfl))) (mvT hZ (hw _ (List.mem_of_getElem? (i := 135) rfl))) (by decide) (backOf (W := 1) (rm23n1 l Z A0 hw [] b4 a0 w_EMPTY_LIST a1 .null .null .null .null h4 n0 O_11 f_2 f_3 A4 f_6 f_7 f_8 f_9 ge_12) hZ (hw _ (List.mem_of_getElem? (i := 135) rfl)) (hw _ (List.mem_of_getElem? (i := 132) rfl)) (by decide) (by decide)) (g := (mkF m 10 #[vR a0, vR a1] [(.ref a1), (.ref w_EMPTY_LIST), .null, (.ref a0), (.ref b4), (.ref b4)])) rfl (by rw [hml]; rfl) (Steps.refl _) (a := b4) (argsL := [(.ref a0), .null, (.ref w_EMPTY_LIST), (.ref a1)]) (rest := [(.ref b4)]) (lenOf pd_21 rfl) rfl (by show 2 * 0 + _ ≤ _; exact Nat.le_of_eq rfl) (hb hby d38_10) (fun _ _ => ⟨rfl, e10, (by decide : 1 + 0 ≤ _), (by decide : 4 + 0 ≤ _)⟩)
  dsimp only [Pt.U, Pt.locs, Pt.cells, Pt.slots] at X13 l13 y13 z13 st13 hQ13
  subst l13 y13 z13
  obtain ⟨rfl, N13q, K13, g13_0, g13_1, g13_2, g13_3, g13_4⟩ := hQ13
  have N13 := Fr.app N10 N13q
  have K_14 : Keep h0 T13.heap [] := Keep.trans K_5 K13 (allS (Or.inr (Nat.le_trans (Keep.refl h0 []).1 (Nat.le_of_eq g4.symm))) all0)
  obtain ⟨fs, hr, hrun, hended, hW, hsame⟩ := X13.leave (v := some (.ref b4)) (fun h => by rw [Bd.returns] at h; cases h)
  refine ⟨_, _, pre0 _ ?_, hrun, hended, _, _, rfl, ?_, ⟨_, rfl⟩, hW, hsame.mono (by decide) (by decide)⟩
  · show Steps p.tables e below (s₁.setTop (mkF m 0 #[vR a0, vR a1] [])) _
    refine st4 _ ?_
    refine XS.dup X4.here hx rfl (hb hby d38_3) rfl rfl ?_
    show Steps p.tables e below (T4.setTop (mkF m 4 #[vR a0, vR a1] [(.ref b4), (.ref b4)])) _
    refine XS.aloadN X4.here hx rfl (hb hby d38_4) rfl rfl ?_
    refine XS.aconstNull X4.here hx rfl (hb hby d38_5) ?_
    show Steps p.tables e below (T4.setTop (mkF m 6 #[vR a0, vR a1] [.null, (.ref a0), (.ref b4), (.ref b4)])) _
    refine st10 _ ?_
    refine XS.aloadN X10.here hx rfl (hb hby d38_9) rfl rfl ?_
    show Steps p.tables e below (T10.setTop (mkF m 10 #[vR a0, vR a1] [(.ref a1), (.ref w_EMPTY_LIST), .null, (.ref a0), (.ref b4), (.ref b4)])) _
    refine st13.trans ?_
    show Steps p.tables e below (T13.setTop (mkF m 13 #[vR a0, vR a1] [(.ref b4)])) _
    jvm_step X13.here [X13.here.top, hx, (hb hby d38_13), X13.method', Bd.returns, Value.isRef, FieldType.isReference]
    first | (intro acts; rw [hr _ acts rfl rfl rfl]) | rw [hr _ _ rfl rfl rfl]
    exact Steps.refl _
  · show Q38 Z w_EMPTY_LIST a0 a1 h0 n0 _ T13.heap _
    exact ⟨b4, rfl, N13, K_14, (Nat.le_trans (Keep.refl h0 []).1 (Nat.le_of_eq g4.symm)), g13_0, g13_1, g13_2, g13_3, g13_4⟩
theorem d39_0 : decode prog_44_method_2_code 0 = .ok (.new 14, 3) := by decide +kernel
theorem d39_3 : decode prog_44_method_2_code 3 = .ok (.dup, 1) := by decide +kernel
theorem d39_4 : decode prog_44_method_2_code 4 = .ok (.aload_n 0, 1) := by decide +kernel
theorem d39_5 : decode prog_44_method_2_code 5 = .ok (.aload_n 1, 1) := by decide +kernel
theorem d39_6 : decode prog_44_method_2_code 6 = .ok (.aload_n 2, 1) := by decide +kernel
theorem d39_7 : decode prog_44_method_2_code 7 = .ok (.aconst_null, 1) := by decide +kernel
theorem d39_8 : decode prog_44_method_2_code 8 = .ok (.invokespecial 31, 3) := by decide +kernel
theorem d39_11 : decode prog_44_method_2_code 11 = .ok (.areturn, 1) := by decide +kernel
theorem ef_39n1 (m : MethodId) (x0 : Addr) (x2 : Addr) : entryFrame m #[(.ref x0), .null, (.ref x2)] 3 = mkF m 0 #[vR x0, .val .null, vR x2] [] := by first | (simp [entryFrame, mkF, argsToLocals, Value.category]; done) | rfl
def Q39e (Z : State) (a0 : Addr) (a2 : Addr) (w_EMPTY_LIST : Addr) (h0 : Heap) (n0 : Nat) (v : Option Value) (h : Heap) (L : List Loc) : Prop := ∃ b3 : Addr, v = some (.ref b3) ∧ Fr n0 L ∧ Keep h0 h [] ∧ h0.size ≤ b3 ∧ Exa Z h b3 "com/example/deposita/deposita/formats/Mapped" ∧ Fld Z h b3 "com/example/deposita/deposita/formats/Mapped" "recordId" "Ljava/lang/String;" (.ref a0) ∧ Fld Z h b3 "com/example/deposita/deposita/formats/Mapped" "product" "Lcom/example/deposita/deposita/core/Product;" .null ∧ Fld Z h b3 "com/example/deposita/deposita/formats/Mapped" "warnings" "Ljava/util/List;" (.ref w_EMPTY_LIST) ∧ Fld Z h b3 "com/example/deposita/deposita/formats/Mapped" "refusal" "Lcom/example/deposita/deposita/core/Finding;" .null
set_option maxRecDepth 65536 in
set_option maxHeartbeats 40000000 in
theorem rm39e (l : Launch) (Z : State) (A0 : Array Value) (hw : ∀ d ∈ tables_1, d.before A0 Z = true) (ws : List Jvm.Cond) (a0 : Addr) (a2 : Addr) (w_EMPTY_LIST : Addr) (h0 : Heap) (n0 : Nat) (OLD : Old Z n0 h0) (f_1 : Exa Z h0 a2 "java/util/ArrayList") (f_2 : Fld Z h0 a2 "java/util/ArrayList" "size" "I" (.int (0 : Int32))) (f_11 : Sta Z Z.heap "java/util/ImmutableCollections" "EMPTY_LIST" "Ljava/util/ImmutableCollections$ListN;" (.ref w_EMPTY_LIST)) :
    MetFree l (⟨"com/example/deposita/deposita/formats/Mapped", "written", "(Ljava/lang/String;Lcom/example/deposita/deposita/core/Product;Ljava/util/List;)Lcom/example/deposita/deposita/formats/Mapped;"⟩ : MethodName) (head1 (Jvm.Cond.code (⟨"com/example/deposita/deposita/formats/Mapped", "written", "(Ljava/lang/String;Lcom/example/deposita/deposita/core/Product;Ljava/util/List;)Lcom/example/deposita/deposita/formats/Mapped;"⟩ : MethodName) prog_44_method_2_code 3 (some (.object "com/example/deposita/deposita/formats/Mapped")) :: ws) ({ frames := 4, cells := 1, slots := 4, locals := 54 } : Room)) (fun a U => a = #[(.ref a0), .null, (.ref a2)] ∧ Z.Warmed39 U.vm ∧ U.heap = h0) (fun _ _ _ _ _ => True) (fun _ U o U' => ∃ v L, o = .returned v ∧ Q39e Z a0 a2 w_EMPTY_LIST h0 n0 v U'.heap L ∧ FrameEnd U o U' L ({ frames := 4, cells := 1, slots := 4, locals := 54 } : Room).cells ({ frames := 4, cells := 1, slots := 4, locals := 54 } : Room).slots) := by
  refine MetFree.of_bodySF (plainFor_of_name pn_com_example_deposita_deposita_formats_Mapped) hisR ?_
  intro p e s m args below meth c s₁ Bd hml0 hP hK
  obtain ⟨rfl, hZ, hh⟩ := hP
  have hx := Bd.exec
  have hby := Bd.bytes
  have hml : c.maxLocals = 3 := hml0
  have hown : s.vm.findClass "com/example/deposita/deposita/formats/Mapped" = some m.cls := findClass_of_methodNamed Bd.named
  have hnm := (name_of_methodNamed Bd.named Bd.method).1
  have X0 : Stand p l e ({ frames := 4, cells := 1, slots := 4, locals := 54 } : Room) s m #[(.ref a0), .null, (.ref a2)] below meth c s₁ [] 0 0 := Stand.of_body Bd
  have e0 : s₁.heap = h0 := by rw [← hh, Bd.state]; rfl
  have N0 := Fr.nil n0
  have pre0 : ∀ t, Steps p.tables e below (s₁.setTop (mkF m 0 #[vR a0, .val .null, vR a2] [])) t → Steps p.tables e below (s₁.setTop (entryFrame m #[(.ref a0), .null, (.ref a2)] 3)) t := fun t k => castTop (ef_39n1 m a0 a2) k
  obtain ⟨T3, h3, X3, e3, E3, A3, D3, M3, st3⟩ := newO X0 hx hZ hown (hw _ (List.mem_of_getElem? (i := 244) rfl)) (hw _ (List.mem_of_getElem? (i := 131) rfl)) (hw _ (List.mem_of_getElem? (i := 132) rfl)) e0 (g := (mkF m 0 #[vR a0, .val .null, vR a2] [])) rfl (hb hby d39_0) (by decide) (by decide)
  obtain ⟨b3, g3⟩ : ∃ z, z = h0.size := ⟨_, rfl⟩
  rw [← g3] at A3 D3 M3 st3
  have K_4 : Keep h0 h3 [] := (Keep.refl h0 []).ext E3
  have f_5 : Fld Z h3 b3 "com/example/deposita/deposita/formats/Mapped" "recordId" "Ljava/lang/String;" .null := (D3 (Or.inr (hw _ (List.mem_of_getElem? (i := 223) rfl))) (ty := (.object "java/lang/String")) (by decide))
  have f_6 : Fld Z h3 b3 "com/example/deposita/deposita/formats/Mapped" "product" "Lcom/example/deposita/deposita/core/Product;" .null := (D3 (Or.inr (hw _ (List.mem_of_getElem? (i := 225) rfl))) (ty := (.object "com/example/deposita/deposita/core/Product")) (by decide))
  have f_7 : Fld Z h3 b3 "com/example/deposita/deposita/formats/Mapped" "warnings" "Ljava/util/List;" .null := (D3 (Or.inr (hw _ (List.mem_of_getElem? (i := 227) rfl))) (ty := (.object "java/util/List")) (by decide))
  have f_8 : Fld Z h3 b3 "com/example/deposita/deposita/formats/Mapped" "refusal" "Lcom/example/deposita/deposita/core/Finding;" .null := (D3 (Or.inr (hw _ (List.mem_of_getElem? (i := 229) rfl))) (ty := (.object "com/example/deposita/deposita/core/Finding")) (by decide))
  have f_9 := f_1.ext E3
  have f_10 := f_2.ext E3
  have ge_12 : n0 ≤ b3 := own_ge OLD (Nat.le_of_eq g3.symm)
  have O_14 := Old.ext OLD E3
  obtain ⟨_, _, ⟨T13, L13, k13, n13⟩, -, X13, ⟨Lc13, hQ13, l13, y13, z13⟩, st13⟩ := X3.specialBack hx (y := (⟨"com/example/deposita/deposita/formats/Mapped", "<init>", "(Ljava/lang/String;Lcom/example/deposita/deposita/core/Product;Ljava/util/List;Lcom/example/deposita/deposita/core/Finding;)V"⟩ : MethodName)) rfl hown (mvT hZ (hw _ (List.mem_of_getElem? (i := 246) rfl))) (mvT hZ (hw _ (List.mem_of_getElem? (i := 134) rfl))) (mvT hZ (hw _ (List.mem_of_getElem? (i := 135) rfl))) (by decide) (backOf (W := 1) (rm23e0 l Z A0 hw [] b3 a0 a2 .null .null .null .null w_EMPTY_LIST h3 n0 O_14 f_9 f_10 A3 f_5 f_6 f_7 f_8 f_11 ge_12) hZ (hw _ (List.mem_of_getElem? (i := 135) rfl)) (hw _ (List.mem_of_getElem? (i := 132) rfl)) (by decide) (by decide)) (g := (mkF m 8 #[vR a0, .val .null, vR a2] [.null, (.ref a2), .null, (.ref a0), (.ref b3), (.ref b3)])) rfl (by rw [hml]; rfl) (Steps.refl _) (a := b3) (argsL := [(.ref a0), .null, (.ref a2), .null]) (rest := [(.ref b3)]) (lenOf pd_21 rfl) rfl (by show 2 * 0 + _ ≤ _; exact Nat.le_of_eq rfl) (hb hby d39_8) (fun _ _ => ⟨rfl, e3, (by decide : 1 + 0 ≤ _), (by decide : 4 + 0 ≤ _)⟩)
  dsimp only [Pt.U, Pt.locs, Pt.cells, Pt.slots] at X13 l13 y13 z13 st13 hQ13
  subst l13 y13 z13
  obtain ⟨rfl, N13q, K13, g13_0, g13_1, g13_2, g13_3, g13_4⟩ := hQ13
  have N13 := Fr.app N0 N13q
  have K_15 : Keep h0 T13.heap [] := Keep.trans K_4 K13 (allS (Or.inr (Nat.le_trans (Keep.refl h0 []).1 (Nat.le_of_eq g3.symm))) all0)
  obtain ⟨fs, hr, hrun, hended, hW, hsame⟩ := X13.leave (v := some (.ref b3)) (fun h => by rw [Bd.returns] at h; cases h)
  refine ⟨_, _, pre0 _ ?_, hrun, hended, _, _, rfl, ?_, ⟨_, rfl⟩, hW, hsame.mono (by decide) (by decide)⟩
  · show Steps p.tables e below (s₁.setTop (mkF m 0 #[vR a0, .val .null, vR a2] [])) _
    refine st3 _ ?_
    refine XS.dup X3.here hx rfl (hb hby d39_3) rfl rfl ?_
    show Steps p.tables e below (T3.setTop (mkF m 4 #[vR a0, .val .null, vR a2] [(.ref b3), (.ref b3)])) _
    refine XS.aloadN X3.here hx rfl (hb hby d39_4) rfl rfl ?_
    refine XS.aloadN X3.here hx rfl (hb hby d39_5) rfl rfl ?_
    show Steps p.tables e below (T3.setTop (mkF m 6 #[vR a0, .val .null, vR a2] [.null, (.ref a0), (.ref b3), (.ref b3)])) _
    refine XS.aloadN X3.here hx rfl (hb hby d39_6) rfl rfl ?_
    refine XS.aconstNull X3.here hx rfl (hb hby d39_7) ?_
    show Steps p.tables e below (T3.setTop (mkF m 8 #[vR a0, .val .null, vR a2] [.null, (.ref a2), .null, (.ref a0), (.ref b3), (.ref b3)])) _
    refine st13.trans ?_
    show Steps p.tables e below (T13.setTop (mkF m 11 #[vR a0, .val .null, vR a2] [(.ref b3)])) _
    jvm_step X13.here [X13.here.top, hx, (hb hby d39_11), X13.method', Bd.returns, Value.isRef, FieldType.isReference]
    first | (intro acts; rw [hr _ acts rfl rfl rfl]) | rw [hr _ _ rfl rfl rfl]
    exact Steps.refl _
  · show Q39e Z a0 a2 w_EMPTY_LIST h0 n0 _ T13.heap _
    exact ⟨b3, rfl, N13, K_15, (Nat.le_trans (Keep.refl h0 []).1 (Nat.le_of_eq g3.symm)), g13_0, g13_1, g13_2, g13_3, g13_4⟩
def Q39f (Z : State) (f : Addr) (ka : ClassId) (d : Addr) (a0 : Addr) (a2 : Addr) (w_mir__Ljava_lang_Object_ : Addr) (w_EMPTY : Addr) (h0 : Heap) (n0 : Nat) (v : Option Value) (h : Heap) (L : List Loc) : Prop := ∃ b7 : Addr, ∃ b3_14_9_15_22 : Addr, v = some (.ref b7) ∧ Fr n0 L ∧ Keep h0 h [] ∧ h0.size ≤ b7 ∧ h0.size ≤ b3_14_9_15_22 ∧ Exa Z h b7 "com/example/deposita/deposita/formats/Mapped" ∧ Fld Z h b7 "com/example/deposita/deposita/formats/Mapped" "recordId" "Ljava/lang/String;" (.ref a0) ∧ Fld Z h b7 "com/example/deposita/deposita/formats/Mapped" "product" "Lcom/example/deposita/deposita/core/Product;" .null ∧ Fld Z h b7 "com/example/deposita/deposita/formats/Mapped" "warnings" "Ljava/util/List;" (.ref b3_14_9_15_22) ∧ Fld Z h b7 "com/example/deposita/deposita/formats/Mapped" "refusal" "Lcom/example/deposita/deposita/core/Finding;" .null ∧ Exa Z h b3_14_9_15_22 "java/util/ImmutableCollections$List12"
set_option maxRecDepth 65536 in
set_option maxHeartbeats 40000000 in
theorem rm39f (l : Launch) (Z : State) (A0 : Array Value) (hw : ∀ d ∈ tables_1, d.before A0 Z = true) (ws : List Jvm.Cond) (f : Addr) (ka : ClassId) (d : Addr) (a0 : Addr) (a2 : Addr) (w_mir__Ljava_lang_Object_ : Addr) (w_EMPTY : Addr) (h0 : Heap) (n0 : Nat) (OLD : Old Z n0 h0) (f_1 : Exa Z h0 a2 "java/util/ArrayList") (f_2 : Fld Z h0 a2 "java/util/ArrayList" "elementData" "[Ljava/lang/Object;" (.ref d)) (f_3 : Fld Z h0 a2 "java/util/ArrayList" "size" "I" (.int (1 : Int32))) (f_4 : Arv Z h0 d ka (.object "java/lang/Object") (10 : Int32) [(.ref f), .null, .null, .null, .null, .null, .null, .null, .null, .null] .null) (f_5 : Exa Z h0 d "[Ljava/lang/Object;") (f_6 : Exa Z h0 f "com/example/deposita/deposita/core/Finding") (c_19 : own_Mir Z "[Ljava/lang/Object;" w_mir__Ljava_lang_Object_) (f_20 : Sta Z Z.heap "java/util/ImmutableCollections" "EMPTY" "Ljava/lang/Object;" (.ref w_EMPTY)) :
    MetFree l (⟨"com/example/deposita/deposita/formats/Mapped", "written", "(Ljava/lang/String;Lcom/example/deposita/deposita/core/Product;Ljava/util/List;)Lcom/example/deposita/deposita/formats/Mapped;"⟩ : MethodName) (head1 (Jvm.Cond.code (⟨"com/example/deposita/deposita/formats/Mapped", "written", "(Ljava/lang/String;Lcom/example/deposita/deposita/core/Product;Ljava/util/List;)Lcom/example/deposita/deposita/formats/Mapped;"⟩ : MethodName) prog_44_method_2_code 3 (some (.object "com/example/deposita/deposita/formats/Mapped")) :: ws) ({ frames := 9, cells := 3, slots := 7, locals := 122 } : Room)) (fun a U => a = #[(.ref a0), .null, (.ref a2)] ∧ Z.Warmed39 U.vm ∧ U.heap = h0) (fun _ _ _ _ _ => True) (fun _ U o U' => ∃ v L, o = .returned v ∧ Q39f Z f ka d a0 a2 w_mir__Ljava_lang_Object_ w_EMPTY h0 n0 v U'.heap L ∧ FrameEnd U o U' L ({ frames := 9, cells := 3, slots := 7, locals := 122 } : Room).cells ({ frames := 9, cells := 3, slots := 7, locals := 122 } : Room).slots) := by
  refine MetFree.of_bodySF (plainFor_of_name pn_com_example_deposita_deposita_formats_Mapped) hisR ?_
  intro p e s m args below meth c s₁ Bd hml0 hP hK
  obtain ⟨rfl, hZ, hh⟩ := hP
  have hx := Bd.exec
  have hby := Bd.bytes
  have hml : c.maxLocals = 3 := hml0
  have hown : s.vm.findClass "com/example/deposita/deposita/formats/Mapped" = some m.cls := findClass_of_methodNamed Bd.named
  have hnm := (name_of_methodNamed Bd.named Bd.method).1
  have X0 : Stand p l e ({ frames := 9, cells := 3, slots := 7, locals := 122 } : Room) s m #[(.ref a0), .null, (.ref a2)] below meth c s₁ [] 0 0 := Stand.of_body Bd
  have e0 : s₁.heap = h0 := by rw [← hh, Bd.state]; rfl
  have N0 := Fr.nil n0
  have pre0 : ∀ t, Steps p.tables e below (s₁.setTop (mkF m 0 #[vR a0, .val .null, vR a2] [])) t → Steps p.tables e below (s₁.setTop (entryFrame m #[(.ref a0), .null, (.ref a2)] 3)) t := fun t k => castTop (ef_39n1 m a0 a2) k
  obtain ⟨T7, h7, X7, e7, E7, A7, D7, M7, st7⟩ := newO X0 hx hZ hown (hw _ (List.mem_of_getElem? (i := 244) rfl)) (hw _ (List.mem_of_getElem? (i := 131) rfl)) (hw _ (List.mem_of_getElem? (i := 132) rfl)) e0 (g := (mkF m 0 #[vR a0, .val .null, vR a2] [])) rfl (hb hby d39_0) (by decide) (by decide)
  obtain ⟨b7, g7⟩ : ∃ z, z = h0.size := ⟨_, rfl⟩
  rw [← g7] at A7 D7 M7 st7
  have K_8 : Keep h0 h7 [] := (Keep.refl h0 []).ext E7
  have f_9 : Fld Z h7 b7 "com/example/deposita/deposita/formats/Mapped" "recordId" "Ljava/lang/String;" .null := (D7 (Or.inr (hw _ (List.mem_of_getElem? (i := 223) rfl))) (ty := (.object "java/lang/String")) (by decide))
  have f_10 : Fld Z h7 b7 "com/example/deposita/deposita/formats/Mapped" "product" "Lcom/example/deposita/deposita/core/Product;" .null := (D7 (Or.inr (hw _ (List.mem_of_getElem? (i := 225) rfl))) (ty := (.object "com/example/deposita/deposita/core/Product")) (by decide))
  have f_11 : Fld Z h7 b7 "com/example/deposita/deposita/formats/Mapped" "warnings" "Ljava/util/List;" .null := (D7 (Or.inr (hw _ (List.mem_of_getElem? (i := 227) rfl))) (ty := (.object "java/util/List")) (by decide))
  have f_12 : Fld Z h7 b7 "com/example/deposita/deposita/formats/Mapped" "refusal" "Lcom/example/deposita/deposita/core/Finding;" .null := (D7 (Or.inr (hw _ (List.mem_of_getElem? (i := 229) rfl))) (ty := (.object "com/example/deposita/deposita/core/Finding")) (by decide))
  have f_13 := f_1.ext E7
  have f_14 := f_2.ext E7
  have f_15 := f_3.ext E7
  have f_16 := f_4.ext E7
  have f_17 := f_5.ext E7
  have f_18 := f_6.ext E7
  have ge_21 : n0 ≤ b7 := own_ge OLD (Nat.le_of_eq g7.symm)
  have O_23 := Old.ext OLD E7
  obtain ⟨_, _, ⟨T22, L22, k22, n22⟩, -, X22, ⟨Lc22, hQ22, l22, y22, z22⟩, st22⟩ := X7.specialBack hx (y := (⟨"com/example/deposita/deposita/formats/Mapped", "<init>", "(Ljava/lang/String;Lcom/example/deposita/deposita/core/Product;Ljava/util/List;Lcom/example/deposita/deposita/core/Finding;)V"⟩ : MethodName)) rfl hown (mvT hZ (hw _ (List.mem_of_getElem? (i := 246) rfl))) (mvT hZ (hw _ (List.mem_of_getElem? (i := 134) rfl))) (mvT hZ (hw _ (List.mem_of_getElem? (i := 135) rfl))) (by decide) (backOf (W := 1) (rm23f0 l Z A0 hw [] f ka d b7 a0 a2 .null .null .null .null w_mir__Ljava_lang_Object_ w_EMPTY h7 n0 O_23 f_13 f_14 f_15 f_16 f_17 f_18 A7 f_9 f_10 f_11 f_12 c_19 f_20 ge_21) hZ (hw _ (List.mem_of_getElem? (i := 135) rfl)) (hw _ (List.mem_of_getElem? (i := 132) rfl)) (by decide) (by decide)) (g := (mkF m 8 #[vR a0, .val .null, vR a2] [.null, (.ref a2), .null, (.ref a0), (.ref b7), (.ref b7)])) rfl (by rw [hml]; rfl) (Steps.refl _) (a := b7) (argsL := [(.ref a0), .null, (.ref a2), .null]) (rest := [(.ref b7)]) (lenOf pd_21 rfl) rfl (by show 2 * 0 + _ ≤ _; exact Nat.le_of_eq rfl) (hb hby d39_8) (fun _ _ => ⟨rfl, e7, (by decide : 1 + 2 ≤ _), (by decide : 4 + 3 ≤ _)⟩)
  dsimp only [Pt.U, Pt.locs, Pt.cells, Pt.slots] at X22 l22 y22 z22 st22 hQ22
  subst l22 y22 z22
  obtain ⟨b3_14_9_15_22, rfl, N22q, K22, g22_0, g22_1, g22_2, g22_3, g22_4, g22_5, g22_6⟩ := hQ22
  have N22 := Fr.app N0 N22q
  have K_24 : Keep h0 T22.heap [] := Keep.trans K_8 K22 (allS (Or.inr (Nat.le_trans (Keep.refl h0 []).1 (Nat.le_of_eq g7.symm))) all0)
  obtain ⟨fs, hr, hrun, hended, hW, hsame⟩ := X22.leave (v := some (.ref b7)) (fun h => by rw [Bd.returns] at h; cases h)
  refine ⟨_, _, pre0 _ ?_, hrun, hended, _, _, rfl, ?_, ⟨_, rfl⟩, hW, hsame.mono (by decide) (by decide)⟩
  · show Steps p.tables e below (s₁.setTop (mkF m 0 #[vR a0, .val .null, vR a2] [])) _
    refine st7 _ ?_
    refine XS.dup X7.here hx rfl (hb hby d39_3) rfl rfl ?_
    show Steps p.tables e below (T7.setTop (mkF m 4 #[vR a0, .val .null, vR a2] [(.ref b7), (.ref b7)])) _
    refine XS.aloadN X7.here hx rfl (hb hby d39_4) rfl rfl ?_
    refine XS.aloadN X7.here hx rfl (hb hby d39_5) rfl rfl ?_
    show Steps p.tables e below (T7.setTop (mkF m 6 #[vR a0, .val .null, vR a2] [.null, (.ref a0), (.ref b7), (.ref b7)])) _
    refine XS.aloadN X7.here hx rfl (hb hby d39_6) rfl rfl ?_
    refine XS.aconstNull X7.here hx rfl (hb hby d39_7) ?_
    show Steps p.tables e below (T7.setTop (mkF m 8 #[vR a0, .val .null, vR a2] [.null, (.ref a2), .null, (.ref a0), (.ref b7), (.ref b7)])) _
    refine st22.trans ?_
    show Steps p.tables e below (T22.setTop (mkF m 11 #[vR a0, .val .null, vR a2] [(.ref b7)])) _
    jvm_step X22.here [X22.here.top, hx, (hb hby d39_11), X22.method', Bd.returns, Value.isRef, FieldType.isReference]
    first | (intro acts; rw [hr _ acts rfl rfl rfl]) | rw [hr _ _ rfl rfl rfl]
    exact Steps.refl _
  · show Q39f Z f ka d a0 a2 w_mir__Ljava_lang_Object_ w_EMPTY h0 n0 _ T22.heap _
    exact ⟨b7, b3_14_9_15_22, rfl, N22, K_24, (Nat.le_trans (Keep.refl h0 []).1 (Nat.le_of_eq g7.symm)), (Nat.le_trans K_8.1 g22_0), g22_2, g22_3, g22_4, g22_5, g22_6, g22_1⟩
theorem pd_22 : parseMethodDescriptor "(I)Lcom/example/deposita/deposita/core/Rule;" = some ⟨[.int], some (.object "com/example/deposita/deposita/core/Rule")⟩ := by decide +kernel
theorem pd_23 : parseMethodDescriptor "(C)Ljava/lang/String;" = some ⟨[.char], some (.object "java/lang/String")⟩ := by decide +kernel
theorem pd_24 : parseMethodDescriptor "(Lcom/example/deposita/deposita/core/Rule;Ljava/lang/String;)V" = some ⟨[(.object "com/example/deposita/deposita/core/Rule"), (.object "java/lang/String")], none⟩ := by decide +kernel
theorem pd_25 : parseMethodDescriptor "([C)V" = some ⟨[(.array .char)], none⟩ := by decide +kernel
set_option maxRecDepth 65536 in
set_option maxHeartbeats 40000000 in
theorem rm0seg (l : Launch) (Z : State) (A0 : Array Value) (hw : ∀ d ∈ tables_1, d.before A0 Z = true) (w_COMPACT_STRINGS : Int32) (w_DEFAULTCAPACITY_EMPTY_ELEMENTDATA : Addr) (k_w_DEFAULTCAPACITY_EMPTY_ELEMENTDATA : ClassId) (w_EMPTY_LIST : Addr) (x4 : Int32) (x5 : Int32) (x6 : Int32) (p0 : Int32) (p1 : Int32) (p2 : Int32) (p3 : Int32) (w_NO_DOI : Addr) (w_ISBN_CHECK_DIGIT : Addr) (w_DOI_SYNTAX : Addr) (w_CODE : Addr) (h0 : Heap) (n0 : Nat) (OLD : Old Z n0 h0) (c_1 : ¬ (w_COMPACT_STRINGS = (0 : Int32))) (f_2 : Sta Z Z.heap "java/util/ArrayList" "DEFAULTCAPACITY_EMPTY_ELEMENTDATA" "[Ljava/lang/Object;" (.ref w_DEFAULTCAPACITY_EMPTY_ELEMENTDATA)) (f_3 : Arv Z Z.heap w_DEFAULTCAPACITY_EMPTY_ELEMENTDATA k_w_DEFAULTCAPACITY_EMPTY_ELEMENTDATA (.object "java/lang/Object") (0 : Int32) [] .null) (f_8 : Sta Z Z.heap "com/example/deposita/deposita/core/Rule" "NO_DOI" "Lcom/example/deposita/deposita/core/Rule;" (.ref w_NO_DOI)) (f_9 : Sta Z Z.heap "com/example/deposita/deposita/core/Rule" "ISBN_CHECK_DIGIT" "Lcom/example/deposita/deposita/core/Rule;" (.ref w_ISBN_CHECK_DIGIT)) (f_10 : Sta Z Z.heap "com/example/deposita/deposita/core/Rule" "DOI_SYNTAX" "Lcom/example/deposita/deposita/core/Rule;" (.ref w_DOI_SYNTAX)) (f_11 : Sta Z Z.heap "com/example/deposita/deposita/core/Rule" "CODE" "Lcom/example/deposita/deposita/core/Rule;" (.ref w_CODE)) (f_14 : Sta Z Z.heap "java/lang/String" "COMPACT_STRINGS" "Z" (.int w_COMPACT_STRINGS))
    {p : Program} {e : Env} {s : State} {m : MethodId} {below : List Frame} {meth : Method} {c : Code} {s₁ : State} (X0 : Stand p l e room_1 (s.setVm s.vm) m #[(.int p0), (.int p1), (.int p2), (.int p3)] below meth c s₁ [] 0 0) (hx : p.tables.exec = Jvm.exec) (hZ : Z.Warmed39 (s.setVm s.vm).vm) (hby : c.code = code) (hml : c.maxLocals = 12) (hown : (s.setVm s.vm).vm.findClass "com/example/deposita/deposita/formats/MappedIsRefusedPinLaw" = some m.cls) (hh : s.heap = h0) (e0 : s₁.heap = h0) :
    ∃ (b4 : Addr) (b6_15 : Addr) (b24 : Addr) (b37 : Addr) (b4_8_10_46 : Addr) (b49 : Addr) (k24 : ClassId) (k4_8_10_46 : ClassId) (w_12 : Addr) (T : State) (L : List Loc) (vm0 : Vm) (kk : Nat), Stand p l e room_1 (s.setVm vm0) m #[(.int p0), (.int p1), (.int p2), (.int p3)] below meth c T L 11 62 ∧ Fr n0 L ∧ s.Since vm0 kk ∧ kk ≤ T.heap.size ∧ Z.Warmed39 (s.setVm vm0).vm ∧ (s.setVm vm0).vm.findClass "com/example/deposita/deposita/formats/MappedIsRefusedPinLaw" = some m.cls ∧ Keep h0 T.heap [] ∧ h0.size ≤ b4 ∧ h0.size ≤ b6_15 ∧ h0.size ≤ b24 ∧ h0.size ≤ b37 ∧ h0.size ≤ b4_8_10_46 ∧ h0.size ≤ b49 ∧ Exa Z T.heap b4 "com/example/deposita/deposita/core/Finding" ∧ Fld Z T.heap b4 "com/example/deposita/deposita/core/Finding" "rule" "Lcom/example/deposita/deposita/core/Rule;" (.ref w_12) ∧ Fld Z T.heap b4 "com/example/deposita/deposita/core/Finding" "where" "Ljava/lang/String;" (.ref b6_15) ∧ Exa Z T.heap b6_15 "java/lang/String" ∧ Arv Z T.heap b24 k24 .char (2 : Int32) [(.int (nar .char ((((p1.toUInt32 >>> ((8 : Int32) &&& 31).toUInt32).toInt32) &&& (255 : Int32)).toUInt32.toUInt16.toUInt32.toInt32))), (.int (nar .char ((((p1.toUInt32 >>> ((16 : Int32) &&& 31).toUInt32).toInt32) &&& (255 : Int32)).toUInt32.toUInt16.toUInt32.toInt32)))] (.int (0 : Int32)) ∧ Exa Z T.heap b37 "java/lang/String" ∧ Fld Z T.heap b37 "java/lang/String" "value" "[B" (.ref b4_8_10_46) ∧ Fld Z T.heap b37 "java/lang/String" "coder" "B" (.int (0 : Int32)) ∧ Arv Z T.heap b4_8_10_46 k4_8_10_46 .byte (2 : Int32) [(.int (nar .byte ((nar .char ((((p1.toUInt32 >>> ((8 : Int32) &&& 31).toUInt32).toInt32) &&& (255 : Int32)).toUInt32.toUInt16.toUInt32.toInt32)).toInt8.toInt32))), (.int (nar .byte ((nar .char ((((p1.toUInt32 >>> ((16 : Int32) &&& 31).toUInt32).toInt32) &&& (255 : Int32)).toUInt32.toUInt16.toUInt32.toInt32)).toInt8.toInt32)))] (.int (0 : Int32)) ∧ Exa Z T.heap b49 "java/util/ArrayList" ∧ Fld Z T.heap b49 "java/util/AbstractList" "modCount" "I" (.int (0 : Int32)) ∧ Fld Z T.heap b49 "java/util/ArrayList" "elementData" "[Ljava/lang/Object;" (.ref w_DEFAULTCAPACITY_EMPTY_ELEMENTDATA) ∧ Fld Z T.heap b49 "java/util/ArrayList" "size" "I" (.int (0 : Int32)) ∧ b4 ≠ b24 ∧ b4 ≠ b4_8_10_46 ∧ b6_15 ≠ b24 ∧ b6_15 ≠ b37 ∧ b6_15 ≠ b4_8_10_46 ∧ b24 ≠ b37 ∧ b24 ≠ b4_8_10_46 ∧ b24 ≠ b49 ∧ b37 ≠ b4_8_10_46 ∧ b4_8_10_46 ≠ b49 ∧ ∀ target, Steps p.tables e below (T.setTop (mkF m 112 #[vI p0, vI p1, vI p2, vI p3, vI x4, vI x5, vI x6, vR b4, vR b24, vR b37, vR b49, .unset] [])) target → Steps p.tables e below (s₁.setTop (mkF m 39 #[vI p0, vI p1, vI p2, vI p3, vI x4, vI x5, vI x6, .unset, .unset, .unset, .unset, .unset] [])) target := by
  have hS0 : s.Since s.vm h0.size := (State.WarmedH.refl s).since _
  have hk0 : h0.size ≤ h0.size := Nat.le_refl _
  have N0 := Fr.nil n0
  obtain ⟨T4, h4, X4, e4, E4, A4, D4, M4, st4⟩ := newO X0 hx hZ hown (hw _ (List.mem_of_getElem? (i := 0) rfl)) (hw _ (List.mem_of_getElem? (i := 1) rfl)) (hw _ (List.mem_of_getElem? (i := 2) rfl)) e0 (g := (mkF m 39 #[vI p0, vI p1, vI p2, vI p3, vI x4, vI x5, vI x6, .unset, .unset, .unset, .unset, .unset] [])) rfl (hb hby at_39) (by decide) (by decide)
  obtain ⟨b4, g4⟩ : ∃ z, z = h0.size := ⟨_, rfl⟩
  rw [← g4] at A4 D4 M4 st4
  have K_5 : Keep h0 h4 [] := (Keep.refl h0 []).ext E4
  have f_6 : Fld Z h4 b4 "com/example/deposita/deposita/core/Finding" "rule" "Lcom/example/deposita/deposita/core/Rule;" .null := (D4 (Or.inr (hw _ (List.mem_of_getElem? (i := 54) rfl))) (ty := (.object "com/example/deposita/deposita/core/Rule")) (by decide))
  have f_7 : Fld Z h4 b4 "com/example/deposita/deposita/core/Finding" "where" "Ljava/lang/String;" .null := (D4 (Or.inr (hw _ (List.mem_of_getElem? (i := 56) rfl))) (ty := (.object "java/lang/String")) (by decide))
  have O_13 := Old.ext OLD E4
  obtain ⟨_, _, ⟨T12, L12, k12, n12⟩, -, X12, ⟨Lc12, hQ12, l12, y12, z12⟩, st12⟩ := Jvm.LawKit.callS X4 hx (y := (⟨"com/example/deposita/deposita/formats/MappedIsRefusedPinLaw", "pick", "(I)Lcom/example/deposita/deposita/core/Rule;"⟩ : MethodName)) hown (mvT hZ (hw _ (List.mem_of_getElem? (i := 3) rfl))) (mvT hZ (hw _ (List.mem_of_getElem? (i := 4) rfl))) (mvT hZ (hw _ (List.mem_of_getElem? (i := 5) rfl))) (mvT hZ (hw _ (List.mem_of_getElem? (i := 6) rfl))) (by decide) (backOf (W := 2) (rmPick l Z A0 hw [] p2 w_NO_DOI w_ISBN_CHECK_DIGIT w_DOI_SYNTAX w_CODE h4 n0 O_13 f_8 f_9 f_10 f_11) hZ (hw _ (List.mem_of_getElem? (i := 6) rfl)) (hw _ (List.mem_of_getElem? (i := 5) rfl)) (by decide) (by decide)) (g := (mkF m 44 #[vI p0, vI p1, vI p2, vI p3, vI x4, vI x5, vI x6, .unset, .unset, .unset, .unset, .unset] [(.int p2), (.ref b4), (.ref b4)])) rfl (by rw [hml]; rfl) (argsL := [(.int p2)]) (rest := [(.ref b4), (.ref b4)]) (lenOf pd_22 rfl) rfl (by show 2 * 0 + _ ≤ _; exact Nat.le_of_eq rfl) (hb hby at_44) (fun _ _ => ⟨rfl, e4, (by decide : 1 + 0 ≤ _), (by decide : 2 + 0 ≤ _)⟩)
  dsimp only [Pt.U, Pt.locs, Pt.cells, Pt.slots] at X12 l12 y12 z12 st12 hQ12
  subst l12 y12 z12
  obtain ⟨w_12, rfl, N12q, e12⟩ := hQ12
  have N12 := Fr.app N0 N12q
  obtain ⟨_, _, ⟨T15, L15, k15, n15⟩, -, X15, ⟨Lc15, hQ15, l15, y15, z15⟩, st15⟩ := Jvm.LawKit.callS X12 hx (y := (⟨"java/lang/String", "valueOf", "(C)Ljava/lang/String;"⟩ : MethodName)) hown (mvT hZ (hw _ (List.mem_of_getElem? (i := 10) rfl))) (mvT hZ (hw _ (List.mem_of_getElem? (i := 11) rfl))) (mvT hZ (hw _ (List.mem_of_getElem? (i := 12) rfl))) (mvT hZ (hw _ (List.mem_of_getElem? (i := 13) rfl))) (by decide) (backOf (W := 3) (rm2 l Z A0 hw [] w_COMPACT_STRINGS ((p1 &&& (255 : Int32)).toUInt32.toUInt16.toUInt32.toInt32) h4 n0 O_13 c_1 (own_ch1 _) f_14) hZ (hw _ (List.mem_of_getElem? (i := 13) rfl)) (hw _ (List.mem_of_getElem? (i := 12) rfl)) (by decide) (by decide)) (g := (mkF m 53 #[vI p0, vI p1, vI p2, vI p3, vI x4, vI x5, vI x6, .unset, .unset, .unset, .unset, .unset] [(.int ((p1 &&& (255 : Int32)).toUInt32.toUInt16.toUInt32.toInt32)), (.ref w_12), (.ref b4), (.ref b4)])) rfl (by rw [hml]; rfl) (argsL := [(.int ((p1 &&& (255 : Int32)).toUInt32.toUInt16.toUInt32.toInt32))]) (rest := [(.ref w_12), (.ref b4), (.ref b4)]) (lenOf pd_23 rfl) rfl (by show 2 * 0 + _ ≤ _; exact Nat.le_of_eq rfl) (hb hby at_53) (fun _ _ => ⟨rfl, e12, (by decide : 1 + 2 ≤ _), (by decide : 2 + 5 ≤ _)⟩)
  dsimp only [Pt.U, Pt.locs, Pt.cells, Pt.slots] at X15 l15 y15 z15 st15 hQ15
  subst l15 y15 z15
  obtain ⟨b6_15, rfl, N15q, K15, g15_0, g15_1⟩ := hQ15
  have N15 := Fr.app N12 N15q
  have K_16 : Keep h0 T15.heap [] := Keep.trans K_5 K15 all0
  have f_17 := A4.keep K15
  have f_18 := f_6.keep K15 nin0
  have f_19 := f_7.keep K15 nin0
  have ge_20 : n0 ≤ b4 := own_ge OLD (Nat.le_of_eq g4.symm)
  have O_22 := Old.keep O_13 K15 all0
  obtain ⟨_, _, ⟨T21, L21, k21, n21⟩, -, X21, hS21q, hg21q, ⟨Lc21, hQ21, l21, y21, z21⟩, st21⟩ := X15.specialBackS hx (y := (⟨"com/example/deposita/deposita/core/Finding", "<init>", "(Lcom/example/deposita/deposita/core/Rule;Ljava/lang/String;)V"⟩ : MethodName)) rfl hown (mvT hZ (hw _ (List.mem_of_getElem? (i := 36) rfl))) (mvT hZ (hw _ (List.mem_of_getElem? (i := 37) rfl))) (mvT hZ (hw _ (List.mem_of_getElem? (i := 38) rfl))) (by decide) (backOfS (W := 1) (rm7 l Z A0 hw [] b4 w_12 b6_15 .null .null T15.heap n0 O_22 f_17 f_18 f_19 ge_20) hZ (hw _ (List.mem_of_getElem? (i := 38) rfl)) (hw _ (List.mem_of_getElem? (i := 2) rfl)) (by decide) (by decide)) (g := (mkF m 56 #[vI p0, vI p1, vI p2, vI p3, vI x4, vI x5, vI x6, .unset, .unset, .unset, .unset, .unset] [(.ref b6_15), (.ref w_12), (.ref b4), (.ref b4)])) rfl (by rw [hml]; rfl) (Steps.refl _) (a := b4) (argsL := [(.ref w_12), (.ref b6_15)]) (rest := [(.ref b4)]) (lenOf pd_24 rfl) rfl (by show 2 * 0 + _ ≤ _; exact Nat.le_of_eq rfl) (hb hby at_56) (fun _ _ => ⟨rfl, rfl, (by decide : 3 + 4 ≤ _), (by decide : 7 + 44 ≤ _)⟩)
  dsimp only [Pt.U, Pt.locs, Pt.cells, Pt.slots] at X21 l21 y21 z21 st21 hQ21
  subst l21 y21 z21
  dsimp only [Pt.U, Pt.locs, Pt.cells, Pt.slots] at hS21q hg21q
  have hS21 := foldS (T := T15) hS0 (Nat.le_trans (Nat.le_trans hk0 E4.1) K15.1) hS21q hg21q
  have hZ21 : Z.Warmed39 (s.setVm T21.vm).vm := State.Warmed39.trans (t := s.setVm _) hZ hS21q.1
  have hown21 : (s.setVm T21.vm).vm.findClass "com/example/deposita/deposita/formats/MappedIsRefusedPinLaw" = some m.cls := by rw [show (s.setVm T21.vm).vm = T21.vm from rfl, hS21q.1.alike.findClass]; exact hown
  have X21 : Stand p l e room_1 (s.setVm T21.vm) m _ below meth c T21 _ _ _ := X21
  obtain ⟨rfl, N21q, K21, g21_0, g21_1, g21_2⟩ := hQ21
  have N21 := Fr.app N15 N21q
  have K_23 : Keep h0 T21.heap [] := Keep.trans K_16 K21 (allS (Or.inr (Nat.le_trans (Keep.refl h0 []).1 (Nat.le_of_eq g4.symm))) all0)
  obtain ⟨T24, h24, k24, X24, e24, E24, A24, st24⟩ := newP X21 hx hZ21 (hw _ (List.mem_of_getElem? (i := 57) rfl)) rfl (g := (mkF m 62 #[vI p0, vI p1, vI p2, vI p3, vI x4, vI x5, vI x6, vR b4, .unset, .unset, .unset, .unset] [(.int (2 : Int32))])) rfl (hb hby at_62) rfl (by decide) (cap := 2) (by decide) (by decide) (by decide) (by decide)
  obtain ⟨b24, g24⟩ : ∃ z, z = T21.heap.size := ⟨_, rfl⟩
  rw [← g24] at A24 st24
  have K_25 : Keep h0 h24 [] := K_23.ext E24
  have f_26 : Arv Z h24 b24 k24 .char (2 : Int32) [(.int (0 : Int32)), (.int (0 : Int32))] (.int (0 : Int32)) := (Arv.new A24 (by decide)).pad (pad_rep [] (.int (0 : Int32)) 2)
  obtain ⟨cl27, Ar27, q27, s27, n27, hh27, gg27⟩ := id (f_26)
  have hin27 : ¬ ((0 : Int32) < 0 ∨ cl27.slots.size ≤ ((0 : Int32)).toNatClampNeg) := inb_of s27 ⟨by decide, by decide⟩
  obtain ⟨T28, h28, X28, e28, W28, st28⟩ := stC X24 hx hZ21 e24 Ar27 (j := (0 : Int32)) hin27 (g := (mkF m 78 #[vI p0, vI p1, vI p2, vI p3, vI x4, vI x5, vI x6, vR b4, vR b24, .unset, .unset, .unset] [(.int ((((p1.toUInt32 >>> ((8 : Int32) &&& 31).toUInt32).toInt32) &&& (255 : Int32)).toUInt32.toUInt16.toUInt32.toInt32)), (.int (0 : Int32)), (.ref b24)])) rfl rfl (hb hby at_78)
  have O_29 := Old.keep O_22 K21 (allS ge_20 all0)
  have ge_30 : n0 ≤ b24 := own_ge O_29 (Nat.le_of_eq g24.symm)
  have N28 := Fr.snoc X28 N21 ge_30
  have f_31 : Arv Z h28 b24 k24 .char (2 : Int32) [(.int (nar .char ((((p1.toUInt32 >>> ((8 : Int32) &&& 31).toUInt32).toInt32) &&& (255 : Int32)).toUInt32.toUInt16.toUInt32.toInt32))), (.int (0 : Int32))] (.int (0 : Int32)) := Arv.set Ar27 q27 s27 n27 hh27 gg27 (fits_nar_char _) W28 0 rfl (Nat.le_of_ble_eq_true rfl)
  have K_32 : Keep h0 h28 [] := K_25.wr W28 (Or.inr (Nat.le_trans K_23.1 (Nat.le_of_eq g24.symm)))
  obtain ⟨cl33, Ar33, q33, s33, n33, hh33, gg33⟩ := id (f_31)
  have hin33 : ¬ ((1 : Int32) < 0 ∨ cl33.slots.size ≤ ((1 : Int32)).toNatClampNeg) := inb_of s33 ⟨by decide, by decide⟩
  obtain ⟨T34, h34, X34, e34, W34, st34⟩ := stC X28 hx hZ21 e28 Ar33 (j := (1 : Int32)) hin33 (g := (mkF m 91 #[vI p0, vI p1, vI p2, vI p3, vI x4, vI x5, vI x6, vR b4, vR b24, .unset, .unset, .unset] [(.int ((((p1.toUInt32 >>> ((16 : Int32) &&& 31).toUInt32).toInt32) &&& (255 : Int32)).toUInt32.toUInt16.toUInt32.toInt32)), (.int (1 : Int32)), (.ref b24)])) rfl rfl (hb hby at_91)
  have N34 := Fr.snoc X34 N28 ge_30
  have f_35 : Arv Z h34 b24 k24 .char (2 : Int32) [(.int (nar .char ((((p1.toUInt32 >>> ((8 : Int32) &&& 31).toUInt32).toInt32) &&& (255 : Int32)).toUInt32.toUInt16.toUInt32.toInt32))), (.int (nar .char ((((p1.toUInt32 >>> ((16 : Int32) &&& 31).toUInt32).toInt32) &&& (255 : Int32)).toUInt32.toUInt16.toUInt32.toInt32)))] (.int (0 : Int32)) := Arv.set Ar33 q33 s33 n33 hh33 gg33 (fits_nar_char _) W34 1 rfl (Nat.le_of_ble_eq_true rfl)
  have K_36 : Keep h0 h34 [] := K_32.wr W34 (Or.inr (Nat.le_trans K_23.1 (Nat.le_of_eq g24.symm)))
  obtain ⟨T37, h37, X37, e37, E37, A37, D37, M37, st37⟩ := newO X34 hx hZ21 hown21 (hw _ (List.mem_of_getElem? (i := 58) rfl)) (hw _ (List.mem_of_getElem? (i := 20) rfl)) (hw _ (List.mem_of_getElem? (i := 12) rfl)) e34 (g := (mkF m 92 #[vI p0, vI p1, vI p2, vI p3, vI x4, vI x5, vI x6, vR b4, vR b24, .unset, .unset, .unset] [])) rfl (hb hby at_92) (by decide) (by decide)
  obtain ⟨b37, g37⟩ : ∃ z, z = h34.size := ⟨_, rfl⟩
  rw [← g37] at A37 D37 M37 st37
  have K_38 : Keep h0 h37 [] := K_36.ext E37
  have f_39 : Fld Z h37 b37 "java/lang/String" "value" "[B" .null := (D37 (Or.inr (hw _ (List.mem_of_getElem? (i := 33) rfl))) (ty := (.array .byte)) (by decide))
  have f_40 : Fld Z h37 b37 "java/lang/String" "coder" "B" (.int (0 : Int32)) := (D37 (Or.inr (hw _ (List.mem_of_getElem? (i := 35) rfl))) (ty := .byte) (by decide))
  have f_41 := f_35.ext E37
  have O_42 := Old.ext O_29 E24
  have O_43 := Old.wr O_42 W28 ge_30
  have O_44 := Old.wr O_43 W34 ge_30
  have ge_45 : n0 ≤ b37 := own_ge O_44 (Nat.le_of_eq g37.symm)
  have O_47 := Old.ext O_44 E37
  obtain ⟨_, _, ⟨T46, L46, k46, n46⟩, -, X46, ⟨Lc46, hQ46, l46, y46, z46⟩, st46⟩ := X37.specialBack hx (y := (⟨"java/lang/String", "<init>", "([C)V"⟩ : MethodName)) rfl hown21 (mvT hZ21 (hw _ (List.mem_of_getElem? (i := 59) rfl))) (mvT hZ21 (hw _ (List.mem_of_getElem? (i := 60) rfl))) (mvT hZ21 (hw _ (List.mem_of_getElem? (i := 61) rfl))) (by decide) (backOf (W := 1) (rm10s2 l Z A0 hw [] (nar .char ((((p1.toUInt32 >>> ((8 : Int32) &&& 31).toUInt32).toInt32) &&& (255 : Int32)).toUInt32.toUInt16.toUInt32.toInt32)) (nar .char ((((p1.toUInt32 >>> ((16 : Int32) &&& 31).toUInt32).toInt32) &&& (255 : Int32)).toUInt32.toUInt16.toUInt32.toInt32)) k24 w_COMPACT_STRINGS b37 b24 (.int (0 : Int32)) .null h37 n0 O_47 f_41 (own_ch _) (own_ch _) c_1 f_14 A37 f_40 ge_45 f_39) hZ21 (hw _ (List.mem_of_getElem? (i := 61) rfl)) (hw _ (List.mem_of_getElem? (i := 12) rfl)) (by decide) (by decide)) (g := (mkF m 98 #[vI p0, vI p1, vI p2, vI p3, vI x4, vI x5, vI x6, vR b4, vR b24, .unset, .unset, .unset] [(.ref b24), (.ref b37), (.ref b37)])) rfl (by rw [hml]; rfl) (Steps.refl _) (a := b37) (argsL := [(.ref b24)]) (rest := [(.ref b37)]) (lenOf pd_25 rfl) rfl (by show 2 * 0 + _ ≤ _; exact Nat.le_of_eq rfl) (hb hby at_98) (fun _ _ => ⟨rfl, e37, (by decide : 9 + 1 ≤ _), (by decide : 57 + 2 ≤ _)⟩)
  dsimp only [Pt.U, Pt.locs, Pt.cells, Pt.slots] at X46 l46 y46 z46 st46 hQ46
  subst l46 y46 z46
  obtain ⟨b4_8_10_46, k4_8_10_46, rfl, N46q, K46, g46_0, g46_1, g46_2, g46_3, g46_4⟩ := hQ46
  have N46 := Fr.app N34 N46q
  have K_48 : Keep h0 T46.heap [] := Keep.trans K_38 K46 (allS (Or.inr (Nat.le_trans K_36.1 (Nat.le_of_eq g37.symm))) all0)
  obtain ⟨T49, h49, X49, e49, E49, A49, D49, M49, st49⟩ := newO X46 hx hZ21 hown21 (hw _ (List.mem_of_getElem? (i := 75) rfl)) (hw _ (List.mem_of_getElem? (i := 76) rfl)) (hw _ (List.mem_of_getElem? (i := 77) rfl)) rfl (g := (mkF m 103 #[vI p0, vI p1, vI p2, vI p3, vI x4, vI x5, vI x6, vR b4, vR b24, vR b37, .unset, .unset] [])) rfl (hb hby at_103) (by decide) (by decide)
  obtain ⟨b49, g49⟩ : ∃ z, z = T46.heap.size := ⟨_, rfl⟩
  rw [← g49] at A49 D49 M49 st49
  have K_50 : Keep h0 h49 [] := K_48.ext E49
  have f_51 : Fld Z h49 b49 "java/util/AbstractList" "modCount" "I" (.int (0 : Int32)) := (D49 (Or.inl (hw _ (List.mem_of_getElem? (i := 95) rfl))) (ty := .int) (by decide))
  have f_52 : Fld Z h49 b49 "java/util/ArrayList" "elementData" "[Ljava/lang/Object;" .null := (D49 (Or.inl (hw _ (List.mem_of_getElem? (i := 98) rfl))) (ty := (.array (.object "java/lang/Object"))) (by decide))
  have f_53 : Fld Z h49 b49 "java/util/ArrayList" "size" "I" (.int (0 : Int32)) := (D49 (Or.inl (hw _ (List.mem_of_getElem? (i := 107) rfl))) (ty := .int) (by decide))
  have O_54 := Old.keep O_47 K46 (allS ge_45 all0)
  have ge_55 : n0 ≤ b49 := own_ge O_54 (Nat.le_of_eq g49.symm)
  have O_57 := Old.ext O_54 E49
  obtain ⟨_, _, ⟨T56, L56, k56, n56⟩, -, X56, ⟨Lc56, hQ56, l56, y56, z56⟩, st56⟩ := X49.specialBack hx (y := (⟨"java/util/ArrayList", "<init>", "()V"⟩ : MethodName)) rfl hown21 (mvT hZ21 (hw _ (List.mem_of_getElem? (i := 78) rfl))) (mvT hZ21 (hw _ (List.mem_of_getElem? (i := 79) rfl))) (mvT hZ21 (hw _ (List.mem_of_getElem? (i := 80) rfl))) (by decide) (backOf (W := 1) (rm15 l Z A0 hw [] b49 (.int (0 : Int32)) .null (.int (0 : Int32)) w_DEFAULTCAPACITY_EMPTY_ELEMENTDATA h49 n0 O_57 A49 f_51 f_52 f_53 ge_55 f_2) hZ21 (hw _ (List.mem_of_getElem? (i := 80) rfl)) (hw _ (List.mem_of_getElem? (i := 77) rfl)) (by decide) (by decide)) (g := (mkF m 107 #[vI p0, vI p1, vI p2, vI p3, vI x4, vI x5, vI x6, vR b4, vR b24, vR b37, .unset, .unset] [(.ref b49), (.ref b49)])) rfl (by rw [hml]; rfl) (Steps.refl _) (a := b49) (argsL := []) (rest := [(.ref b49)]) (lenOf pd_7 rfl) rfl (by show 2 * 0 + _ ≤ _; exact Nat.le_of_eq rfl) (hb hby at_107) (fun _ _ => ⟨rfl, e49, (by decide : 11 + 0 ≤ _), (by decide : 62 + 0 ≤ _)⟩)
  dsimp only [Pt.U, Pt.locs, Pt.cells, Pt.slots] at X56 l56 y56 z56 st56 hQ56
  subst l56 y56 z56
  obtain ⟨rfl, N56q, K56, g56_0, g56_1, g56_2, g56_3⟩ := hQ56
  have N56 := Fr.app N46 N56q
  have K_58 : Keep h0 T56.heap [] := Keep.trans K_50 K56 (allS (Or.inr (Nat.le_trans K_48.1 (Nat.le_of_eq g49.symm))) all0)
  have f_59 := g21_0.ext E24
  have f_60 := f_59.wr W28
  have f_61 := f_60.wr W34
  have f_62 := f_61.ext E37
  have f_63 := f_62.keep K46
  have f_64 := f_63.ext E49
  have f_65 := f_64.keep K56
  have f_66 := g21_1.ext E24
  have ne_67 : b4 ≠ b24 := Nat.ne_of_lt (Nat.lt_of_lt_of_le g21_0.lt (Nat.le_of_eq g24.symm))
  have f_68 := f_66.other W28 (Or.inl ne_67)
  have f_69 := f_68.other W34 (Or.inl ne_67)
  have f_70 := f_69.ext E37
  have ne_71 : b4 ≠ b37 := Nat.ne_of_lt (Nat.lt_of_lt_of_le f_61.lt (Nat.le_of_eq g37.symm))
  have f_72 := f_70.keep K46 (ninS ne_71 nin0)
  have f_73 := f_72.ext E49
  have ne_74 : b4 ≠ b49 := Nat.ne_of_lt (Nat.lt_of_lt_of_le f_63.lt (Nat.le_of_eq g49.symm))
  have f_75 := f_73.keep K56 (ninS ne_74 nin0)
  have f_76 := g21_2.ext E24
  have f_77 := f_76.other W28 (Or.inl ne_67)
  have f_78 := f_77.other W34 (Or.inl ne_67)
  have f_79 := f_78.ext E37
  have f_80 := f_79.keep K46 (ninS ne_71 nin0)
  have f_81 := f_80.ext E49
  have f_82 := f_81.keep K56 (ninS ne_74 nin0)
  have f_83 := g15_1.keep K21
  have f_84 := f_83.ext E24
  have f_85 := f_84.wr W28
  have f_86 := f_85.wr W34
  have f_87 := f_86.ext E37
  have f_88 := f_87.keep K46
  have f_89 := f_88.ext E49
  have f_90 := f_89.keep K56
  have ne_91 : b24 ≠ b37 := Nat.ne_of_lt (Nat.lt_of_lt_of_le f_35.lt (Nat.le_of_eq g37.symm))
  have f_92 := f_41.keep K46 (ninS ne_91 nin0)
  have f_93 := f_92.ext E49
  have ne_94 : b24 ≠ b49 := Nat.ne_of_lt (Nat.lt_of_lt_of_le f_92.lt (Nat.le_of_eq g49.symm))
  have f_95 := f_93.keep K56 (ninS ne_94 nin0)
  have f_96 := g46_2.ext E49
  have f_97 := f_96.keep K56
  have f_98 := g46_4.ext E49
  have ne_99 : b37 ≠ b49 := Nat.ne_of_lt (Nat.lt_of_lt_of_le g46_2.lt (Nat.le_of_eq g49.symm))
  have f_100 := f_98.keep K56 (ninS ne_99 nin0)
  have f_101 := g46_3.ext E49
  have f_102 := f_101.keep K56 (ninS ne_99 nin0)
  have f_103 := g46_1.ext E49
  have ne_104 : b4_8_10_46 ≠ b49 := Nat.ne_of_lt (Nat.lt_of_lt_of_le g46_1.lt (Nat.le_of_eq g49.symm))
  have f_105 := f_103.keep K56 (ninS ne_104 nin0)
  have ne_106 : b4 ≠ b4_8_10_46 := Nat.ne_of_lt (Nat.lt_of_lt_of_le f_62.lt g46_0)
  have ne_107 : b6_15 ≠ b24 := Nat.ne_of_lt (Nat.lt_of_lt_of_le f_83.lt (Nat.le_of_eq g24.symm))
  have ne_108 : b6_15 ≠ b37 := Nat.ne_of_lt (Nat.lt_of_lt_of_le f_86.lt (Nat.le_of_eq g37.symm))
  have ne_109 : b6_15 ≠ b4_8_10_46 := Nat.ne_of_lt (Nat.lt_of_lt_of_le f_87.lt g46_0)
  have ne_110 : b24 ≠ b4_8_10_46 := Nat.ne_of_lt (Nat.lt_of_lt_of_le f_41.lt g46_0)
  have ne_111 : b37 ≠ b4_8_10_46 := Nat.ne_of_lt (Nat.lt_of_lt_of_le A37.lt g46_0)
  refine ⟨b4, b6_15, b24, b37, b4_8_10_46, b49, k24, k4_8_10_46, w_12, T56, _, _, _, X56, N56, hS21, (Nat.le_trans (Nat.le_trans (Nat.le_trans (Nat.le_trans (Nat.le_trans (Nat.le_trans (Nat.le_trans (Nat.le_refl _) E24.1) (Keep.of_wr W28).1) (Keep.of_wr W34).1) E37.1) K46.1) E49.1) K56.1), hZ21, hown21, K_58, (Nat.le_trans (Keep.refl h0 []).1 (Nat.le_of_eq g4.symm)), (Nat.le_trans K_5.1 g15_0), (Nat.le_trans K_23.1 (Nat.le_of_eq g24.symm)), (Nat.le_trans K_36.1 (Nat.le_of_eq g37.symm)), (Nat.le_trans K_38.1 g46_0), (Nat.le_trans K_48.1 (Nat.le_of_eq g49.symm)), f_65, f_75, f_82, f_90, f_95, f_97, f_100, f_102, f_105, g56_0, g56_1, g56_2, g56_3, ne_67, ne_106, ne_107, ne_108, ne_109, ne_91, ne_110, ne_94, ne_111, ne_104, fun target kt => ?_⟩
  show Steps p.tables e below (s₁.setTop (mkF m 39 #[vI p0, vI p1, vI p2, vI p3, vI x4, vI x5, vI x6, .unset, .unset, .unset, .unset, .unset] [])) _
  refine st4 _ ?_
  refine XS.dup X4.here hx rfl (hb hby at_42) rfl rfl ?_
  show Steps p.tables e below (T4.setTop (mkF m 43 #[vI p0, vI p1, vI p2, vI p3, vI x4, vI x5, vI x6, .unset, .unset, .unset, .unset, .unset] [(.ref b4), (.ref b4)])) _
  refine XS.iloadN X4.here hx rfl (hb hby at_43) rfl ?_
  refine st12 _ ?_
  show Steps p.tables e below (T12.setTop (mkF m 47 #[vI p0, vI p1, vI p2, vI p3, vI x4, vI x5, vI x6, .unset, .unset, .unset, .unset, .unset] [(.ref w_12), (.ref b4), (.ref b4)])) _
  refine XS.iloadN X12.here hx rfl (hb hby at_47) rfl ?_
  refine XS.sipush X12.here hx rfl (hb hby at_48) ?_
  show Steps p.tables e below (T12.setTop (mkF m 51 #[vI p0, vI p1, vI p2, vI p3, vI x4, vI x5, vI x6, .unset, .unset, .unset, .unset, .unset] [(.int (255 : Int32)), (.int p1), (.ref w_12), (.ref b4), (.ref b4)])) _
  refine XS.iand X12.here hx rfl (hb hby at_51) rfl ?_
  refine XS.i2c X12.here hx rfl (hb hby at_52) rfl ?_
  show Steps p.tables e below (T12.setTop (mkF m 53 #[vI p0, vI p1, vI p2, vI p3, vI x4, vI x5, vI x6, .unset, .unset, .unset, .unset, .unset] [(.int ((p1 &&& (255 : Int32)).toUInt32.toUInt16.toUInt32.toInt32)), (.ref w_12), (.ref b4), (.ref b4)])) _
  refine st15 _ ?_
  refine st21.trans ?_
  show Steps p.tables e below (T21.setTop (mkF m 59 #[vI p0, vI p1, vI p2, vI p3, vI x4, vI x5, vI x6, .unset, .unset, .unset, .unset, .unset] [(.ref b4)])) _
  refine XS.astore X21.here hx rfl (hb hby at_59) rfl rfl (l' := #[vI p0, vI p1, vI p2, vI p3, vI x4, vI x5, vI x6, vR b4, .unset, .unset, .unset, .unset]) rfl ?_
  refine XS.iconst X21.here hx rfl (hb hby at_61) ?_
  show Steps p.tables e below (T21.setTop (mkF m 62 #[vI p0, vI p1, vI p2, vI p3, vI x4, vI x5, vI x6, vR b4, .unset, .unset, .unset, .unset] [(.int (2 : Int32))])) _
  refine st24 _ ?_
  refine XS.astore X24.here hx rfl (hb hby at_64) rfl rfl (l' := #[vI p0, vI p1, vI p2, vI p3, vI x4, vI x5, vI x6, vR b4, vR b24, .unset, .unset, .unset]) rfl ?_
  show Steps p.tables e below (T24.setTop (mkF m 66 #[vI p0, vI p1, vI p2, vI p3, vI x4, vI x5, vI x6, vR b4, vR b24, .unset, .unset, .unset] [])) _
  refine XS.aload X24.here hx rfl (hb hby at_66) rfl rfl ?_
  refine XS.iconst X24.here hx rfl (hb hby at_68) ?_
  show Steps p.tables e below (T24.setTop (mkF m 69 #[vI p0, vI p1, vI p2, vI p3, vI x4, vI x5, vI x6, vR b4, vR b24, .unset, .unset, .unset] [(.int (0 : Int32)), (.ref b24)])) _
  refine XS.iloadN X24.here hx rfl (hb hby at_69) rfl ?_
  refine XS.bipush X24.here hx rfl (hb hby at_70) ?_
  show Steps p.tables e below (T24.setTop (mkF m 72 #[vI p0, vI p1, vI p2, vI p3, vI x4, vI x5, vI x6, vR b4, vR b24, .unset, .unset, .unset] [(.int (8 : Int32)), (.int p1), (.int (0 : Int32)), (.ref b24)])) _
  refine XS.iushr X24.here hx rfl (hb hby at_72) rfl ?_
  refine XS.sipush X24.here hx rfl (hb hby at_73) ?_
  show Steps p.tables e below (T24.setTop (mkF m 76 #[vI p0, vI p1, vI p2, vI p3, vI x4, vI x5, vI x6, vR b4, vR b24, .unset, .unset, .unset] [(.int (255 : Int32)), (.int ((p1.toUInt32 >>> ((8 : Int32) &&& 31).toUInt32).toInt32)), (.int (0 : Int32)), (.ref b24)])) _
  refine XS.iand X24.here hx rfl (hb hby at_76) rfl ?_
  refine XS.i2c X24.here hx rfl (hb hby at_77) rfl ?_
  show Steps p.tables e below (T24.setTop (mkF m 78 #[vI p0, vI p1, vI p2, vI p3, vI x4, vI x5, vI x6, vR b4, vR b24, .unset, .unset, .unset] [(.int ((((p1.toUInt32 >>> ((8 : Int32) &&& 31).toUInt32).toInt32) &&& (255 : Int32)).toUInt32.toUInt16.toUInt32.toInt32)), (.int (0 : Int32)), (.ref b24)])) _
  refine st28 _ ?_
  refine XS.aload X28.here hx rfl (hb hby at_79) rfl rfl ?_
  show Steps p.tables e below (T28.setTop (mkF m 81 #[vI p0, vI p1, vI p2, vI p3, vI x4, vI x5, vI x6, vR b4, vR b24, .unset, .unset, .unset] [(.ref b24)])) _
  refine XS.iconst X28.here hx rfl (hb hby at_81) ?_
  refine XS.iloadN X28.here hx rfl (hb hby at_82) rfl ?_
  show Steps p.tables e below (T28.setTop (mkF m 83 #[vI p0, vI p1, vI p2, vI p3, vI x4, vI x5, vI x6, vR b4, vR b24, .unset, .unset, .unset] [(.int p1), (.int (1 : Int32)), (.ref b24)])) _
  refine XS.bipush X28.here hx rfl (hb hby at_83) ?_
  refine XS.iushr X28.here hx rfl (hb hby at_85) rfl ?_
  show Steps p.tables e below (T28.setTop (mkF m 86 #[vI p0, vI p1, vI p2, vI p3, vI x4, vI x5, vI x6, vR b4, vR b24, .unset, .unset, .unset] [(.int ((p1.toUInt32 >>> ((16 : Int32) &&& 31).toUInt32).toInt32)), (.int (1 : Int32)), (.ref b24)])) _
  refine XS.sipush X28.here hx rfl (hb hby at_86) ?_
  refine XS.iand X28.here hx rfl (hb hby at_89) rfl ?_
  show Steps p.tables e below (T28.setTop (mkF m 90 #[vI p0, vI p1, vI p2, vI p3, vI x4, vI x5, vI x6, vR b4, vR b24, .unset, .unset, .unset] [(.int (((p1.toUInt32 >>> ((16 : Int32) &&& 31).toUInt32).toInt32) &&& (255 : Int32))), (.int (1 : Int32)), (.ref b24)])) _
  refine XS.i2c X28.here hx rfl (hb hby at_90) rfl ?_
  refine st34 _ ?_
  show Steps p.tables e below (T34.setTop (mkF m 92 #[vI p0, vI p1, vI p2, vI p3, vI x4, vI x5, vI x6, vR b4, vR b24, .unset, .unset, .unset] [])) _
  refine st37 _ ?_
  refine XS.dup X37.here hx rfl (hb hby at_95) rfl rfl ?_
  show Steps p.tables e below (T37.setTop (mkF m 96 #[vI p0, vI p1, vI p2, vI p3, vI x4, vI x5, vI x6, vR b4, vR b24, .unset, .unset, .unset] [(.ref b37), (.ref b37)])) _
  refine XS.aload X37.here hx rfl (hb hby at_96) rfl rfl ?_
  refine st46.trans ?_
  show Steps p.tables e below (T46.setTop (mkF m 101 #[vI p0, vI p1, vI p2, vI p3, vI x4, vI x5, vI x6, vR b4, vR b24, .unset, .unset, .unset] [(.ref b37)])) _
  refine XS.astore X46.here hx rfl (hb hby at_101) rfl rfl (l' := #[vI p0, vI p1, vI p2, vI p3, vI x4, vI x5, vI x6, vR b4, vR b24, vR b37, .unset, .unset]) rfl ?_
  refine st49 _ ?_
  show Steps p.tables e below (T49.setTop (mkF m 106 #[vI p0, vI p1, vI p2, vI p3, vI x4, vI x5, vI x6, vR b4, vR b24, vR b37, .unset, .unset] [(.ref b49)])) _
  refine XS.dup X49.here hx rfl (hb hby at_106) rfl rfl ?_
  refine st56.trans ?_
  show Steps p.tables e below (T56.setTop (mkF m 110 #[vI p0, vI p1, vI p2, vI p3, vI x4, vI x5, vI x6, vR b4, vR b24, vR b37, .unset, .unset] [(.ref b49)])) _
  refine XS.astore X56.here hx rfl (hb hby at_110) rfl rfl (l' := #[vI p0, vI p1, vI p2, vI p3, vI x4, vI x5, vI x6, vR b4, vR b24, vR b37, vR b49, .unset]) rfl ?_
  exact kt
theorem ef_0 (m : MethodId) (x0 : Int32) (x1 : Int32) (x2 : Int32) (x3 : Int32) : entryFrame m #[(.int x0), (.int x1), (.int x2), (.int x3)] maxLocals = mkF m 0 #[vI x0, vI x1, vI x2, vI x3, .unset, .unset, .unset, .unset, .unset, .unset, .unset, .unset] [] := by first | (simp [entryFrame, mkF, argsToLocals, Value.category, maxLocals]; done) | rfl
def Q0r000 (Z : State) (w_COMPACT_STRINGS : Int32) (w_DEFAULTCAPACITY_EMPTY_ELEMENTDATA : Addr) (k_w_DEFAULTCAPACITY_EMPTY_ELEMENTDATA : ClassId) (w_EMPTY_LIST : Addr) (p0 : Int32) (p1 : Int32) (p2 : Int32) (p3 : Int32) (w_NO_DOI : Addr) (w_ISBN_CHECK_DIGIT : Addr) (w_DOI_SYNTAX : Addr) (w_CODE : Addr) (h0 : Heap) (n0 : Nat) (v : Option Value) (h : Heap) (L : List Loc) : Prop := v = some (.int (1 : Int32)) ∧ Fr n0 L
set_option maxRecDepth 65536 in
set_option maxHeartbeats 40000000 in
theorem rm0r000 (l : Launch) (Z : State) (A0 : Array Value) (hw : ∀ d ∈ tables_1, d.before A0 Z = true) (ws : List Jvm.Cond) (w_COMPACT_STRINGS : Int32) (w_DEFAULTCAPACITY_EMPTY_ELEMENTDATA : Addr) (k_w_DEFAULTCAPACITY_EMPTY_ELEMENTDATA : ClassId) (w_EMPTY_LIST : Addr) (p0 : Int32) (p1 : Int32) (p2 : Int32) (p3 : Int32) (w_NO_DOI : Addr) (w_ISBN_CHECK_DIGIT : Addr) (w_DOI_SYNTAX : Addr) (w_CODE : Addr) (h0 : Heap) (n0 : Nat) (OLD : Old Z n0 h0) (c_1 : ¬ (w_COMPACT_STRINGS = (0 : Int32))) (f_2 : Sta Z Z.heap "java/util/ArrayList" "DEFAULTCAPACITY_EMPTY_ELEMENTDATA" "[Ljava/lang/Object;" (.ref w_DEFAULTCAPACITY_EMPTY_ELEMENTDATA)) (f_3 : Arv Z Z.heap w_DEFAULTCAPACITY_EMPTY_ELEMENTDATA k_w_DEFAULTCAPACITY_EMPTY_ELEMENTDATA (.object "java/lang/Object") (0 : Int32) [] .null) (f_4 : Sta Z Z.heap "java/util/ImmutableCollections" "EMPTY_LIST" "Ljava/util/ImmutableCollections$ListN;" (.ref w_EMPTY_LIST)) (f_5 : Exa Z Z.heap w_EMPTY_LIST "java/util/ImmutableCollections$ListN") (f_6 : Fld Z Z.heap w_EMPTY_LIST "java/util/ImmutableCollections$ListN" "allowNulls" "Z" (.int (0 : Int32))) (c_7 : (p0 &&& (1 : Int32)) = (0 : Int32)) (c_8 : (p0 &&& (2 : Int32)) = (0 : Int32)) (c_9 : (p3 &&& (1 : Int32)) = (0 : Int32)) (f_10 : Sta Z Z.heap "com/example/deposita/deposita/core/Rule" "NO_DOI" "Lcom/example/deposita/deposita/core/Rule;" (.ref w_NO_DOI)) (f_11 : Sta Z Z.heap "com/example/deposita/deposita/core/Rule" "ISBN_CHECK_DIGIT" "Lcom/example/deposita/deposita/core/Rule;" (.ref w_ISBN_CHECK_DIGIT)) (f_12 : Sta Z Z.heap "com/example/deposita/deposita/core/Rule" "DOI_SYNTAX" "Lcom/example/deposita/deposita/core/Rule;" (.ref w_DOI_SYNTAX)) (f_13 : Sta Z Z.heap "com/example/deposita/deposita/core/Rule" "CODE" "Lcom/example/deposita/deposita/core/Rule;" (.ref w_CODE)) (f_14 : Sta Z Z.heap "java/lang/String" "COMPACT_STRINGS" "Z" (.int w_COMPACT_STRINGS)) :
    MetFree l x (head1 (Jvm.Cond.code x code maxLocals ret :: ws) room_1) (fun a U => a = #[(.int p0), (.int p1), (.int p2), (.int p3)] ∧ Z.Warmed39 U.vm ∧ U.heap = h0) (fun _ _ _ _ _ => True) (fun _ U o U' => ∃ v L, o = .returned v ∧ Q0r000 Z w_COMPACT_STRINGS w_DEFAULTCAPACITY_EMPTY_ELEMENTDATA k_w_DEFAULTCAPACITY_EMPTY_ELEMENTDATA w_EMPTY_LIST p0 p1 p2 p3 w_NO_DOI w_ISBN_CHECK_DIGIT w_DOI_SYNTAX w_CODE h0 n0 v U'.heap L ∧ ReturnedEndW U o U' L room_1.cells room_1.slots) := by
  refine MetFree.of_bodySF (plainFor_of_name pn_com_example_deposita_deposita_formats_MappedIsRefusedPinLaw) hisR ?_
  intro p e s m args below meth c s₁ Bd hml0 hP hK
  obtain ⟨rfl, hZ, hh⟩ := hP
  have hx := Bd.exec
  have hby := Bd.bytes
  have hml : c.maxLocals = 12 := hml0
  have hown : s.vm.findClass "com/example/deposita/deposita/formats/MappedIsRefusedPinLaw" = some m.cls := findClass_of_methodNamed Bd.named
  have hnm := (name_of_methodNamed Bd.named Bd.method).1
  have X0 : Stand p l e room_1 (s.setVm s.vm) m #[(.int p0), (.int p1), (.int p2), (.int p3)] below meth c s₁ [] 0 0 := Stand.of_body Bd
  have e0 : s₁.heap = h0 := by rw [← hh, Bd.state]; rfl
  have hS0 : s.Since s.vm h0.size := (State.WarmedH.refl s).since _
  have hk0 : h0.size ≤ h0.size := Nat.le_refl _
  have hZ : Z.Warmed39 (s.setVm s.vm).vm := hZ
  have hown : (s.setVm s.vm).vm.findClass "com/example/deposita/deposita/formats/MappedIsRefusedPinLaw" = some m.cls := hown
  have N0 := Fr.nil n0
  have pre0 : ∀ t, Steps p.tables e below (s₁.setTop (mkF m 0 #[vI p0, vI p1, vI p2, vI p3, .unset, .unset, .unset, .unset, .unset, .unset, .unset, .unset] [])) t → Steps p.tables e below (s₁.setTop (entryFrame m #[(.int p0), (.int p1), (.int p2), (.int p3)] maxLocals)) t := fun t k => castTop (ef_0 m p0 p1 p2 p3) k
  obtain ⟨b4_15, b6_15_15, b24_15, b37_15, b4_8_10_46_15, b49_15, k24_15, k4_8_10_46_15, w_12_15, T15, L15, vm15, kk15, X15, N15, hS15, hk15, hZ15, hown15, K15, g15_0, g15_1, g15_2, g15_3, g15_4, g15_5, g15_6, g15_7, g15_8, g15_9, g15_10, g15_11, g15_12, g15_13, g15_14, g15_15, g15_16, g15_17, g15_18, g15_19, g15_20, g15_21, g15_22, g15_23, g15_24, g15_25, g15_26, g15_27, g15_28, st15⟩ := rm0seg l Z A0 hw w_COMPACT_STRINGS w_DEFAULTCAPACITY_EMPTY_ELEMENTDATA k_w_DEFAULTCAPACITY_EMPTY_ELEMENTDATA w_EMPTY_LIST (0 : Int32) (0 : Int32) (0 : Int32) p0 p1 p2 p3 w_NO_DOI w_ISBN_CHECK_DIGIT w_DOI_SYNTAX w_CODE h0 n0 OLD c_1 f_2 f_3 f_10 f_11 f_12 f_13 f_14 X0 hx hZ hby hml hown hh e0
  have K_16 : Keep h0 T15.heap [] := Keep.trans (Keep.refl h0 []) K15 all0
  obtain ⟨T17, h17, X17, e17, E17, A17, D17, M17, st17⟩ := newO X15 hx hZ15 hown15 (hw _ (List.mem_of_getElem? (i := 130) rfl)) (hw _ (List.mem_of_getElem? (i := 131) rfl)) (hw _ (List.mem_of_getElem? (i := 132) rfl)) rfl (g := (mkF m 184 #[vI p0, vI p1, vI p2, vI p3, vI (0 : Int32), vI (0 : Int32), vI (0 : Int32), vR b4_15, vR b24_15, vR b37_15, vR b49_15, .unset] [])) rfl (hb hby at_184) (by decide) (by decide)
  obtain ⟨b17, g17⟩ : ∃ z, z = T15.heap.size := ⟨_, rfl⟩
  rw [← g17] at A17 D17 M17 st17
  have K_18 : Keep h0 h17 [] := K_16.ext E17
  have f_19 : Fld Z h17 b17 "com/example/deposita/deposita/formats/Mapped" "recordId" "Ljava/lang/String;" .null := (D17 (Or.inr (hw _ (List.mem_of_getElem? (i := 223) rfl))) (ty := (.object "java/lang/String")) (by decide))
  have f_20 : Fld Z h17 b17 "com/example/deposita/deposita/formats/Mapped" "product" "Lcom/example/deposita/deposita/core/Product;" .null := (D17 (Or.inr (hw _ (List.mem_of_getElem? (i := 225) rfl))) (ty := (.object "com/example/deposita/deposita/core/Product")) (by decide))
  have f_21 : Fld Z h17 b17 "com/example/deposita/deposita/formats/Mapped" "warnings" "Ljava/util/List;" .null := (D17 (Or.inr (hw _ (List.mem_of_getElem? (i := 227) rfl))) (ty := (.object "java/util/List")) (by decide))
  have f_22 : Fld Z h17 b17 "com/example/deposita/deposita/formats/Mapped" "refusal" "Lcom/example/deposita/deposita/core/Finding;" .null := (D17 (Or.inr (hw _ (List.mem_of_getElem? (i := 229) rfl))) (ty := (.object "com/example/deposita/deposita/core/Finding")) (by decide))
  have f_23 := g15_15.ext E17
  have f_24 := g15_18.ext E17
  have O_25 := Old.keep OLD K15 all0
  have ge_26 : n0 ≤ b17 := own_ge O_25 (Nat.le_of_eq g17.symm)
  have O_28 := Old.ext O_25 E17
  obtain ⟨_, _, ⟨T27, L27, k27, n27⟩, -, X27, ⟨Lc27, hQ27, l27, y27, z27⟩, st27⟩ := X17.specialBack hx (y := (⟨"com/example/deposita/deposita/formats/Mapped", "<init>", "(Ljava/lang/String;Lcom/example/deposita/deposita/core/Product;Ljava/util/List;Lcom/example/deposita/deposita/core/Finding;)V"⟩ : MethodName)) rfl hown15 (mvT hZ15 (hw _ (List.mem_of_getElem? (i := 133) rfl))) (mvT hZ15 (hw _ (List.mem_of_getElem? (i := 134) rfl))) (mvT hZ15 (hw _ (List.mem_of_getElem? (i := 135) rfl))) (by decide) (backOf (W := 1) (rm23e0 l Z A0 hw [] b17 b37_15 b49_15 .null .null .null .null w_EMPTY_LIST h17 n0 O_28 f_23 f_24 A17 f_19 f_20 f_21 f_22 f_4 ge_26) hZ15 (hw _ (List.mem_of_getElem? (i := 135) rfl)) (hw _ (List.mem_of_getElem? (i := 132) rfl)) (by decide) (by decide)) (g := (mkF m 194 #[vI p0, vI p1, vI p2, vI p3, vI (0 : Int32), vI (0 : Int32), vI (0 : Int32), vR b4_15, vR b24_15, vR b37_15, vR b49_15, .unset] [.null, (.ref b49_15), .null, (.ref b37_15), (.ref b17), (.ref b17)])) rfl (by rw [hml]; rfl) (Steps.refl _) (a := b17) (argsL := [(.ref b37_15), .null, (.ref b49_15), .null]) (rest := [(.ref b17)]) (lenOf pd_21 rfl) rfl (by show 2 * 0 + _ ≤ _; exact Nat.le_of_eq rfl) (hb hby at_194) (fun _ _ => ⟨rfl, e17, (by decide : 12 + 0 ≤ _), (by decide : 66 + 0 ≤ _)⟩)
  dsimp only [Pt.U, Pt.locs, Pt.cells, Pt.slots] at X27 l27 y27 z27 st27 hQ27
  subst l27 y27 z27
  obtain ⟨rfl, N27q, K27, g27_0, g27_1, g27_2, g27_3, g27_4⟩ := hQ27
  have N27 := Fr.app N15 N27q
  have K_29 : Keep h0 T27.heap [] := Keep.trans K_18 K27 (allS (Or.inr (Nat.le_trans K_16.1 (Nat.le_of_eq g17.symm))) all0)
  have O_31 := Old.keep O_28 K27 (allS ge_26 all0)
  obtain ⟨cq30, kq30, q30a, q30b, q30c⟩ := isOf hZ15 rfl g27_0
  obtain ⟨_, _, ⟨T30, L30, k30, n30⟩, -, X30, ⟨Lc30, hQ30, l30, y30, z30⟩, st30⟩ := X27.virtualBack hx (y := (⟨"com/example/deposita/deposita/formats/Mapped", "isRefused", "()Z"⟩ : MethodName)) (z := (⟨"com/example/deposita/deposita/formats/Mapped", "isRefused", "()Z"⟩ : MethodName)) hown15 (mvT hZ15 (hw _ (List.mem_of_getElem? (i := 230) rfl))) (mvT hZ15 (hw _ (List.mem_of_getElem? (i := 231) rfl))) (notFace_of_selects (args := #[]) (mvT hZ15 (hw _ (List.mem_of_getElem? (i := 233) rfl)))) (mvT hZ15 (hw _ (List.mem_of_getElem? (i := 233) rfl))) (mvT hZ15 (hw _ (List.mem_of_getElem? (i := 232) rfl))) (by decide) (backOf (W := 0) (rm36r0 l Z A0 hw [] b17 T27.heap n0 O_31 g27_4) hZ15 (hw _ (List.mem_of_getElem? (i := 234) rfl)) (hw _ (List.mem_of_getElem? (i := 132) rfl)) (by decide) (by decide)) q30a q30c (g := (mkF m 201 #[vI p0, vI p1, vI p2, vI p3, vI (0 : Int32), vI (0 : Int32), vI (0 : Int32), vR b4_15, vR b24_15, vR b37_15, vR b49_15, vR b17] [(.ref b17)])) rfl (by rw [hml]; rfl) (Steps.refl _) (argsL := []) (rest := []) (lenOf pd_17 rfl) rfl (by show 2 * 0 + _ ≤ _; exact Nat.le_of_eq rfl) (hb hby at_201) (fun _ _ => ⟨rfl, rfl, (by decide : 12 + 0 ≤ _), (by decide : 66 + 0 ≤ _)⟩)
  dsimp only [Pt.U, Pt.locs, Pt.cells, Pt.slots] at X30 l30 y30 z30 st30 hQ30
  subst l30 y30 z30
  obtain ⟨rfl, N30q, e30⟩ := hQ30
  have N30 := Fr.app N27 N30q
  obtain ⟨fs, hr, hrun, hended, hRW⟩ := X30.leaveW (s := s) hS15 (by rw [e30]; exact (Nat.le_trans (Nat.le_trans hk15 E17.1) K27.1)) (v := some (.int (1 : Int32))) (fun h => by rw [Bd.returns] at h; cases h)
  refine ⟨_, _, pre0 _ ?_, hrun, hended, _, _, rfl, ?_, hRW.1, hRW.2.1, hRW.2.2.1, hRW.2.2.2.mono (by decide) (by decide)⟩
  · show Steps p.tables e below (s₁.setTop (mkF m 0 #[vI p0, vI p1, vI p2, vI p3, .unset, .unset, .unset, .unset, .unset, .unset, .unset, .unset] [])) _
    refine XS.iloadN X0.here hx rfl (hb hby at_0) rfl ?_
    refine XS.iconst X0.here hx rfl (hb hby at_1) ?_
    show Steps p.tables e below (s₁.setTop (mkF m 2 #[vI p0, vI p1, vI p2, vI p3, .unset, .unset, .unset, .unset, .unset, .unset, .unset, .unset] [(.int (1 : Int32)), (.int p0)])) _
    refine XS.iand X0.here hx rfl (hb hby at_2) rfl ?_
    refine XS.ifYes X0.here hx rfl (pc0 := 3) (pc' := 10) rfl (hb hby at_3) rfl ((if0 _ _).trans (teq c_7).1) (by decide) (by decide) ?_
    show Steps p.tables e below (s₁.setTop (mkF m 10 #[vI p0, vI p1, vI p2, vI p3, .unset, .unset, .unset, .unset, .unset, .unset, .unset, .unset] [])) _
    refine XS.iconst X0.here hx rfl (hb hby at_10) ?_
    refine XS.istore X0.here hx rfl (hb hby at_11) rfl (l' := #[vI p0, vI p1, vI p2, vI p3, vI (0 : Int32), .unset, .unset, .unset, .unset, .unset, .unset, .unset]) rfl ?_
    show Steps p.tables e below (s₁.setTop (mkF m 13 #[vI p0, vI p1, vI p2, vI p3, vI (0 : Int32), .unset, .unset, .unset, .unset, .unset, .unset, .unset] [])) _
    refine XS.iloadN X0.here hx rfl (hb hby at_13) rfl ?_
    refine XS.iconst X0.here hx rfl (hb hby at_14) ?_
    show Steps p.tables e below (s₁.setTop (mkF m 15 #[vI p0, vI p1, vI p2, vI p3, vI (0 : Int32), .unset, .unset, .unset, .unset, .unset, .unset, .unset] [(.int (2 : Int32)), (.int p0)])) _
    refine XS.iand X0.here hx rfl (hb hby at_15) rfl ?_
    refine XS.ifYes X0.here hx rfl (pc0 := 16) (pc' := 23) rfl (hb hby at_16) rfl ((if0 _ _).trans (teq c_8).1) (by decide) (by decide) ?_
    show Steps p.tables e below (s₁.setTop (mkF m 23 #[vI p0, vI p1, vI p2, vI p3, vI (0 : Int32), .unset, .unset, .unset, .unset, .unset, .unset, .unset] [])) _
    refine XS.iconst X0.here hx rfl (hb hby at_23) ?_
    refine XS.istore X0.here hx rfl (hb hby at_24) rfl (l' := #[vI p0, vI p1, vI p2, vI p3, vI (0 : Int32), vI (0 : Int32), .unset, .unset, .unset, .unset, .unset, .unset]) rfl ?_
    show Steps p.tables e below (s₁.setTop (mkF m 26 #[vI p0, vI p1, vI p2, vI p3, vI (0 : Int32), vI (0 : Int32), .unset, .unset, .unset, .unset, .unset, .unset] [])) _
    refine XS.iloadN X0.here hx rfl (hb hby at_26) rfl ?_
    refine XS.iconst X0.here hx rfl (hb hby at_27) ?_
    show Steps p.tables e below (s₁.setTop (mkF m 28 #[vI p0, vI p1, vI p2, vI p3, vI (0 : Int32), vI (0 : Int32), .unset, .unset, .unset, .unset, .unset, .unset] [(.int (1 : Int32)), (.int p3)])) _
    refine XS.iand X0.here hx rfl (hb hby at_28) rfl ?_
    refine XS.ifYes X0.here hx rfl (pc0 := 29) (pc' := 36) rfl (hb hby at_29) rfl ((if0 _ _).trans (teq c_9).1) (by decide) (by decide) ?_
    show Steps p.tables e below (s₁.setTop (mkF m 36 #[vI p0, vI p1, vI p2, vI p3, vI (0 : Int32), vI (0 : Int32), .unset, .unset, .unset, .unset, .unset, .unset] [])) _
    refine XS.iconst X0.here hx rfl (hb hby at_36) ?_
    refine XS.istore X0.here hx rfl (hb hby at_37) rfl (l' := #[vI p0, vI p1, vI p2, vI p3, vI (0 : Int32), vI (0 : Int32), vI (0 : Int32), .unset, .unset, .unset, .unset, .unset]) rfl ?_
    show Steps p.tables e below (s₁.setTop (mkF m 39 #[vI p0, vI p1, vI p2, vI p3, vI (0 : Int32), vI (0 : Int32), vI (0 : Int32), .unset, .unset, .unset, .unset, .unset] [])) _
    refine st15 _ ?_
    show Steps p.tables e below (T15.setTop (mkF m 112 #[vI p0, vI p1, vI p2, vI p3, vI (0 : Int32), vI (0 : Int32), vI (0 : Int32), vR b4_15, vR b24_15, vR b37_15, vR b49_15, .unset] [])) _
    refine XS.iload X15.here hx rfl (hb hby at_112) rfl ?_
    refine XS.ifYes X15.here hx rfl (pc0 := 114) (pc' := 125) rfl (hb hby at_114) rfl ((if0 _ _).trans (teq (by decide : (0 : Int32) = (0 : Int32))).1) (by decide) (by decide) ?_
    show Steps p.tables e below (T15.setTop (mkF m 125 #[vI p0, vI p1, vI p2, vI p3, vI (0 : Int32), vI (0 : Int32), vI (0 : Int32), vR b4_15, vR b24_15, vR b37_15, vR b49_15, .unset] [])) _
    refine XS.iload X15.here hx rfl (hb hby at_125) rfl ?_
    refine XS.ifYes X15.here hx rfl (pc0 := 127) (pc' := 166) rfl (hb hby at_127) rfl ((if0 _ _).trans (teq (by decide : (0 : Int32) = (0 : Int32))).1) (by decide) (by decide) ?_
    show Steps p.tables e below (T15.setTop (mkF m 166 #[vI p0, vI p1, vI p2, vI p3, vI (0 : Int32), vI (0 : Int32), vI (0 : Int32), vR b4_15, vR b24_15, vR b37_15, vR b49_15, .unset] [])) _
    refine XS.iload X15.here hx rfl (hb hby at_166) rfl ?_
    refine XS.ifYes X15.here hx rfl (pc0 := 168) (pc' := 184) rfl (hb hby at_168) rfl ((if0 _ _).trans (teq (by decide : (0 : Int32) = (0 : Int32))).1) (by decide) (by decide) ?_
    show Steps p.tables e below (T15.setTop (mkF m 184 #[vI p0, vI p1, vI p2, vI p3, vI (0 : Int32), vI (0 : Int32), vI (0 : Int32), vR b4_15, vR b24_15, vR b37_15, vR b49_15, .unset] [])) _
    refine st17 _ ?_
    refine XS.dup X17.here hx rfl (hb hby at_187) rfl rfl ?_
    show Steps p.tables e below (T17.setTop (mkF m 188 #[vI p0, vI p1, vI p2, vI p3, vI (0 : Int32), vI (0 : Int32), vI (0 : Int32), vR b4_15, vR b24_15, vR b37_15, vR b49_15, .unset] [(.ref b17), (.ref b17)])) _
    refine XS.aload X17.here hx rfl (hb hby at_188) rfl rfl ?_
    refine XS.aconstNull X17.here hx rfl (hb hby at_190) ?_
    show Steps p.tables e below (T17.setTop (mkF m 191 #[vI p0, vI p1, vI p2, vI p3, vI (0 : Int32), vI (0 : Int32), vI (0 : Int32), vR b4_15, vR b24_15, vR b37_15, vR b49_15, .unset] [.null, (.ref b37_15), (.ref b17), (.ref b17)])) _
    refine XS.aload X17.here hx rfl (hb hby at_191) rfl rfl ?_
    refine XS.aconstNull X17.here hx rfl (hb hby at_193) ?_
    show Steps p.tables e below (T17.setTop (mkF m 194 #[vI p0, vI p1, vI p2, vI p3, vI (0 : Int32), vI (0 : Int32), vI (0 : Int32), vR b4_15, vR b24_15, vR b37_15, vR b49_15, .unset] [.null, (.ref b49_15), .null, (.ref b37_15), (.ref b17), (.ref b17)])) _
    refine st27.trans ?_
    refine XS.astore X27.here hx rfl (hb hby at_197) rfl rfl (l' := #[vI p0, vI p1, vI p2, vI p3, vI (0 : Int32), vI (0 : Int32), vI (0 : Int32), vR b4_15, vR b24_15, vR b37_15, vR b49_15, vR b17]) rfl ?_
    show Steps p.tables e below (T27.setTop (mkF m 199 #[vI p0, vI p1, vI p2, vI p3, vI (0 : Int32), vI (0 : Int32), vI (0 : Int32), vR b4_15, vR b24_15, vR b37_15, vR b49_15, vR b17] [])) _
    refine XS.aload X27.here hx rfl (hb hby at_199) rfl rfl ?_
    refine st30.trans ?_
    show Steps p.tables e below (T30.setTop (mkF m 204 #[vI p0, vI p1, vI p2, vI p3, vI (0 : Int32), vI (0 : Int32), vI (0 : Int32), vR b4_15, vR b24_15, vR b37_15, vR b49_15, vR b17] [(.int (0 : Int32))])) _
    refine XS.iload X30.here hx rfl (hb hby at_204) rfl ?_
    refine XS.icmpNo X30.here hx rfl (hb hby at_206) rfl (teq (by decide : (0 : Int32) = (0 : Int32))).2 ?_
    show Steps p.tables e below (T30.setTop (mkF m 209 #[vI p0, vI p1, vI p2, vI p3, vI (0 : Int32), vI (0 : Int32), vI (0 : Int32), vR b4_15, vR b24_15, vR b37_15, vR b49_15, vR b17] [])) _
    refine XS.iconst X30.here hx rfl (hb hby at_209) ?_
    refine XS.goto X30.here hx rfl (pc0 := 210) (pc' := 214) rfl (hb hby at_210) (by decide) (by decide) ?_
    show Steps p.tables e below (T30.setTop (mkF m 214 #[vI p0, vI p1, vI p2, vI p3, vI (0 : Int32), vI (0 : Int32), vI (0 : Int32), vR b4_15, vR b24_15, vR b37_15, vR b49_15, vR b17] [(.int (1 : Int32))])) _
    exact retN X30 hx (t := .boolean) Bd.returns (by simp) (hb hby at_214) hr
  · show Q0r000 Z w_COMPACT_STRINGS w_DEFAULTCAPACITY_EMPTY_ELEMENTDATA k_w_DEFAULTCAPACITY_EMPTY_ELEMENTDATA w_EMPTY_LIST p0 p1 p2 p3 w_NO_DOI w_ISBN_CHECK_DIGIT w_DOI_SYNTAX w_CODE h0 n0 _ T30.heap _
    exact ⟨rfl, N30⟩
theorem pd_26 : parseMethodDescriptor "(Ljava/lang/Object;)Z" = some ⟨[(.object "java/lang/Object")], some .boolean⟩ := by decide +kernel
def Q0r001 (Z : State) (w_COMPACT_STRINGS : Int32) (w_DEFAULTCAPACITY_EMPTY_ELEMENTDATA : Addr) (k_w_DEFAULTCAPACITY_EMPTY_ELEMENTDATA : ClassId) (w_EMPTY_LIST : Addr) (p0 : Int32) (p1 : Int32) (p2 : Int32) (p3 : Int32) (w_NO_DOI : Addr) (w_ISBN_CHECK_DIGIT : Addr) (w_DOI_SYNTAX : Addr) (w_CODE : Addr) (w_mir__Ljava_lang_Object_ : Addr) (w_EMPTY : Addr) (h0 : Heap) (n0 : Nat) (v : Option Value) (h : Heap) (L : List Loc) : Prop := v = some (.int (1 : Int32)) ∧ Fr n0 L
set_option maxRecDepth 65536 in
set_option maxHeartbeats 40000000 in
theorem rm0r001 (l : Launch) (Z : State) (A0 : Array Value) (hw : ∀ d ∈ tables_1, d.before A0 Z = true) (ws : List Jvm.Cond) (w_COMPACT_STRINGS : Int32) (w_DEFAULTCAPACITY_EMPTY_ELEMENTDATA : Addr) (k_w_DEFAULTCAPACITY_EMPTY_ELEMENTDATA : ClassId) (w_EMPTY_LIST : Addr) (p0 : Int32) (p1 : Int32) (p2 : Int32) (p3 : Int32) (w_NO_DOI : Addr) (w_ISBN_CHECK_DIGIT : Addr) (w_DOI_SYNTAX : Addr) (w_CODE : Addr) (w_mir__Ljava_lang_Object_ : Addr) (w_EMPTY : Addr) (h0 : Heap) (n0 : Nat) (OLD : Old Z n0 h0) (c_1 : ¬ (w_COMPACT_STRINGS = (0 : Int32))) (f_2 : Sta Z Z.heap "java/util/ArrayList" "DEFAULTCAPACITY_EMPTY_ELEMENTDATA" "[Ljava/lang/Object;" (.ref w_DEFAULTCAPACITY_EMPTY_ELEMENTDATA)) (f_3 : Arv Z Z.heap w_DEFAULTCAPACITY_EMPTY_ELEMENTDATA k_w_DEFAULTCAPACITY_EMPTY_ELEMENTDATA (.object "java/lang/Object") (0 : Int32) [] .null) (f_4 : Sta Z Z.heap "java/util/ImmutableCollections" "EMPTY_LIST" "Ljava/util/ImmutableCollections$ListN;" (.ref w_EMPTY_LIST)) (f_5 : Exa Z Z.heap w_EMPTY_LIST "java/util/ImmutableCollections$ListN") (f_6 : Fld Z Z.heap w_EMPTY_LIST "java/util/ImmutableCollections$ListN" "allowNulls" "Z" (.int (0 : Int32))) (c_7 : (p0 &&& (1 : Int32)) = (0 : Int32)) (c_8 : (p0 &&& (2 : Int32)) = (0 : Int32)) (c_9 : ¬ ((p3 &&& (1 : Int32)) = (0 : Int32))) (f_10 : Sta Z Z.heap "com/example/deposita/deposita/core/Rule" "NO_DOI" "Lcom/example/deposita/deposita/core/Rule;" (.ref w_NO_DOI)) (f_11 : Sta Z Z.heap "com/example/deposita/deposita/core/Rule" "ISBN_CHECK_DIGIT" "Lcom/example/deposita/deposita/core/Rule;" (.ref w_ISBN_CHECK_DIGIT)) (f_12 : Sta Z Z.heap "com/example/deposita/deposita/core/Rule" "DOI_SYNTAX" "Lcom/example/deposita/deposita/core/Rule;" (.ref w_DOI_SYNTAX)) (f_13 : Sta Z Z.heap "com/example/deposita/deposita/core/Rule" "CODE" "Lcom/example/deposita/deposita/core/Rule;" (.ref w_CODE)) (f_14 : Sta Z Z.heap "java/lang/String" "COMPACT_STRINGS" "Z" (.int w_COMPACT_STRINGS)) (c_34 : own_Mir Z "[Ljava/lang/Object;" w_mir__Ljava_lang_Object_) (f_35 : Sta Z Z.heap "java/util/ImmutableCollections" "EMPTY" "Ljava/lang/Object;" (.ref w_EMPTY)) :
    MetFree l x (head1 (Jvm.Cond.code x code maxLocals ret :: ws) room_1) (fun a U => a = #[(.int p0), (.int p1), (.int p2), (.int p3)] ∧ Z.Warmed39 U.vm ∧ U.heap = h0) (fun _ _ _ _ _ => True) (fun _ U o U' => ∃ v L, o = .returned v ∧ Q0r001 Z w_COMPACT_STRINGS w_DEFAULTCAPACITY_EMPTY_ELEMENTDATA k_w_DEFAULTCAPACITY_EMPTY_ELEMENTDATA w_EMPTY_LIST p0 p1 p2 p3 w_NO_DOI w_ISBN_CHECK_DIGIT w_DOI_SYNTAX w_CODE w_mir__Ljava_lang_Object_ w_EMPTY h0 n0 v U'.heap L ∧ ReturnedEndW U o U' L room_1.cells room_1.slots) := by
  refine MetFree.of_bodySF (plainFor_of_name pn_com_example_deposita_deposita_formats_MappedIsRefusedPinLaw) hisR ?_
  intro p e s m args below meth c s₁ Bd hml0 hP hK
  obtain ⟨rfl, hZ, hh⟩ := hP
  have hx := Bd.exec
  have hby := Bd.bytes
  have hml : c.maxLocals = 12 := hml0
  have hown : s.vm.findClass "com/example/deposita/deposita/formats/MappedIsRefusedPinLaw" = some m.cls := findClass_of_methodNamed Bd.named
  have hnm := (name_of_methodNamed Bd.named Bd.method).1
  have X0 : Stand p l e room_1 (s.setVm s.vm) m #[(.int p0), (.int p1), (.int p2), (.int p3)] below meth c s₁ [] 0 0 := Stand.of_body Bd
  have e0 : s₁.heap = h0 := by rw [← hh, Bd.state]; rfl
  have hS0 : s.Since s.vm h0.size := (State.WarmedH.refl s).since _
  have hk0 : h0.size ≤ h0.size := Nat.le_refl _
  have hZ : Z.Warmed39 (s.setVm s.vm).vm := hZ
  have hown : (s.setVm s.vm).vm.findClass "com/example/deposita/deposita/formats/MappedIsRefusedPinLaw" = some m.cls := hown
  have N0 := Fr.nil n0
  have pre0 : ∀ t, Steps p.tables e below (s₁.setTop (mkF m 0 #[vI p0, vI p1, vI p2, vI p3, .unset, .unset, .unset, .unset, .unset, .unset, .unset, .unset] [])) t → Steps p.tables e below (s₁.setTop (entryFrame m #[(.int p0), (.int p1), (.int p2), (.int p3)] maxLocals)) t := fun t k => castTop (ef_0 m p0 p1 p2 p3) k
  obtain ⟨b4_15, b6_15_15, b24_15, b37_15, b4_8_10_46_15, b49_15, k24_15, k4_8_10_46_15, w_12_15, T15, L15, vm15, kk15, X15, N15, hS15, hk15, hZ15, hown15, K15, g15_0, g15_1, g15_2, g15_3, g15_4, g15_5, g15_6, g15_7, g15_8, g15_9, g15_10, g15_11, g15_12, g15_13, g15_14, g15_15, g15_16, g15_17, g15_18, g15_19, g15_20, g15_21, g15_22, g15_23, g15_24, g15_25, g15_26, g15_27, g15_28, st15⟩ := rm0seg l Z A0 hw w_COMPACT_STRINGS w_DEFAULTCAPACITY_EMPTY_ELEMENTDATA k_w_DEFAULTCAPACITY_EMPTY_ELEMENTDATA w_EMPTY_LIST (0 : Int32) (0 : Int32) (1 : Int32) p0 p1 p2 p3 w_NO_DOI w_ISBN_CHECK_DIGIT w_DOI_SYNTAX w_CODE h0 n0 OLD c_1 f_2 f_3 f_10 f_11 f_12 f_13 f_14 X0 hx hZ hby hml hown hh e0
  have K_16 : Keep h0 T15.heap [] := Keep.trans (Keep.refl h0 []) K15 all0
  have ge_17 : n0 ≤ b49_15 := own_ge OLD g15_5
  have O_19 := Old.keep OLD K15 all0
  obtain ⟨cq18, kq18, q18a, q18b, q18c⟩ := isOf hZ15 rfl g15_15
  obtain ⟨_, _, ⟨T18, L18, k18, n18⟩, -, X18, ⟨Lc18, hQ18, l18, y18, z18⟩, st18⟩ := X15.virtualBack hx (y := (⟨"java/util/ArrayList", "add", "(Ljava/lang/Object;)Z"⟩ : MethodName)) (z := (⟨"java/util/ArrayList", "add", "(Ljava/lang/Object;)Z"⟩ : MethodName)) hown15 (mvT hZ15 (hw _ (List.mem_of_getElem? (i := 99) rfl))) (mvT hZ15 (hw _ (List.mem_of_getElem? (i := 100) rfl))) (notFace_of_selects (args := #[]) (mvT hZ15 (hw _ (List.mem_of_getElem? (i := 102) rfl)))) (mvT hZ15 (hw _ (List.mem_of_getElem? (i := 102) rfl))) (mvT hZ15 (hw _ (List.mem_of_getElem? (i := 101) rfl))) (by decide) (backOf (W := 0) (rm18 l Z A0 hw [] w_DEFAULTCAPACITY_EMPTY_ELEMENTDATA k_w_DEFAULTCAPACITY_EMPTY_ELEMENTDATA b49_15 b4_15 T15.heap n0 O_19 g15_15 f_2 g15_17 f_3 g15_6 g15_18 g15_16 ge_17) hZ15 (hw _ (List.mem_of_getElem? (i := 103) rfl)) (hw _ (List.mem_of_getElem? (i := 77) rfl)) (by decide) (by decide)) q18a q18c (g := (mkF m 121 #[vI p0, vI p1, vI p2, vI p3, vI (0 : Int32), vI (0 : Int32), vI (1 : Int32), vR b4_15, vR b24_15, vR b37_15, vR b49_15, .unset] [(.ref b4_15), (.ref b49_15)])) rfl (by rw [hml]; rfl) (Steps.refl _) (argsL := [(.ref b4_15)]) (rest := []) (lenOf pd_26 rfl) rfl (by show 2 * 0 + _ ≤ _; exact Nat.le_of_eq rfl) (hb hby at_121) (fun _ _ => ⟨rfl, rfl, (by decide : 11 + 1 ≤ _), (by decide : 62 + 10 ≤ _)⟩)
  dsimp only [Pt.U, Pt.locs, Pt.cells, Pt.slots] at X18 l18 y18 z18 st18 hQ18
  subst l18 y18 z18
  obtain ⟨b12_8_9_18_18, k12_8_9_18_18, rfl, N18q, K18, g18_0, g18_1, g18_2, g18_3, g18_4, g18_5, g18_6, g18_7⟩ := hQ18
  have N18 := Fr.app N15 N18q
  have K_20 : Keep h0 T18.heap [] := Keep.trans K_16 K18 (allS (Or.inr (Nat.le_trans (Keep.refl h0 []).1 g15_5)) all0)
  obtain ⟨T21, h21, X21, e21, E21, A21, D21, M21, st21⟩ := newO X18 hx hZ15 hown15 (hw _ (List.mem_of_getElem? (i := 130) rfl)) (hw _ (List.mem_of_getElem? (i := 131) rfl)) (hw _ (List.mem_of_getElem? (i := 132) rfl)) rfl (g := (mkF m 184 #[vI p0, vI p1, vI p2, vI p3, vI (0 : Int32), vI (0 : Int32), vI (1 : Int32), vR b4_15, vR b24_15, vR b37_15, vR b49_15, .unset] [])) rfl (hb hby at_184) (by decide) (by decide)
  obtain ⟨b21, g21⟩ : ∃ z, z = T18.heap.size := ⟨_, rfl⟩
  rw [← g21] at A21 D21 M21 st21
  have K_22 : Keep h0 h21 [] := K_20.ext E21
  have f_23 : Fld Z h21 b21 "com/example/deposita/deposita/formats/Mapped" "recordId" "Ljava/lang/String;" .null := (D21 (Or.inr (hw _ (List.mem_of_getElem? (i := 223) rfl))) (ty := (.object "java/lang/String")) (by decide))
  have f_24 : Fld Z h21 b21 "com/example/deposita/deposita/formats/Mapped" "product" "Lcom/example/deposita/deposita/core/Product;" .null := (D21 (Or.inr (hw _ (List.mem_of_getElem? (i := 225) rfl))) (ty := (.object "com/example/deposita/deposita/core/Product")) (by decide))
  have f_25 : Fld Z h21 b21 "com/example/deposita/deposita/formats/Mapped" "warnings" "Ljava/util/List;" .null := (D21 (Or.inr (hw _ (List.mem_of_getElem? (i := 227) rfl))) (ty := (.object "java/util/List")) (by decide))
  have f_26 : Fld Z h21 b21 "com/example/deposita/deposita/formats/Mapped" "refusal" "Lcom/example/deposita/deposita/core/Finding;" .null := (D21 (Or.inr (hw _ (List.mem_of_getElem? (i := 229) rfl))) (ty := (.object "com/example/deposita/deposita/core/Finding")) (by decide))
  have f_27 := g18_3.ext E21
  have f_28 := g18_4.ext E21
  have f_29 := g18_5.ext E21
  have f_30 := g18_2.ext E21
  have f_31 := g18_1.ext E21
  have f_32 := g15_6.keep K18
  have f_33 := f_32.ext E21
  have O_36 := Old.keep O_19 K18 (allS ge_17 all0)
  have ge_37 : n0 ≤ b21 := own_ge O_36 (Nat.le_of_eq g21.symm)
  have O_39 := Old.ext O_36 E21
  obtain ⟨_, _, ⟨T38, L38, k38, n38⟩, -, X38, ⟨Lc38, hQ38, l38, y38, z38⟩, st38⟩ := X21.specialBack hx (y := (⟨"com/example/deposita/deposita/formats/Mapped", "<init>", "(Ljava/lang/String;Lcom/example/deposita/deposita/core/Product;Ljava/util/List;Lcom/example/deposita/deposita/core/Finding;)V"⟩ : MethodName)) rfl hown15 (mvT hZ15 (hw _ (List.mem_of_getElem? (i := 133) rfl))) (mvT hZ15 (hw _ (List.mem_of_getElem? (i := 134) rfl))) (mvT hZ15 (hw _ (List.mem_of_getElem? (i := 135) rfl))) (by decide) (backOf (W := 1) (rm23f0 l Z A0 hw [] b4_15 k12_8_9_18_18 b12_8_9_18_18 b21 b37_15 b49_15 .null .null .null .null w_mir__Ljava_lang_Object_ w_EMPTY h21 n0 O_39 f_27 f_28 f_29 f_30 f_31 f_33 A21 f_23 f_24 f_25 f_26 c_34 f_35 ge_37) hZ15 (hw _ (List.mem_of_getElem? (i := 135) rfl)) (hw _ (List.mem_of_getElem? (i := 132) rfl)) (by decide) (by decide)) (g := (mkF m 194 #[vI p0, vI p1, vI p2, vI p3, vI (0 : Int32), vI (0 : Int32), vI (1 : Int32), vR b4_15, vR b24_15, vR b37_15, vR b49_15, .unset] [.null, (.ref b49_15), .null, (.ref b37_15), (.ref b21), (.ref b21)])) rfl (by rw [hml]; rfl) (Steps.refl _) (a := b21) (argsL := [(.ref b37_15), .null, (.ref b49_15), .null]) (rest := [(.ref b21)]) (lenOf pd_21 rfl) rfl (by show 2 * 0 + _ ≤ _; exact Nat.le_of_eq rfl) (hb hby at_194) (fun _ _ => ⟨rfl, e21, (by decide : 13 + 2 ≤ _), (by decide : 76 + 3 ≤ _)⟩)
  dsimp only [Pt.U, Pt.locs, Pt.cells, Pt.slots] at X38 l38 y38 z38 st38 hQ38
  subst l38 y38 z38
  obtain ⟨b3_14_9_15_38, rfl, N38q, K38, g38_0, g38_1, g38_2, g38_3, g38_4, g38_5, g38_6⟩ := hQ38
  have N38 := Fr.app N18 N38q
  have K_40 : Keep h0 T38.heap [] := Keep.trans K_22 K38 (allS (Or.inr (Nat.le_trans K_20.1 (Nat.le_of_eq g21.symm))) all0)
  have O_42 := Old.keep O_39 K38 (allS ge_37 all0)
  obtain ⟨cq41, kq41, q41a, q41b, q41c⟩ := isOf hZ15 rfl g38_2
  obtain ⟨_, _, ⟨T41, L41, k41, n41⟩, -, X41, ⟨Lc41, hQ41, l41, y41, z41⟩, st41⟩ := X38.virtualBack hx (y := (⟨"com/example/deposita/deposita/formats/Mapped", "isRefused", "()Z"⟩ : MethodName)) (z := (⟨"com/example/deposita/deposita/formats/Mapped", "isRefused", "()Z"⟩ : MethodName)) hown15 (mvT hZ15 (hw _ (List.mem_of_getElem? (i := 230) rfl))) (mvT hZ15 (hw _ (List.mem_of_getElem? (i := 231) rfl))) (notFace_of_selects (args := #[]) (mvT hZ15 (hw _ (List.mem_of_getElem? (i := 233) rfl)))) (mvT hZ15 (hw _ (List.mem_of_getElem? (i := 233) rfl))) (mvT hZ15 (hw _ (List.mem_of_getElem? (i := 232) rfl))) (by decide) (backOf (W := 0) (rm36r0 l Z A0 hw [] b21 T38.heap n0 O_42 g38_6) hZ15 (hw _ (List.mem_of_getElem? (i := 234) rfl)) (hw _ (List.mem_of_getElem? (i := 132) rfl)) (by decide) (by decide)) q41a q41c (g := (mkF m 201 #[vI p0, vI p1, vI p2, vI p3, vI (0 : Int32), vI (0 : Int32), vI (1 : Int32), vR b4_15, vR b24_15, vR b37_15, vR b49_15, vR b21] [(.ref b21)])) rfl (by rw [hml]; rfl) (Steps.refl _) (argsL := []) (rest := []) (lenOf pd_17 rfl) rfl (by show 2 * 0 + _ ≤ _; exact Nat.le_of_eq rfl) (hb hby at_201) (fun _ _ => ⟨rfl, rfl, (by decide : 15 + 0 ≤ _), (by decide : 79 + 0 ≤ _)⟩)
  dsimp only [Pt.U, Pt.locs, Pt.cells, Pt.slots] at X41 l41 y41 z41 st41 hQ41
  subst l41 y41 z41
  obtain ⟨rfl, N41q, e41⟩ := hQ41
  have N41 := Fr.app N38 N41q
  obtain ⟨fs, hr, hrun, hended, hRW⟩ := X41.leaveW (s := s) hS15 (by rw [e41]; exact (Nat.le_trans (Nat.le_trans (Nat.le_trans hk15 K18.1) E21.1) K38.1)) (v := some (.int (1 : Int32))) (fun h => by rw [Bd.returns] at h; cases h)
  refine ⟨_, _, pre0 _ ?_, hrun, hended, _, _, rfl, ?_, hRW.1, hRW.2.1, hRW.2.2.1, hRW.2.2.2.mono (by decide) (by decide)⟩
  · show Steps p.tables e below (s₁.setTop (mkF m 0 #[vI p0, vI p1, vI p2, vI p3, .unset, .unset, .unset, .unset, .unset, .unset, .unset, .unset] [])) _
    refine XS.iloadN X0.here hx rfl (hb hby at_0) rfl ?_
    refine XS.iconst X0.here hx rfl (hb hby at_1) ?_
    show Steps p.tables e below (s₁.setTop (mkF m 2 #[vI p0, vI p1, vI p2, vI p3, .unset, .unset, .unset, .unset, .unset, .unset, .unset, .unset] [(.int (1 : Int32)), (.int p0)])) _
    refine XS.iand X0.here hx rfl (hb hby at_2) rfl ?_
    refine XS.ifYes X0.here hx rfl (pc0 := 3) (pc' := 10) rfl (hb hby at_3) rfl ((if0 _ _).trans (teq c_7).1) (by decide) (by decide) ?_
    show Steps p.tables e below (s₁.setTop (mkF m 10 #[vI p0, vI p1, vI p2, vI p3, .unset, .unset, .unset, .unset, .unset, .unset, .unset, .unset] [])) _
    refine XS.iconst X0.here hx rfl (hb hby at_10) ?_
    refine XS.istore X0.here hx rfl (hb hby at_11) rfl (l' := #[vI p0, vI p1, vI p2, vI p3, vI (0 : Int32), .unset, .unset, .unset, .unset, .unset, .unset, .unset]) rfl ?_
    show Steps p.tables e below (s₁.setTop (mkF m 13 #[vI p0, vI p1, vI p2, vI p3, vI (0 : Int32), .unset, .unset, .unset, .unset, .unset, .unset, .unset] [])) _
    refine XS.iloadN X0.here hx rfl (hb hby at_13) rfl ?_
    refine XS.iconst X0.here hx rfl (hb hby at_14) ?_
    show Steps p.tables e below (s₁.setTop (mkF m 15 #[vI p0, vI p1, vI p2, vI p3, vI (0 : Int32), .unset, .unset, .unset, .unset, .unset, .unset, .unset] [(.int (2 : Int32)), (.int p0)])) _
    refine XS.iand X0.here hx rfl (hb hby at_15) rfl ?_
    refine XS.ifYes X0.here hx rfl (pc0 := 16) (pc' := 23) rfl (hb hby at_16) rfl ((if0 _ _).trans (teq c_8).1) (by decide) (by decide) ?_
    show Steps p.tables e below (s₁.setTop (mkF m 23 #[vI p0, vI p1, vI p2, vI p3, vI (0 : Int32), .unset, .unset, .unset, .unset, .unset, .unset, .unset] [])) _
    refine XS.iconst X0.here hx rfl (hb hby at_23) ?_
    refine XS.istore X0.here hx rfl (hb hby at_24) rfl (l' := #[vI p0, vI p1, vI p2, vI p3, vI (0 : Int32), vI (0 : Int32), .unset, .unset, .unset, .unset, .unset, .unset]) rfl ?_
    show Steps p.tables e below (s₁.setTop (mkF m 26 #[vI p0, vI p1, vI p2, vI p3, vI (0 : Int32), vI (0 : Int32), .unset, .unset, .unset, .unset, .unset, .unset] [])) _
    refine XS.iloadN X0.here hx rfl (hb hby at_26) rfl ?_
    refine XS.iconst X0.here hx rfl (hb hby at_27) ?_
    show Steps p.tables e below (s₁.setTop (mkF m 28 #[vI p0, vI p1, vI p2, vI p3, vI (0 : Int32), vI (0 : Int32), .unset, .unset, .unset, .unset, .unset, .unset] [(.int (1 : Int32)), (.int p3)])) _
    refine XS.iand X0.here hx rfl (hb hby at_28) rfl ?_
    refine XS.ifNo X0.here hx rfl (hb hby at_29) rfl ((if0 _ _).trans (feq c_9).1) ?_
    show Steps p.tables e below (s₁.setTop (mkF m 32 #[vI p0, vI p1, vI p2, vI p3, vI (0 : Int32), vI (0 : Int32), .unset, .unset, .unset, .unset, .unset, .unset] [])) _
    refine XS.iconst X0.here hx rfl (hb hby at_32) ?_
    refine XS.goto X0.here hx rfl (pc0 := 33) (pc' := 37) rfl (hb hby at_33) (by decide) (by decide) ?_
    show Steps p.tables e below (s₁.setTop (mkF m 37 #[vI p0, vI p1, vI p2, vI p3, vI (0 : Int32), vI (0 : Int32), .unset, .unset, .unset, .unset, .unset, .unset] [(.int (1 : Int32))])) _
    refine XS.istore X0.here hx rfl (hb hby at_37) rfl (l' := #[vI p0, vI p1, vI p2, vI p3, vI (0 : Int32), vI (0 : Int32), vI (1 : Int32), .unset, .unset, .unset, .unset, .unset]) rfl ?_
    show Steps p.tables e below (s₁.setTop (mkF m 39 #[vI p0, vI p1, vI p2, vI p3, vI (0 : Int32), vI (0 : Int32), vI (1 : Int32), .unset, .unset, .unset, .unset, .unset] [])) _
    refine st15 _ ?_
    refine XS.iload X15.here hx rfl (hb hby at_112) rfl ?_
    show Steps p.tables e below (T15.setTop (mkF m 114 #[vI p0, vI p1, vI p2, vI p3, vI (0 : Int32), vI (0 : Int32), vI (1 : Int32), vR b4_15, vR b24_15, vR b37_15, vR b49_15, .unset] [(.int (1 : Int32))])) _
    refine XS.ifNo X15.here hx rfl (hb hby at_114) rfl ((if0 _ _).trans (feq (by decide : ¬ ((1 : Int32) = (0 : Int32)))).1) ?_
    refine XS.aload X15.here hx rfl (hb hby at_117) rfl rfl ?_
    show Steps p.tables e below (T15.setTop (mkF m 119 #[vI p0, vI p1, vI p2, vI p3, vI (0 : Int32), vI (0 : Int32), vI (1 : Int32), vR b4_15, vR b24_15, vR b37_15, vR b49_15, .unset] [(.ref b49_15)])) _
    refine XS.aload X15.here hx rfl (hb hby at_119) rfl rfl ?_
    refine st18.trans ?_
    show Steps p.tables e below (T18.setTop (mkF m 124 #[vI p0, vI p1, vI p2, vI p3, vI (0 : Int32), vI (0 : Int32), vI (1 : Int32), vR b4_15, vR b24_15, vR b37_15, vR b49_15, .unset] [(.int (1 : Int32))])) _
    refine XS.pop X18.here hx rfl (hb hby at_124) rfl rfl ?_
    refine XS.iload X18.here hx rfl (hb hby at_125) rfl ?_
    show Steps p.tables e below (T18.setTop (mkF m 127 #[vI p0, vI p1, vI p2, vI p3, vI (0 : Int32), vI (0 : Int32), vI (1 : Int32), vR b4_15, vR b24_15, vR b37_15, vR b49_15, .unset] [(.int (0 : Int32))])) _
    refine XS.ifYes X18.here hx rfl (pc0 := 127) (pc' := 166) rfl (hb hby at_127) rfl ((if0 _ _).trans (teq (by decide : (0 : Int32) = (0 : Int32))).1) (by decide) (by decide) ?_
    refine XS.iload X18.here hx rfl (hb hby at_166) rfl ?_
    show Steps p.tables e below (T18.setTop (mkF m 168 #[vI p0, vI p1, vI p2, vI p3, vI (0 : Int32), vI (0 : Int32), vI (1 : Int32), vR b4_15, vR b24_15, vR b37_15, vR b49_15, .unset] [(.int (0 : Int32))])) _
    refine XS.ifYes X18.here hx rfl (pc0 := 168) (pc' := 184) rfl (hb hby at_168) rfl ((if0 _ _).trans (teq (by decide : (0 : Int32) = (0 : Int32))).1) (by decide) (by decide) ?_
    refine st21 _ ?_
    show Steps p.tables e below (T21.setTop (mkF m 187 #[vI p0, vI p1, vI p2, vI p3, vI (0 : Int32), vI (0 : Int32), vI (1 : Int32), vR b4_15, vR b24_15, vR b37_15, vR b49_15, .unset] [(.ref b21)])) _
    refine XS.dup X21.here hx rfl (hb hby at_187) rfl rfl ?_
    refine XS.aload X21.here hx rfl (hb hby at_188) rfl rfl ?_
    show Steps p.tables e below (T21.setTop (mkF m 190 #[vI p0, vI p1, vI p2, vI p3, vI (0 : Int32), vI (0 : Int32), vI (1 : Int32), vR b4_15, vR b24_15, vR b37_15, vR b49_15, .unset] [(.ref b37_15), (.ref b21), (.ref b21)])) _
    refine XS.aconstNull X21.here hx rfl (hb hby at_190) ?_
    refine XS.aload X21.here hx rfl (hb hby at_191) rfl rfl ?_
    show Steps p.tables e below (T21.setTop (mkF m 193 #[vI p0, vI p1, vI p2, vI p3, vI (0 : Int32), vI (0 : Int32), vI (1 : Int32), vR b4_15, vR b24_15, vR b37_15, vR b49_15, .unset] [(.ref b49_15), .null, (.ref b37_15), (.ref b21), (.ref b21)])) _
    refine XS.aconstNull X21.here hx rfl (hb hby at_193) ?_
    refine st38.trans ?_
    show Steps p.tables e below (T38.setTop (mkF m 197 #[vI p0, vI p1, vI p2, vI p3, vI (0 : Int32), vI (0 : Int32), vI (1 : Int32), vR b4_15, vR b24_15, vR b37_15, vR b49_15, .unset] [(.ref b21)])) _
    refine XS.astore X38.here hx rfl (hb hby at_197) rfl rfl (l' := #[vI p0, vI p1, vI p2, vI p3, vI (0 : Int32), vI (0 : Int32), vI (1 : Int32), vR b4_15, vR b24_15, vR b37_15, vR b49_15, vR b21]) rfl ?_
    refine XS.aload X38.here hx rfl (hb hby at_199) rfl rfl ?_
    show Steps p.tables e below (T38.setTop (mkF m 201 #[vI p0, vI p1, vI p2, vI p3, vI (0 : Int32), vI (0 : Int32), vI (1 : Int32), vR b4_15, vR b24_15, vR b37_15, vR b49_15, vR b21] [(.ref b21)])) _
    refine st41.trans ?_
    refine XS.iload X41.here hx rfl (hb hby at_204) rfl ?_
    show Steps p.tables e below (T41.setTop (mkF m 206 #[vI p0, vI p1, vI p2, vI p3, vI (0 : Int32), vI (0 : Int32), vI (1 : Int32), vR b4_15, vR b24_15, vR b37_15, vR b49_15, vR b21] [(.int (0 : Int32)), (.int (0 : Int32))])) _
    refine XS.icmpNo X41.here hx rfl (hb hby at_206) rfl (teq (by decide : (0 : Int32) = (0 : Int32))).2 ?_
    refine XS.iconst X41.here hx rfl (hb hby at_209) ?_
    show Steps p.tables e below (T41.setTop (mkF m 210 #[vI p0, vI p1, vI p2, vI p3, vI (0 : Int32), vI (0 : Int32), vI (1 : Int32), vR b4_15, vR b24_15, vR b37_15, vR b49_15, vR b21] [(.int (1 : Int32))])) _
    refine XS.goto X41.here hx rfl (pc0 := 210) (pc' := 214) rfl (hb hby at_210) (by decide) (by decide) ?_
    show Steps p.tables e below (T41.setTop (mkF m 214 #[vI p0, vI p1, vI p2, vI p3, vI (0 : Int32), vI (0 : Int32), vI (1 : Int32), vR b4_15, vR b24_15, vR b37_15, vR b49_15, vR b21] [(.int (1 : Int32))])) _
    exact retN X41 hx (t := .boolean) Bd.returns (by simp) (hb hby at_214) hr
  · show Q0r001 Z w_COMPACT_STRINGS w_DEFAULTCAPACITY_EMPTY_ELEMENTDATA k_w_DEFAULTCAPACITY_EMPTY_ELEMENTDATA w_EMPTY_LIST p0 p1 p2 p3 w_NO_DOI w_ISBN_CHECK_DIGIT w_DOI_SYNTAX w_CODE w_mir__Ljava_lang_Object_ w_EMPTY h0 n0 _ T41.heap _
    exact ⟨rfl, N41⟩
theorem pd_27 : parseMethodDescriptor "(Ljava/lang/String;Lcom/example/deposita/deposita/core/Product;Ljava/util/List;)Lcom/example/deposita/deposita/formats/Mapped;" = some ⟨[(.object "java/lang/String"), (.object "com/example/deposita/deposita/core/Product"), (.object "java/util/List")], some (.object "com/example/deposita/deposita/formats/Mapped")⟩ := by decide +kernel
def Q0r010 (Z : State) (w_COMPACT_STRINGS : Int32) (w_DEFAULTCAPACITY_EMPTY_ELEMENTDATA : Addr) (k_w_DEFAULTCAPACITY_EMPTY_ELEMENTDATA : ClassId) (w_EMPTY_LIST : Addr) (p0 : Int32) (p1 : Int32) (p2 : Int32) (p3 : Int32) (w_NO_DOI : Addr) (w_ISBN_CHECK_DIGIT : Addr) (w_DOI_SYNTAX : Addr) (w_CODE : Addr) (h0 : Heap) (n0 : Nat) (v : Option Value) (h : Heap) (L : List Loc) : Prop := v = some (.int (1 : Int32)) ∧ Fr n0 L
set_option maxRecDepth 65536 in
set_option maxHeartbeats 40000000 in
theorem rm0r010 (l : Launch) (Z : State) (A0 : Array Value) (hw : ∀ d ∈ tables_1, d.before A0 Z = true) (ws : List Jvm.Cond) (w_COMPACT_STRINGS : Int32) (w_DEFAULTCAPACITY_EMPTY_ELEMENTDATA : Addr) (k_w_DEFAULTCAPACITY_EMPTY_ELEMENTDATA : ClassId) (w_EMPTY_LIST : Addr) (p0 : Int32) (p1 : Int32) (p2 : Int32) (p3 : Int32) (w_NO_DOI : Addr) (w_ISBN_CHECK_DIGIT : Addr) (w_DOI_SYNTAX : Addr) (w_CODE : Addr) (h0 : Heap) (n0 : Nat) (OLD : Old Z n0 h0) (c_1 : ¬ (w_COMPACT_STRINGS = (0 : Int32))) (f_2 : Sta Z Z.heap "java/util/ArrayList" "DEFAULTCAPACITY_EMPTY_ELEMENTDATA" "[Ljava/lang/Object;" (.ref w_DEFAULTCAPACITY_EMPTY_ELEMENTDATA)) (f_3 : Arv Z Z.heap w_DEFAULTCAPACITY_EMPTY_ELEMENTDATA k_w_DEFAULTCAPACITY_EMPTY_ELEMENTDATA (.object "java/lang/Object") (0 : Int32) [] .null) (f_4 : Sta Z Z.heap "java/util/ImmutableCollections" "EMPTY_LIST" "Ljava/util/ImmutableCollections$ListN;" (.ref w_EMPTY_LIST)) (f_5 : Exa Z Z.heap w_EMPTY_LIST "java/util/ImmutableCollections$ListN") (f_6 : Fld Z Z.heap w_EMPTY_LIST "java/util/ImmutableCollections$ListN" "allowNulls" "Z" (.int (0 : Int32))) (c_7 : (p0 &&& (1 : Int32)) = (0 : Int32)) (c_8 : ¬ ((p0 &&& (2 : Int32)) = (0 : Int32))) (c_9 : (p3 &&& (1 : Int32)) = (0 : Int32)) (f_10 : Sta Z Z.heap "com/example/deposita/deposita/core/Rule" "NO_DOI" "Lcom/example/deposita/deposita/core/Rule;" (.ref w_NO_DOI)) (f_11 : Sta Z Z.heap "com/example/deposita/deposita/core/Rule" "ISBN_CHECK_DIGIT" "Lcom/example/deposita/deposita/core/Rule;" (.ref w_ISBN_CHECK_DIGIT)) (f_12 : Sta Z Z.heap "com/example/deposita/deposita/core/Rule" "DOI_SYNTAX" "Lcom/example/deposita/deposita/core/Rule;" (.ref w_DOI_SYNTAX)) (f_13 : Sta Z Z.heap "com/example/deposita/deposita/core/Rule" "CODE" "Lcom/example/deposita/deposita/core/Rule;" (.ref w_CODE)) (f_14 : Sta Z Z.heap "java/lang/String" "COMPACT_STRINGS" "Z" (.int w_COMPACT_STRINGS)) :
    MetFree l x (head1 (Jvm.Cond.code x code maxLocals ret :: ws) room_1) (fun a U => a = #[(.int p0), (.int p1), (.int p2), (.int p3)] ∧ Z.Warmed39 U.vm ∧ U.heap = h0) (fun _ _ _ _ _ => True) (fun _ U o U' => ∃ v L, o = .returned v ∧ Q0r010 Z w_COMPACT_STRINGS w_DEFAULTCAPACITY_EMPTY_ELEMENTDATA k_w_DEFAULTCAPACITY_EMPTY_ELEMENTDATA w_EMPTY_LIST p0 p1 p2 p3 w_NO_DOI w_ISBN_CHECK_DIGIT w_DOI_SYNTAX w_CODE h0 n0 v U'.heap L ∧ ReturnedEndW U o U' L room_1.cells room_1.slots) := by
  refine MetFree.of_bodySF (plainFor_of_name pn_com_example_deposita_deposita_formats_MappedIsRefusedPinLaw) hisR ?_
  intro p e s m args below meth c s₁ Bd hml0 hP hK
  obtain ⟨rfl, hZ, hh⟩ := hP
  have hx := Bd.exec
  have hby := Bd.bytes
  have hml : c.maxLocals = 12 := hml0
  have hown : s.vm.findClass "com/example/deposita/deposita/formats/MappedIsRefusedPinLaw" = some m.cls := findClass_of_methodNamed Bd.named
  have hnm := (name_of_methodNamed Bd.named Bd.method).1
  have X0 : Stand p l e room_1 (s.setVm s.vm) m #[(.int p0), (.int p1), (.int p2), (.int p3)] below meth c s₁ [] 0 0 := Stand.of_body Bd
  have e0 : s₁.heap = h0 := by rw [← hh, Bd.state]; rfl
  have hS0 : s.Since s.vm h0.size := (State.WarmedH.refl s).since _
  have hk0 : h0.size ≤ h0.size := Nat.le_refl _
  have hZ : Z.Warmed39 (s.setVm s.vm).vm := hZ
  have hown : (s.setVm s.vm).vm.findClass "com/example/deposita/deposita/formats/MappedIsRefusedPinLaw" = some m.cls := hown
  have N0 := Fr.nil n0
  have pre0 : ∀ t, Steps p.tables e below (s₁.setTop (mkF m 0 #[vI p0, vI p1, vI p2, vI p3, .unset, .unset, .unset, .unset, .unset, .unset, .unset, .unset] [])) t → Steps p.tables e below (s₁.setTop (entryFrame m #[(.int p0), (.int p1), (.int p2), (.int p3)] maxLocals)) t := fun t k => castTop (ef_0 m p0 p1 p2 p3) k
  obtain ⟨b4_15, b6_15_15, b24_15, b37_15, b4_8_10_46_15, b49_15, k24_15, k4_8_10_46_15, w_12_15, T15, L15, vm15, kk15, X15, N15, hS15, hk15, hZ15, hown15, K15, g15_0, g15_1, g15_2, g15_3, g15_4, g15_5, g15_6, g15_7, g15_8, g15_9, g15_10, g15_11, g15_12, g15_13, g15_14, g15_15, g15_16, g15_17, g15_18, g15_19, g15_20, g15_21, g15_22, g15_23, g15_24, g15_25, g15_26, g15_27, g15_28, st15⟩ := rm0seg l Z A0 hw w_COMPACT_STRINGS w_DEFAULTCAPACITY_EMPTY_ELEMENTDATA k_w_DEFAULTCAPACITY_EMPTY_ELEMENTDATA w_EMPTY_LIST (0 : Int32) (1 : Int32) (0 : Int32) p0 p1 p2 p3 w_NO_DOI w_ISBN_CHECK_DIGIT w_DOI_SYNTAX w_CODE h0 n0 OLD c_1 f_2 f_3 f_10 f_11 f_12 f_13 f_14 X0 hx hZ hby hml hown hh e0
  have K_16 : Keep h0 T15.heap [] := Keep.trans (Keep.refl h0 []) K15 all0
  have O_18 := Old.keep OLD K15 all0
  obtain ⟨_, _, ⟨T17, L17, k17, n17⟩, -, X17, ⟨Lc17, hQ17, l17, y17, z17⟩, st17⟩ := Jvm.LawKit.callS X15 hx (y := (⟨"com/example/deposita/deposita/formats/Mapped", "written", "(Ljava/lang/String;Lcom/example/deposita/deposita/core/Product;Ljava/util/List;)Lcom/example/deposita/deposita/formats/Mapped;"⟩ : MethodName)) hown15 (mvT hZ15 (hw _ (List.mem_of_getElem? (i := 257) rfl))) (mvT hZ15 (hw _ (List.mem_of_getElem? (i := 258) rfl))) (mvT hZ15 (hw _ (List.mem_of_getElem? (i := 132) rfl))) (mvT hZ15 (hw _ (List.mem_of_getElem? (i := 259) rfl))) (by decide) (backOf (W := 0) (rm39e l Z A0 hw [] b37_15 b49_15 w_EMPTY_LIST T15.heap n0 O_18 g15_15 g15_18 f_4) hZ15 (hw _ (List.mem_of_getElem? (i := 259) rfl)) (hw _ (List.mem_of_getElem? (i := 132) rfl)) (by decide) (by decide)) (g := (mkF m 176 #[vI p0, vI p1, vI p2, vI p3, vI (0 : Int32), vI (1 : Int32), vI (0 : Int32), vR b4_15, vR b24_15, vR b37_15, vR b49_15, .unset] [(.ref b49_15), .null, (.ref b37_15)])) rfl (by rw [hml]; rfl) (argsL := [(.ref b37_15), .null, (.ref b49_15)]) (rest := []) (lenOf pd_27 rfl) rfl (by show 2 * 0 + _ ≤ _; exact Nat.le_of_eq rfl) (hb hby at_176) (fun _ _ => ⟨rfl, rfl, (by decide : 11 + 1 ≤ _), (by decide : 62 + 4 ≤ _)⟩)
  dsimp only [Pt.U, Pt.locs, Pt.cells, Pt.slots] at X17 l17 y17 z17 st17 hQ17
  subst l17 y17 z17
  obtain ⟨b3_17, rfl, N17q, K17, g17_0, g17_1, g17_2, g17_3, g17_4, g17_5⟩ := hQ17
  have N17 := Fr.app N15 N17q
  have K_19 : Keep h0 T17.heap [] := Keep.trans K_16 K17 all0
  have O_21 := Old.keep O_18 K17 all0
  obtain ⟨cq20, kq20, q20a, q20b, q20c⟩ := isOf hZ15 rfl g17_1
  obtain ⟨_, _, ⟨T20, L20, k20, n20⟩, -, X20, ⟨Lc20, hQ20, l20, y20, z20⟩, st20⟩ := X17.virtualBack hx (y := (⟨"com/example/deposita/deposita/formats/Mapped", "isRefused", "()Z"⟩ : MethodName)) (z := (⟨"com/example/deposita/deposita/formats/Mapped", "isRefused", "()Z"⟩ : MethodName)) hown15 (mvT hZ15 (hw _ (List.mem_of_getElem? (i := 230) rfl))) (mvT hZ15 (hw _ (List.mem_of_getElem? (i := 231) rfl))) (notFace_of_selects (args := #[]) (mvT hZ15 (hw _ (List.mem_of_getElem? (i := 233) rfl)))) (mvT hZ15 (hw _ (List.mem_of_getElem? (i := 233) rfl))) (mvT hZ15 (hw _ (List.mem_of_getElem? (i := 232) rfl))) (by decide) (backOf (W := 0) (rm36r0 l Z A0 hw [] b3_17 T17.heap n0 O_21 g17_5) hZ15 (hw _ (List.mem_of_getElem? (i := 234) rfl)) (hw _ (List.mem_of_getElem? (i := 132) rfl)) (by decide) (by decide)) q20a q20c (g := (mkF m 201 #[vI p0, vI p1, vI p2, vI p3, vI (0 : Int32), vI (1 : Int32), vI (0 : Int32), vR b4_15, vR b24_15, vR b37_15, vR b49_15, vR b3_17] [(.ref b3_17)])) rfl (by rw [hml]; rfl) (Steps.refl _) (argsL := []) (rest := []) (lenOf pd_17 rfl) rfl (by show 2 * 0 + _ ≤ _; exact Nat.le_of_eq rfl) (hb hby at_201) (fun _ _ => ⟨rfl, rfl, (by decide : 12 + 0 ≤ _), (by decide : 66 + 0 ≤ _)⟩)
  dsimp only [Pt.U, Pt.locs, Pt.cells, Pt.slots] at X20 l20 y20 z20 st20 hQ20
  subst l20 y20 z20
  obtain ⟨rfl, N20q, e20⟩ := hQ20
  have N20 := Fr.app N17 N20q
  obtain ⟨fs, hr, hrun, hended, hRW⟩ := X20.leaveW (s := s) hS15 (by rw [e20]; exact (Nat.le_trans hk15 K17.1)) (v := some (.int (1 : Int32))) (fun h => by rw [Bd.returns] at h; cases h)
  refine ⟨_, _, pre0 _ ?_, hrun, hended, _, _, rfl, ?_, hRW.1, hRW.2.1, hRW.2.2.1, hRW.2.2.2.mono (by decide) (by decide)⟩
  · show Steps p.tables e below (s₁.setTop (mkF m 0 #[vI p0, vI p1, vI p2, vI p3, .unset, .unset, .unset, .unset, .unset, .unset, .unset, .unset] [])) _
    refine XS.iloadN X0.here hx rfl (hb hby at_0) rfl ?_
    refine XS.iconst X0.here hx rfl (hb hby at_1) ?_
    show Steps p.tables e below (s₁.setTop (mkF m 2 #[vI p0, vI p1, vI p2, vI p3, .unset, .unset, .unset, .unset, .unset, .unset, .unset, .unset] [(.int (1 : Int32)), (.int p0)])) _
    refine XS.iand X0.here hx rfl (hb hby at_2) rfl ?_
    refine XS.ifYes X0.here hx rfl (pc0 := 3) (pc' := 10) rfl (hb hby at_3) rfl ((if0 _ _).trans (teq c_7).1) (by decide) (by decide) ?_
    show Steps p.tables e below (s₁.setTop (mkF m 10 #[vI p0, vI p1, vI p2, vI p3, .unset, .unset, .unset, .unset, .unset, .unset, .unset, .unset] [])) _
    refine XS.iconst X0.here hx rfl (hb hby at_10) ?_
    refine XS.istore X0.here hx rfl (hb hby at_11) rfl (l' := #[vI p0, vI p1, vI p2, vI p3, vI (0 : Int32), .unset, .unset, .unset, .unset, .unset, .unset, .unset]) rfl ?_
    show Steps p.tables e below (s₁.setTop (mkF m 13 #[vI p0, vI p1, vI p2, vI p3, vI (0 : Int32), .unset, .unset, .unset, .unset, .unset, .unset, .unset] [])) _
    refine XS.iloadN X0.here hx rfl (hb hby at_13) rfl ?_
    refine XS.iconst X0.here hx rfl (hb hby at_14) ?_
    show Steps p.tables e below (s₁.setTop (mkF m 15 #[vI p0, vI p1, vI p2, vI p3, vI (0 : Int32), .unset, .unset, .unset, .unset, .unset, .unset, .unset] [(.int (2 : Int32)), (.int p0)])) _
    refine XS.iand X0.here hx rfl (hb hby at_15) rfl ?_
    refine XS.ifNo X0.here hx rfl (hb hby at_16) rfl ((if0 _ _).trans (feq c_8).1) ?_
    show Steps p.tables e below (s₁.setTop (mkF m 19 #[vI p0, vI p1, vI p2, vI p3, vI (0 : Int32), .unset, .unset, .unset, .unset, .unset, .unset, .unset] [])) _
    refine XS.iconst X0.here hx rfl (hb hby at_19) ?_
    refine XS.goto X0.here hx rfl (pc0 := 20) (pc' := 24) rfl (hb hby at_20) (by decide) (by decide) ?_
    show Steps p.tables e below (s₁.setTop (mkF m 24 #[vI p0, vI p1, vI p2, vI p3, vI (0 : Int32), .unset, .unset, .unset, .unset, .unset, .unset, .unset] [(.int (1 : Int32))])) _
    refine XS.istore X0.here hx rfl (hb hby at_24) rfl (l' := #[vI p0, vI p1, vI p2, vI p3, vI (0 : Int32), vI (1 : Int32), .unset, .unset, .unset, .unset, .unset, .unset]) rfl ?_
    refine XS.iloadN X0.here hx rfl (hb hby at_26) rfl ?_
    show Steps p.tables e below (s₁.setTop (mkF m 27 #[vI p0, vI p1, vI p2, vI p3, vI (0 : Int32), vI (1 : Int32), .unset, .unset, .unset, .unset, .unset, .unset] [(.int p3)])) _
    refine XS.iconst X0.here hx rfl (hb hby at_27) ?_
    refine XS.iand X0.here hx rfl (hb hby at_28) rfl ?_
    show Steps p.tables e below (s₁.setTop (mkF m 29 #[vI p0, vI p1, vI p2, vI p3, vI (0 : Int32), vI (1 : Int32), .unset, .unset, .unset, .unset, .unset, .unset] [(.int (p3 &&& (1 : Int32)))])) _
    refine XS.ifYes X0.here hx rfl (pc0 := 29) (pc' := 36) rfl (hb hby at_29) rfl ((if0 _ _).trans (teq c_9).1) (by decide) (by decide) ?_
    refine XS.iconst X0.here hx rfl (hb hby at_36) ?_
    show Steps p.tables e below (s₁.setTop (mkF m 37 #[vI p0, vI p1, vI p2, vI p3, vI (0 : Int32), vI (1 : Int32), .unset, .unset, .unset, .unset, .unset, .unset] [(.int (0 : Int32))])) _
    refine XS.istore X0.here hx rfl (hb hby at_37) rfl (l' := #[vI p0, vI p1, vI p2, vI p3, vI (0 : Int32), vI (1 : Int32), vI (0 : Int32), .unset, .unset, .unset, .unset, .unset]) rfl ?_
    show Steps p.tables e below (s₁.setTop (mkF m 39 #[vI p0, vI p1, vI p2, vI p3, vI (0 : Int32), vI (1 : Int32), vI (0 : Int32), .unset, .unset, .unset, .unset, .unset] [])) _
    refine st15 _ ?_
    refine XS.iload X15.here hx rfl (hb hby at_112) rfl ?_
    show Steps p.tables e below (T15.setTop (mkF m 114 #[vI p0, vI p1, vI p2, vI p3, vI (0 : Int32), vI (1 : Int32), vI (0 : Int32), vR b4_15, vR b24_15, vR b37_15, vR b49_15, .unset] [(.int (0 : Int32))])) _
    refine XS.ifYes X15.here hx rfl (pc0 := 114) (pc' := 125) rfl (hb hby at_114) rfl ((if0 _ _).trans (teq (by decide : (0 : Int32) = (0 : Int32))).1) (by decide) (by decide) ?_
    refine XS.iload X15.here hx rfl (hb hby at_125) rfl ?_
    show Steps p.tables e below (T15.setTop (mkF m 127 #[vI p0, vI p1, vI p2, vI p3, vI (0 : Int32), vI (1 : Int32), vI (0 : Int32), vR b4_15, vR b24_15, vR b37_15, vR b49_15, .unset] [(.int (0 : Int32))])) _
    refine XS.ifYes X15.here hx rfl (pc0 := 127) (pc' := 166) rfl (hb hby at_127) rfl ((if0 _ _).trans (teq (by decide : (0 : Int32) = (0 : Int32))).1) (by decide) (by decide) ?_
    refine XS.iload X15.here hx rfl (hb hby at_166) rfl ?_
    show Steps p.tables e below (T15.setTop (mkF m 168 #[vI p0, vI p1, vI p2, vI p3, vI (0 : Int32), vI (1 : Int32), vI (0 : Int32), vR b4_15, vR b24_15, vR b37_15, vR b49_15, .unset] [(.int (1 : Int32))])) _
    refine XS.ifNo X15.here hx rfl (hb hby at_168) rfl ((if0 _ _).trans (feq (by decide : ¬ ((1 : Int32) = (0 : Int32)))).1) ?_
    refine XS.aload X15.here hx rfl (hb hby at_171) rfl rfl ?_
    show Steps p.tables e below (T15.setTop (mkF m 173 #[vI p0, vI p1, vI p2, vI p3, vI (0 : Int32), vI (1 : Int32), vI (0 : Int32), vR b4_15, vR b24_15, vR b37_15, vR b49_15, .unset] [(.ref b37_15)])) _
    refine XS.aconstNull X15.here hx rfl (hb hby at_173) ?_
    refine XS.aload X15.here hx rfl (hb hby at_174) rfl rfl ?_
    show Steps p.tables e below (T15.setTop (mkF m 176 #[vI p0, vI p1, vI p2, vI p3, vI (0 : Int32), vI (1 : Int32), vI (0 : Int32), vR b4_15, vR b24_15, vR b37_15, vR b49_15, .unset] [(.ref b49_15), .null, (.ref b37_15)])) _
    refine st17 _ ?_
    refine XS.astore X17.here hx rfl (hb hby at_179) rfl rfl (l' := #[vI p0, vI p1, vI p2, vI p3, vI (0 : Int32), vI (1 : Int32), vI (0 : Int32), vR b4_15, vR b24_15, vR b37_15, vR b49_15, vR b3_17]) rfl ?_
    show Steps p.tables e below (T17.setTop (mkF m 181 #[vI p0, vI p1, vI p2, vI p3, vI (0 : Int32), vI (1 : Int32), vI (0 : Int32), vR b4_15, vR b24_15, vR b37_15, vR b49_15, vR b3_17] [])) _
    refine XS.goto X17.here hx rfl (pc0 := 181) (pc' := 199) rfl (hb hby at_181) (by decide) (by decide) ?_
    refine XS.aload X17.here hx rfl (hb hby at_199) rfl rfl ?_
    show Steps p.tables e below (T17.setTop (mkF m 201 #[vI p0, vI p1, vI p2, vI p3, vI (0 : Int32), vI (1 : Int32), vI (0 : Int32), vR b4_15, vR b24_15, vR b37_15, vR b49_15, vR b3_17] [(.ref b3_17)])) _
    refine st20.trans ?_
    refine XS.iload X20.here hx rfl (hb hby at_204) rfl ?_
    show Steps p.tables e below (T20.setTop (mkF m 206 #[vI p0, vI p1, vI p2, vI p3, vI (0 : Int32), vI (1 : Int32), vI (0 : Int32), vR b4_15, vR b24_15, vR b37_15, vR b49_15, vR b3_17] [(.int (0 : Int32)), (.int (0 : Int32))])) _
    refine XS.icmpNo X20.here hx rfl (hb hby at_206) rfl (teq (by decide : (0 : Int32) = (0 : Int32))).2 ?_
    refine XS.iconst X20.here hx rfl (hb hby at_209) ?_
    show Steps p.tables e below (T20.setTop (mkF m 210 #[vI p0, vI p1, vI p2, vI p3, vI (0 : Int32), vI (1 : Int32), vI (0 : Int32), vR b4_15, vR b24_15, vR b37_15, vR b49_15, vR b3_17] [(.int (1 : Int32))])) _
    refine XS.goto X20.here hx rfl (pc0 := 210) (pc' := 214) rfl (hb hby at_210) (by decide) (by decide) ?_
    show Steps p.tables e below (T20.setTop (mkF m 214 #[vI p0, vI p1, vI p2, vI p3, vI (0 : Int32), vI (1 : Int32), vI (0 : Int32), vR b4_15, vR b24_15, vR b37_15, vR b49_15, vR b3_17] [(.int (1 : Int32))])) _
    exact retN X20 hx (t := .boolean) Bd.returns (by simp) (hb hby at_214) hr
  · show Q0r010 Z w_COMPACT_STRINGS w_DEFAULTCAPACITY_EMPTY_ELEMENTDATA k_w_DEFAULTCAPACITY_EMPTY_ELEMENTDATA w_EMPTY_LIST p0 p1 p2 p3 w_NO_DOI w_ISBN_CHECK_DIGIT w_DOI_SYNTAX w_CODE h0 n0 _ T20.heap _
    exact ⟨rfl, N20⟩
def Q0r011 (Z : State) (w_COMPACT_STRINGS : Int32) (w_DEFAULTCAPACITY_EMPTY_ELEMENTDATA : Addr) (k_w_DEFAULTCAPACITY_EMPTY_ELEMENTDATA : ClassId) (w_EMPTY_LIST : Addr) (p0 : Int32) (p1 : Int32) (p2 : Int32) (p3 : Int32) (w_NO_DOI : Addr) (w_ISBN_CHECK_DIGIT : Addr) (w_DOI_SYNTAX : Addr) (w_CODE : Addr) (w_mir__Ljava_lang_Object_ : Addr) (w_EMPTY : Addr) (h0 : Heap) (n0 : Nat) (v : Option Value) (h : Heap) (L : List Loc) : Prop := v = some (.int (1 : Int32)) ∧ Fr n0 L
set_option maxRecDepth 65536 in
set_option maxHeartbeats 40000000 in
theorem rm0r011 (l : Launch) (Z : State) (A0 : Array Value) (hw : ∀ d ∈ tables_1, d.before A0 Z = true) (ws : List Jvm.Cond) (w_COMPACT_STRINGS : Int32) (w_DEFAULTCAPACITY_EMPTY_ELEMENTDATA : Addr) (k_w_DEFAULTCAPACITY_EMPTY_ELEMENTDATA : ClassId) (w_EMPTY_LIST : Addr) (p0 : Int32) (p1 : Int32) (p2 : Int32) (p3 : Int32) (w_NO_DOI : Addr) (w_ISBN_CHECK_DIGIT : Addr) (w_DOI_SYNTAX : Addr) (w_CODE : Addr) (w_mir__Ljava_lang_Object_ : Addr) (w_EMPTY : Addr) (h0 : Heap) (n0 : Nat) (OLD : Old Z n0 h0) (c_1 : ¬ (w_COMPACT_STRINGS = (0 : Int32))) (f_2 : Sta Z Z.heap "java/util/ArrayList" "DEFAULTCAPACITY_EMPTY_ELEMENTDATA" "[Ljava/lang/Object;" (.ref w_DEFAULTCAPACITY_EMPTY_ELEMENTDATA)) (f_3 : Arv Z Z.heap w_DEFAULTCAPACITY_EMPTY_ELEMENTDATA k_w_DEFAULTCAPACITY_EMPTY_ELEMENTDATA (.object "java/lang/Object") (0 : Int32) [] .null) (f_4 : Sta Z Z.heap "java/util/ImmutableCollections" "EMPTY_LIST" "Ljava/util/ImmutableCollections$ListN;" (.ref w_EMPTY_LIST)) (f_5 : Exa Z Z.heap w_EMPTY_LIST "java/util/ImmutableCollections$ListN") (f_6 : Fld Z Z.heap w_EMPTY_LIST "java/util/ImmutableCollections$ListN" "allowNulls" "Z" (.int (0 : Int32))) (c_7 : (p0 &&& (1 : Int32)) = (0 : Int32)) (c_8 : ¬ ((p0 &&& (2 : Int32)) = (0 : Int32))) (c_9 : ¬ ((p3 &&& (1 : Int32)) = (0 : Int32))) (f_10 : Sta Z Z.heap "com/example/deposita/deposita/core/Rule" "NO_DOI" "Lcom/example/deposita/deposita/core/Rule;" (.ref w_NO_DOI)) (f_11 : Sta Z Z.heap "com/example/deposita/deposita/core/Rule" "ISBN_CHECK_DIGIT" "Lcom/example/deposita/deposita/core/Rule;" (.ref w_ISBN_CHECK_DIGIT)) (f_12 : Sta Z Z.heap "com/example/deposita/deposita/core/Rule" "DOI_SYNTAX" "Lcom/example/deposita/deposita/core/Rule;" (.ref w_DOI_SYNTAX)) (f_13 : Sta Z Z.heap "com/example/deposita/deposita/core/Rule" "CODE" "Lcom/example/deposita/deposita/core/Rule;" (.ref w_CODE)) (f_14 : Sta Z Z.heap "java/lang/String" "COMPACT_STRINGS" "Z" (.int w_COMPACT_STRINGS)) (c_22 : own_Mir Z "[Ljava/lang/Object;" w_mir__Ljava_lang_Object_) (f_23 : Sta Z Z.heap "java/util/ImmutableCollections" "EMPTY" "Ljava/lang/Object;" (.ref w_EMPTY)) :
    MetFree l x (head1 (Jvm.Cond.code x code maxLocals ret :: ws) room_1) (fun a U => a = #[(.int p0), (.int p1), (.int p2), (.int p3)] ∧ Z.Warmed39 U.vm ∧ U.heap = h0) (fun _ _ _ _ _ => True) (fun _ U o U' => ∃ v L, o = .returned v ∧ Q0r011 Z w_COMPACT_STRINGS w_DEFAULTCAPACITY_EMPTY_ELEMENTDATA k_w_DEFAULTCAPACITY_EMPTY_ELEMENTDATA w_EMPTY_LIST p0 p1 p2 p3 w_NO_DOI w_ISBN_CHECK_DIGIT w_DOI_SYNTAX w_CODE w_mir__Ljava_lang_Object_ w_EMPTY h0 n0 v U'.heap L ∧ ReturnedEndW U o U' L room_1.cells room_1.slots) := by
  refine MetFree.of_bodySF (plainFor_of_name pn_com_example_deposita_deposita_formats_MappedIsRefusedPinLaw) hisR ?_
  intro p e s m args below meth c s₁ Bd hml0 hP hK
  obtain ⟨rfl, hZ, hh⟩ := hP
  have hx := Bd.exec
  have hby := Bd.bytes
  have hml : c.maxLocals = 12 := hml0
  have hown : s.vm.findClass "com/example/deposita/deposita/formats/MappedIsRefusedPinLaw" = some m.cls := findClass_of_methodNamed Bd.named
  have hnm := (name_of_methodNamed Bd.named Bd.method).1
  have X0 : Stand p l e room_1 (s.setVm s.vm) m #[(.int p0), (.int p1), (.int p2), (.int p3)] below meth c s₁ [] 0 0 := Stand.of_body Bd
  have e0 : s₁.heap = h0 := by rw [← hh, Bd.state]; rfl
  have hS0 : s.Since s.vm h0.size := (State.WarmedH.refl s).since _
  have hk0 : h0.size ≤ h0.size := Nat.le_refl _
  have hZ : Z.Warmed39 (s.setVm s.vm).vm := hZ
  have hown : (s.setVm s.vm).vm.findClass "com/example/deposita/deposita/formats/MappedIsRefusedPinLaw" = some m.cls := hown
  have N0 := Fr.nil n0
  have pre0 : ∀ t, Steps p.tables e below (s₁.setTop (mkF m 0 #[vI p0, vI p1, vI p2, vI p3, .unset, .unset, .unset, .unset, .unset, .unset, .unset, .unset] [])) t → Steps p.tables e below (s₁.setTop (entryFrame m #[(.int p0), (.int p1), (.int p2), (.int p3)] maxLocals)) t := fun t k => castTop (ef_0 m p0 p1 p2 p3) k
  obtain ⟨b4_15, b6_15_15, b24_15, b37_15, b4_8_10_46_15, b49_15, k24_15, k4_8_10_46_15, w_12_15, T15, L15, vm15, kk15, X15, N15, hS15, hk15, hZ15, hown15, K15, g15_0, g15_1, g15_2, g15_3, g15_4, g15_5, g15_6, g15_7, g15_8, g15_9, g15_10, g15_11, g15_12, g15_13, g15_14, g15_15, g15_16, g15_17, g15_18, g15_19, g15_20, g15_21, g15_22, g15_23, g15_24, g15_25, g15_26, g15_27, g15_28, st15⟩ := rm0seg l Z A0 hw w_COMPACT_STRINGS w_DEFAULTCAPACITY_EMPTY_ELEMENTDATA k_w_DEFAULTCAPACITY_EMPTY_ELEMENTDATA w_EMPTY_LIST (0 : Int32) (1 : Int32) (1 : Int32) p0 p1 p2 p3 w_NO_DOI w_ISBN_CHECK_DIGIT w_DOI_SYNTAX w_CODE h0 n0 OLD c_1 f_2 f_3 f_10 f_11 f_12 f_13 f_14 X0 hx hZ hby hml hown hh e0
  have K_16 : Keep h0 T15.heap [] := Keep.trans (Keep.refl h0 []) K15 all0
  have ge_17 : n0 ≤ b49_15 := own_ge OLD g15_5
  have O_19 := Old.keep OLD K15 all0
  obtain ⟨cq18, kq18, q18a, q18b, q18c⟩ := isOf hZ15 rfl g15_15
  obtain ⟨_, _, ⟨T18, L18, k18, n18⟩, -, X18, ⟨Lc18, hQ18, l18, y18, z18⟩, st18⟩ := X15.virtualBack hx (y := (⟨"java/util/ArrayList", "add", "(Ljava/lang/Object;)Z"⟩ : MethodName)) (z := (⟨"java/util/ArrayList", "add", "(Ljava/lang/Object;)Z"⟩ : MethodName)) hown15 (mvT hZ15 (hw _ (List.mem_of_getElem? (i := 99) rfl))) (mvT hZ15 (hw _ (List.mem_of_getElem? (i := 100) rfl))) (notFace_of_selects (args := #[]) (mvT hZ15 (hw _ (List.mem_of_getElem? (i := 102) rfl)))) (mvT hZ15 (hw _ (List.mem_of_getElem? (i := 102) rfl))) (mvT hZ15 (hw _ (List.mem_of_getElem? (i := 101) rfl))) (by decide) (backOf (W := 0) (rm18 l Z A0 hw [] w_DEFAULTCAPACITY_EMPTY_ELEMENTDATA k_w_DEFAULTCAPACITY_EMPTY_ELEMENTDATA b49_15 b4_15 T15.heap n0 O_19 g15_15 f_2 g15_17 f_3 g15_6 g15_18 g15_16 ge_17) hZ15 (hw _ (List.mem_of_getElem? (i := 103) rfl)) (hw _ (List.mem_of_getElem? (i := 77) rfl)) (by decide) (by decide)) q18a q18c (g := (mkF m 121 #[vI p0, vI p1, vI p2, vI p3, vI (0 : Int32), vI (1 : Int32), vI (1 : Int32), vR b4_15, vR b24_15, vR b37_15, vR b49_15, .unset] [(.ref b4_15), (.ref b49_15)])) rfl (by rw [hml]; rfl) (Steps.refl _) (argsL := [(.ref b4_15)]) (rest := []) (lenOf pd_26 rfl) rfl (by show 2 * 0 + _ ≤ _; exact Nat.le_of_eq rfl) (hb hby at_121) (fun _ _ => ⟨rfl, rfl, (by decide : 11 + 1 ≤ _), (by decide : 62 + 10 ≤ _)⟩)
  dsimp only [Pt.U, Pt.locs, Pt.cells, Pt.slots] at X18 l18 y18 z18 st18 hQ18
  subst l18 y18 z18
  obtain ⟨b12_8_9_18_18, k12_8_9_18_18, rfl, N18q, K18, g18_0, g18_1, g18_2, g18_3, g18_4, g18_5, g18_6, g18_7⟩ := hQ18
  have N18 := Fr.app N15 N18q
  have K_20 : Keep h0 T18.heap [] := Keep.trans K_16 K18 (allS (Or.inr (Nat.le_trans (Keep.refl h0 []).1 g15_5)) all0)
  have f_21 := g15_6.keep K18
  have O_25 := Old.keep O_19 K18 (allS ge_17 all0)
  obtain ⟨_, _, ⟨T24, L24, k24, n24⟩, -, X24, ⟨Lc24, hQ24, l24, y24, z24⟩, st24⟩ := Jvm.LawKit.callS X18 hx (y := (⟨"com/example/deposita/deposita/formats/Mapped", "written", "(Ljava/lang/String;Lcom/example/deposita/deposita/core/Product;Ljava/util/List;)Lcom/example/deposita/deposita/formats/Mapped;"⟩ : MethodName)) hown15 (mvT hZ15 (hw _ (List.mem_of_getElem? (i := 257) rfl))) (mvT hZ15 (hw _ (List.mem_of_getElem? (i := 258) rfl))) (mvT hZ15 (hw _ (List.mem_of_getElem? (i := 132) rfl))) (mvT hZ15 (hw _ (List.mem_of_getElem? (i := 259) rfl))) (by decide) (backOf (W := 0) (rm39f l Z A0 hw [] b4_15 k12_8_9_18_18 b12_8_9_18_18 b37_15 b49_15 w_mir__Ljava_lang_Object_ w_EMPTY T18.heap n0 O_25 g18_3 g18_4 g18_5 g18_2 g18_1 f_21 c_22 f_23) hZ15 (hw _ (List.mem_of_getElem? (i := 259) rfl)) (hw _ (List.mem_of_getElem? (i := 132) rfl)) (by decide) (by decide)) (g := (mkF m 176 #[vI p0, vI p1, vI p2, vI p3, vI (0 : Int32), vI (1 : Int32), vI (1 : Int32), vR b4_15, vR b24_15, vR b37_15, vR b49_15, .unset] [(.ref b49_15), .null, (.ref b37_15)])) rfl (by rw [hml]; rfl) (argsL := [(.ref b37_15), .null, (.ref b49_15)]) (rest := []) (lenOf pd_27 rfl) rfl (by show 2 * 0 + _ ≤ _; exact Nat.le_of_eq rfl) (hb hby at_176) (fun _ _ => ⟨rfl, rfl, (by decide : 12 + 3 ≤ _), (by decide : 72 + 7 ≤ _)⟩)
  dsimp only [Pt.U, Pt.locs, Pt.cells, Pt.slots] at X24 l24 y24 z24 st24 hQ24
  subst l24 y24 z24
  obtain ⟨b7_24, b3_14_9_15_22_24, rfl, N24q, K24, g24_0, g24_1, g24_2, g24_3, g24_4, g24_5, g24_6, g24_7⟩ := hQ24
  have N24 := Fr.app N18 N24q
  have K_26 : Keep h0 T24.heap [] := Keep.trans K_20 K24 all0
  have O_28 := Old.keep O_25 K24 all0
  obtain ⟨cq27, kq27, q27a, q27b, q27c⟩ := isOf hZ15 rfl g24_2
  obtain ⟨_, _, ⟨T27, L27, k27, n27⟩, -, X27, ⟨Lc27, hQ27, l27, y27, z27⟩, st27⟩ := X24.virtualBack hx (y := (⟨"com/example/deposita/deposita/formats/Mapped", "isRefused", "()Z"⟩ : MethodName)) (z := (⟨"com/example/deposita/deposita/formats/Mapped", "isRefused", "()Z"⟩ : MethodName)) hown15 (mvT hZ15 (hw _ (List.mem_of_getElem? (i := 230) rfl))) (mvT hZ15 (hw _ (List.mem_of_getElem? (i := 231) rfl))) (notFace_of_selects (args := #[]) (mvT hZ15 (hw _ (List.mem_of_getElem? (i := 233) rfl)))) (mvT hZ15 (hw _ (List.mem_of_getElem? (i := 233) rfl))) (mvT hZ15 (hw _ (List.mem_of_getElem? (i := 232) rfl))) (by decide) (backOf (W := 0) (rm36r0 l Z A0 hw [] b7_24 T24.heap n0 O_28 g24_6) hZ15 (hw _ (List.mem_of_getElem? (i := 234) rfl)) (hw _ (List.mem_of_getElem? (i := 132) rfl)) (by decide) (by decide)) q27a q27c (g := (mkF m 201 #[vI p0, vI p1, vI p2, vI p3, vI (0 : Int32), vI (1 : Int32), vI (1 : Int32), vR b4_15, vR b24_15, vR b37_15, vR b49_15, vR b7_24] [(.ref b7_24)])) rfl (by rw [hml]; rfl) (Steps.refl _) (argsL := []) (rest := []) (lenOf pd_17 rfl) rfl (by show 2 * 0 + _ ≤ _; exact Nat.le_of_eq rfl) (hb hby at_201) (fun _ _ => ⟨rfl, rfl, (by decide : 15 + 0 ≤ _), (by decide : 79 + 0 ≤ _)⟩)
  dsimp only [Pt.U, Pt.locs, Pt.cells, Pt.slots] at X27 l27 y27 z27 st27 hQ27
  subst l27 y27 z27
  obtain ⟨rfl, N27q, e27⟩ := hQ27
  have N27 := Fr.app N24 N27q
  obtain ⟨fs, hr, hrun, hended, hRW⟩ := X27.leaveW (s := s) hS15 (by rw [e27]; exact (Nat.le_trans (Nat.le_trans hk15 K18.1) K24.1)) (v := some (.int (1 : Int32))) (fun h => by rw [Bd.returns] at h; cases h)
  refine ⟨_, _, pre0 _ ?_, hrun, hended, _, _, rfl, ?_, hRW.1, hRW.2.1, hRW.2.2.1, hRW.2.2.2.mono (by decide) (by decide)⟩
  · show Steps p.tables e below (s₁.setTop (mkF m 0 #[vI p0, vI p1, vI p2, vI p3, .unset, .unset, .unset, .unset, .unset, .unset, .unset, .unset] [])) _
    refine XS.iloadN X0.here hx rfl (hb hby at_0) rfl ?_
    refine XS.iconst X0.here hx rfl (hb hby at_1) ?_
    show Steps p.tables e below (s₁.setTop (mkF m 2 #[vI p0, vI p1, vI p2, vI p3, .unset, .unset, .unset, .unset, .unset, .unset, .unset, .unset] [(.int (1 : Int32)), (.int p0)])) _
    refine XS.iand X0.here hx rfl (hb hby at_2) rfl ?_
    refine XS.ifYes X0.here hx rfl (pc0 := 3) (pc' := 10) rfl (hb hby at_3) rfl ((if0 _ _).trans (teq c_7).1) (by decide) (by decide) ?_
    show Steps p.tables e below (s₁.setTop (mkF m 10 #[vI p0, vI p1, vI p2, vI p3, .unset, .unset, .unset, .unset, .unset, .unset, .unset, .unset] [])) _
    refine XS.iconst X0.here hx rfl (hb hby at_10) ?_
    refine XS.istore X0.here hx rfl (hb hby at_11) rfl (l' := #[vI p0, vI p1, vI p2, vI p3, vI (0 : Int32), .unset, .unset, .unset, .unset, .unset, .unset, .unset]) rfl ?_
    show Steps p.tables e below (s₁.setTop (mkF m 13 #[vI p0, vI p1, vI p2, vI p3, vI (0 : Int32), .unset, .unset, .unset, .unset, .unset, .unset, .unset] [])) _
    refine XS.iloadN X0.here hx rfl (hb hby at_13) rfl ?_
    refine XS.iconst X0.here hx rfl (hb hby at_14) ?_
    show Steps p.tables e below (s₁.setTop (mkF m 15 #[vI p0, vI p1, vI p2, vI p3, vI (0 : Int32), .unset, .unset, .unset, .unset, .unset, .unset, .unset] [(.int (2 : Int32)), (.int p0)])) _
    refine XS.iand X0.here hx rfl (hb hby at_15) rfl ?_
    refine XS.ifNo X0.here hx rfl (hb hby at_16) rfl ((if0 _ _).trans (feq c_8).1) ?_
    show Steps p.tables e below (s₁.setTop (mkF m 19 #[vI p0, vI p1, vI p2, vI p3, vI (0 : Int32), .unset, .unset, .unset, .unset, .unset, .unset, .unset] [])) _
    refine XS.iconst X0.here hx rfl (hb hby at_19) ?_
    refine XS.goto X0.here hx rfl (pc0 := 20) (pc' := 24) rfl (hb hby at_20) (by decide) (by decide) ?_
    show Steps p.tables e below (s₁.setTop (mkF m 24 #[vI p0, vI p1, vI p2, vI p3, vI (0 : Int32), .unset, .unset, .unset, .unset, .unset, .unset, .unset] [(.int (1 : Int32))])) _
    refine XS.istore X0.here hx rfl (hb hby at_24) rfl (l' := #[vI p0, vI p1, vI p2, vI p3, vI (0 : Int32), vI (1 : Int32), .unset, .unset, .unset, .unset, .unset, .unset]) rfl ?_
    refine XS.iloadN X0.here hx rfl (hb hby at_26) rfl ?_
    show Steps p.tables e below (s₁.setTop (mkF m 27 #[vI p0, vI p1, vI p2, vI p3, vI (0 : Int32), vI (1 : Int32), .unset, .unset, .unset, .unset, .unset, .unset] [(.int p3)])) _
    refine XS.iconst X0.here hx rfl (hb hby at_27) ?_
    refine XS.iand X0.here hx rfl (hb hby at_28) rfl ?_
    show Steps p.tables e below (s₁.setTop (mkF m 29 #[vI p0, vI p1, vI p2, vI p3, vI (0 : Int32), vI (1 : Int32), .unset, .unset, .unset, .unset, .unset, .unset] [(.int (p3 &&& (1 : Int32)))])) _
    refine XS.ifNo X0.here hx rfl (hb hby at_29) rfl ((if0 _ _).trans (feq c_9).1) ?_
    refine XS.iconst X0.here hx rfl (hb hby at_32) ?_
    show Steps p.tables e below (s₁.setTop (mkF m 33 #[vI p0, vI p1, vI p2, vI p3, vI (0 : Int32), vI (1 : Int32), .unset, .unset, .unset, .unset, .unset, .unset] [(.int (1 : Int32))])) _
    refine XS.goto X0.here hx rfl (pc0 := 33) (pc' := 37) rfl (hb hby at_33) (by decide) (by decide) ?_
    refine XS.istore X0.here hx rfl (hb hby at_37) rfl (l' := #[vI p0, vI p1, vI p2, vI p3, vI (0 : Int32), vI (1 : Int32), vI (1 : Int32), .unset, .unset, .unset, .unset, .unset]) rfl ?_
    show Steps p.tables e below (s₁.setTop (mkF m 39 #[vI p0, vI p1, vI p2, vI p3, vI (0 : Int32), vI (1 : Int32), vI (1 : Int32), .unset, .unset, .unset, .unset, .unset] [])) _
    refine st15 _ ?_
    show Steps p.tables e below (T15.setTop (mkF m 112 #[vI p0, vI p1, vI p2, vI p3, vI (0 : Int32), vI (1 : Int32), vI (1 : Int32), vR b4_15, vR b24_15, vR b37_15, vR b49_15, .unset] [])) _
    refine XS.iload X15.here hx rfl (hb hby at_112) rfl ?_
    refine XS.ifNo X15.here hx rfl (hb hby at_114) rfl ((if0 _ _).trans (feq (by decide : ¬ ((1 : Int32) = (0 : Int32)))).1) ?_
    show Steps p.tables e below (T15.setTop (mkF m 117 #[vI p0, vI p1, vI p2, vI p3, vI (0 : Int32), vI (1 : Int32), vI (1 : Int32), vR b4_15, vR b24_15, vR b37_15, vR b49_15, .unset] [])) _
    refine XS.aload X15.here hx rfl (hb hby at_117) rfl rfl ?_
    refine XS.aload X15.here hx rfl (hb hby at_119) rfl rfl ?_
    show Steps p.tables e below (T15.setTop (mkF m 121 #[vI p0, vI p1, vI p2, vI p3, vI (0 : Int32), vI (1 : Int32), vI (1 : Int32), vR b4_15, vR b24_15, vR b37_15, vR b49_15, .unset] [(.ref b4_15), (.ref b49_15)])) _
    refine st18.trans ?_
    refine XS.pop X18.here hx rfl (hb hby at_124) rfl rfl ?_
    show Steps p.tables e below (T18.setTop (mkF m 125 #[vI p0, vI p1, vI p2, vI p3, vI (0 : Int32), vI (1 : Int32), vI (1 : Int32), vR b4_15, vR b24_15, vR b37_15, vR b49_15, .unset] [])) _
    refine XS.iload X18.here hx rfl (hb hby at_125) rfl ?_
    refine XS.ifYes X18.here hx rfl (pc0 := 127) (pc' := 166) rfl (hb hby at_127) rfl ((if0 _ _).trans (teq (by decide : (0 : Int32) = (0 : Int32))).1) (by decide) (by decide) ?_
    show Steps p.tables e below (T18.setTop (mkF m 166 #[vI p0, vI p1, vI p2, vI p3, vI (0 : Int32), vI (1 : Int32), vI (1 : Int32), vR b4_15, vR b24_15, vR b37_15, vR b49_15, .unset] [])) _
    refine XS.iload X18.here hx rfl (hb hby at_166) rfl ?_
    refine XS.ifNo X18.here hx rfl (hb hby at_168) rfl ((if0 _ _).trans (feq (by decide : ¬ ((1 : Int32) = (0 : Int32)))).1) ?_
    show Steps p.tables e below (T18.setTop (mkF m 171 #[vI p0, vI p1, vI p2, vI p3, vI (0 : Int32), vI (1 : Int32), vI (1 : Int32), vR b4_15, vR b24_15, vR b37_15, vR b49_15, .unset] [])) _
    refine XS.aload X18.here hx rfl (hb hby at_171) rfl rfl ?_
    refine XS.aconstNull X18.here hx rfl (hb hby at_173) ?_
    show Steps p.tables e below (T18.setTop (mkF m 174 #[vI p0, vI p1, vI p2, vI p3, vI (0 : Int32), vI (1 : Int32), vI (1 : Int32), vR b4_15, vR b24_15, vR b37_15, vR b49_15, .unset] [.null, (.ref b37_15)])) _
    refine XS.aload X18.here hx rfl (hb hby at_174) rfl rfl ?_
    refine st24 _ ?_
    show Steps p.tables e below (T24.setTop (mkF m 179 #[vI p0, vI p1, vI p2, vI p3, vI (0 : Int32), vI (1 : Int32), vI (1 : Int32), vR b4_15, vR b24_15, vR b37_15, vR b49_15, .unset] [(.ref b7_24)])) _
    refine XS.astore X24.here hx rfl (hb hby at_179) rfl rfl (l' := #[vI p0, vI p1, vI p2, vI p3, vI (0 : Int32), vI (1 : Int32), vI (1 : Int32), vR b4_15, vR b24_15, vR b37_15, vR b49_15, vR b7_24]) rfl ?_
    refine XS.goto X24.here hx rfl (pc0 := 181) (pc' := 199) rfl (hb hby at_181) (by decide) (by decide) ?_
    show Steps p.tables e below (T24.setTop (mkF m 199 #[vI p0, vI p1, vI p2, vI p3, vI (0 : Int32), vI (1 : Int32), vI (1 : Int32), vR b4_15, vR b24_15, vR b37_15, vR b49_15, vR b7_24] [])) _
    refine XS.aload X24.here hx rfl (hb hby at_199) rfl rfl ?_
    refine st27.trans ?_
    show Steps p.tables e below (T27.setTop (mkF m 204 #[vI p0, vI p1, vI p2, vI p3, vI (0 : Int32), vI (1 : Int32), vI (1 : Int32), vR b4_15, vR b24_15, vR b37_15, vR b49_15, vR b7_24] [(.int (0 : Int32))])) _
    refine XS.iload X27.here hx rfl (hb hby at_204) rfl ?_
    refine XS.icmpNo X27.here hx rfl (hb hby at_206) rfl (teq (by decide : (0 : Int32) = (0 : Int32))).2 ?_
    show Steps p.tables e below (T27.setTop (mkF m 209 #[vI p0, vI p1, vI p2, vI p3, vI (0 : Int32), vI (1 : Int32), vI (1 : Int32), vR b4_15, vR b24_15, vR b37_15, vR b49_15, vR b7_24] [])) _
    refine XS.iconst X27.here hx rfl (hb hby at_209) ?_
    refine XS.goto X27.here hx rfl (pc0 := 210) (pc' := 214) rfl (hb hby at_210) (by decide) (by decide) ?_
    show Steps p.tables e below (T27.setTop (mkF m 214 #[vI p0, vI p1, vI p2, vI p3, vI (0 : Int32), vI (1 : Int32), vI (1 : Int32), vR b4_15, vR b24_15, vR b37_15, vR b49_15, vR b7_24] [(.int (1 : Int32))])) _
    exact retN X27 hx (t := .boolean) Bd.returns (by simp) (hb hby at_214) hr
  · show Q0r011 Z w_COMPACT_STRINGS w_DEFAULTCAPACITY_EMPTY_ELEMENTDATA k_w_DEFAULTCAPACITY_EMPTY_ELEMENTDATA w_EMPTY_LIST p0 p1 p2 p3 w_NO_DOI w_ISBN_CHECK_DIGIT w_DOI_SYNTAX w_CODE w_mir__Ljava_lang_Object_ w_EMPTY h0 n0 _ T27.heap _
    exact ⟨rfl, N27⟩
def Q0r100 (Z : State) (w_COMPACT_STRINGS : Int32) (w_DEFAULTCAPACITY_EMPTY_ELEMENTDATA : Addr) (k_w_DEFAULTCAPACITY_EMPTY_ELEMENTDATA : ClassId) (w_EMPTY_LIST : Addr) (p0 : Int32) (p1 : Int32) (p2 : Int32) (p3 : Int32) (w_NO_DOI : Addr) (w_ISBN_CHECK_DIGIT : Addr) (w_DOI_SYNTAX : Addr) (w_CODE : Addr) (h0 : Heap) (n0 : Nat) (v : Option Value) (h : Heap) (L : List Loc) : Prop := v = some (.int (1 : Int32)) ∧ Fr n0 L
set_option maxRecDepth 65536 in
set_option maxHeartbeats 40000000 in
theorem rm0r100 (l : Launch) (Z : State) (A0 : Array Value) (hw : ∀ d ∈ tables_1, d.before A0 Z = true) (ws : List Jvm.Cond) (w_COMPACT_STRINGS : Int32) (w_DEFAULTCAPACITY_EMPTY_ELEMENTDATA : Addr) (k_w_DEFAULTCAPACITY_EMPTY_ELEMENTDATA : ClassId) (w_EMPTY_LIST : Addr) (p0 : Int32) (p1 : Int32) (p2 : Int32) (p3 : Int32) (w_NO_DOI : Addr) (w_ISBN_CHECK_DIGIT : Addr) (w_DOI_SYNTAX : Addr) (w_CODE : Addr) (h0 : Heap) (n0 : Nat) (OLD : Old Z n0 h0) (c_1 : ¬ (w_COMPACT_STRINGS = (0 : Int32))) (f_2 : Sta Z Z.heap "java/util/ArrayList" "DEFAULTCAPACITY_EMPTY_ELEMENTDATA" "[Ljava/lang/Object;" (.ref w_DEFAULTCAPACITY_EMPTY_ELEMENTDATA)) (f_3 : Arv Z Z.heap w_DEFAULTCAPACITY_EMPTY_ELEMENTDATA k_w_DEFAULTCAPACITY_EMPTY_ELEMENTDATA (.object "java/lang/Object") (0 : Int32) [] .null) (f_4 : Sta Z Z.heap "java/util/ImmutableCollections" "EMPTY_LIST" "Ljava/util/ImmutableCollections$ListN;" (.ref w_EMPTY_LIST)) (f_5 : Exa Z Z.heap w_EMPTY_LIST "java/util/ImmutableCollections$ListN") (f_6 : Fld Z Z.heap w_EMPTY_LIST "java/util/ImmutableCollections$ListN" "allowNulls" "Z" (.int (0 : Int32))) (c_7 : ¬ ((p0 &&& (1 : Int32)) = (0 : Int32))) (c_8 : (p0 &&& (2 : Int32)) = (0 : Int32)) (c_9 : (p3 &&& (1 : Int32)) = (0 : Int32)) (f_10 : Sta Z Z.heap "com/example/deposita/deposita/core/Rule" "NO_DOI" "Lcom/example/deposita/deposita/core/Rule;" (.ref w_NO_DOI)) (f_11 : Sta Z Z.heap "com/example/deposita/deposita/core/Rule" "ISBN_CHECK_DIGIT" "Lcom/example/deposita/deposita/core/Rule;" (.ref w_ISBN_CHECK_DIGIT)) (f_12 : Sta Z Z.heap "com/example/deposita/deposita/core/Rule" "DOI_SYNTAX" "Lcom/example/deposita/deposita/core/Rule;" (.ref w_DOI_SYNTAX)) (f_13 : Sta Z Z.heap "com/example/deposita/deposita/core/Rule" "CODE" "Lcom/example/deposita/deposita/core/Rule;" (.ref w_CODE)) (f_14 : Sta Z Z.heap "java/lang/String" "COMPACT_STRINGS" "Z" (.int w_COMPACT_STRINGS)) :
    MetFree l x (head1 (Jvm.Cond.code x code maxLocals ret :: ws) room_1) (fun a U => a = #[(.int p0), (.int p1), (.int p2), (.int p3)] ∧ Z.Warmed39 U.vm ∧ U.heap = h0) (fun _ _ _ _ _ => True) (fun _ U o U' => ∃ v L, o = .returned v ∧ Q0r100 Z w_COMPACT_STRINGS w_DEFAULTCAPACITY_EMPTY_ELEMENTDATA k_w_DEFAULTCAPACITY_EMPTY_ELEMENTDATA w_EMPTY_LIST p0 p1 p2 p3 w_NO_DOI w_ISBN_CHECK_DIGIT w_DOI_SYNTAX w_CODE h0 n0 v U'.heap L ∧ ReturnedEndW U o U' L room_1.cells room_1.slots) := by
  refine MetFree.of_bodySF (plainFor_of_name pn_com_example_deposita_deposita_formats_MappedIsRefusedPinLaw) hisR ?_
  intro p e s m args below meth c s₁ Bd hml0 hP hK
  obtain ⟨rfl, hZ, hh⟩ := hP
  have hx := Bd.exec
  have hby := Bd.bytes
  have hml : c.maxLocals = 12 := hml0
  have hown : s.vm.findClass "com/example/deposita/deposita/formats/MappedIsRefusedPinLaw" = some m.cls := findClass_of_methodNamed Bd.named
  have hnm := (name_of_methodNamed Bd.named Bd.method).1
  have X0 : Stand p l e room_1 (s.setVm s.vm) m #[(.int p0), (.int p1), (.int p2), (.int p3)] below meth c s₁ [] 0 0 := Stand.of_body Bd
  have e0 : s₁.heap = h0 := by rw [← hh, Bd.state]; rfl
  have hS0 : s.Since s.vm h0.size := (State.WarmedH.refl s).since _
  have hk0 : h0.size ≤ h0.size := Nat.le_refl _
  have hZ : Z.Warmed39 (s.setVm s.vm).vm := hZ
  have hown : (s.setVm s.vm).vm.findClass "com/example/deposita/deposita/formats/MappedIsRefusedPinLaw" = some m.cls := hown
  have N0 := Fr.nil n0
  have pre0 : ∀ t, Steps p.tables e below (s₁.setTop (mkF m 0 #[vI p0, vI p1, vI p2, vI p3, .unset, .unset, .unset, .unset, .unset, .unset, .unset, .unset] [])) t → Steps p.tables e below (s₁.setTop (entryFrame m #[(.int p0), (.int p1), (.int p2), (.int p3)] maxLocals)) t := fun t k => castTop (ef_0 m p0 p1 p2 p3) k
  obtain ⟨b4_15, b6_15_15, b24_15, b37_15, b4_8_10_46_15, b49_15, k24_15, k4_8_10_46_15, w_12_15, T15, L15, vm15, kk15, X15, N15, hS15, hk15, hZ15, hown15, K15, g15_0, g15_1, g15_2, g15_3, g15_4, g15_5, g15_6, g15_7, g15_8, g15_9, g15_10, g15_11, g15_12, g15_13, g15_14, g15_15, g15_16, g15_17, g15_18, g15_19, g15_20, g15_21, g15_22, g15_23, g15_24, g15_25, g15_26, g15_27, g15_28, st15⟩ := rm0seg l Z A0 hw w_COMPACT_STRINGS w_DEFAULTCAPACITY_EMPTY_ELEMENTDATA k_w_DEFAULTCAPACITY_EMPTY_ELEMENTDATA w_EMPTY_LIST (1 : Int32) (0 : Int32) (0 : Int32) p0 p1 p2 p3 w_NO_DOI w_ISBN_CHECK_DIGIT w_DOI_SYNTAX w_CODE h0 n0 OLD c_1 f_2 f_3 f_10 f_11 f_12 f_13 f_14 X0 hx hZ hby hml hown hh e0
  have K_16 : Keep h0 T15.heap [] := Keep.trans (Keep.refl h0 []) K15 all0
  obtain ⟨T17, h17, X17, e17, E17, A17, D17, M17, st17⟩ := newO X15 hx hZ15 hown15 (hw _ (List.mem_of_getElem? (i := 130) rfl)) (hw _ (List.mem_of_getElem? (i := 131) rfl)) (hw _ (List.mem_of_getElem? (i := 132) rfl)) rfl (g := (mkF m 147 #[vI p0, vI p1, vI p2, vI p3, vI (1 : Int32), vI (0 : Int32), vI (0 : Int32), vR b4_15, vR b24_15, vR b37_15, vR b49_15, .unset] [])) rfl (hb hby at_147) (by decide) (by decide)
  obtain ⟨b17, g17⟩ : ∃ z, z = T15.heap.size := ⟨_, rfl⟩
  rw [← g17] at A17 D17 M17 st17
  have K_18 : Keep h0 h17 [] := K_16.ext E17
  have f_19 : Fld Z h17 b17 "com/example/deposita/deposita/formats/Mapped" "recordId" "Ljava/lang/String;" .null := (D17 (Or.inr (hw _ (List.mem_of_getElem? (i := 223) rfl))) (ty := (.object "java/lang/String")) (by decide))
  have f_20 : Fld Z h17 b17 "com/example/deposita/deposita/formats/Mapped" "product" "Lcom/example/deposita/deposita/core/Product;" .null := (D17 (Or.inr (hw _ (List.mem_of_getElem? (i := 225) rfl))) (ty := (.object "com/example/deposita/deposita/core/Product")) (by decide))
  have f_21 : Fld Z h17 b17 "com/example/deposita/deposita/formats/Mapped" "warnings" "Ljava/util/List;" .null := (D17 (Or.inr (hw _ (List.mem_of_getElem? (i := 227) rfl))) (ty := (.object "java/util/List")) (by decide))
  have f_22 : Fld Z h17 b17 "com/example/deposita/deposita/formats/Mapped" "refusal" "Lcom/example/deposita/deposita/core/Finding;" .null := (D17 (Or.inr (hw _ (List.mem_of_getElem? (i := 229) rfl))) (ty := (.object "com/example/deposita/deposita/core/Finding")) (by decide))
  have f_23 := g15_15.ext E17
  have f_24 := g15_18.ext E17
  have O_25 := Old.keep OLD K15 all0
  have ge_26 : n0 ≤ b17 := own_ge O_25 (Nat.le_of_eq g17.symm)
  have O_28 := Old.ext O_25 E17
  obtain ⟨_, _, ⟨T27, L27, k27, n27⟩, -, X27, ⟨Lc27, hQ27, l27, y27, z27⟩, st27⟩ := X17.specialBack hx (y := (⟨"com/example/deposita/deposita/formats/Mapped", "<init>", "(Ljava/lang/String;Lcom/example/deposita/deposita/core/Product;Ljava/util/List;Lcom/example/deposita/deposita/core/Finding;)V"⟩ : MethodName)) rfl hown15 (mvT hZ15 (hw _ (List.mem_of_getElem? (i := 133) rfl))) (mvT hZ15 (hw _ (List.mem_of_getElem? (i := 134) rfl))) (mvT hZ15 (hw _ (List.mem_of_getElem? (i := 135) rfl))) (by decide) (backOf (W := 1) (rm23e1 l Z A0 hw [] b17 b37_15 b49_15 b4_15 .null .null .null .null w_EMPTY_LIST h17 n0 O_28 f_23 f_24 A17 f_19 f_20 f_21 f_22 f_4 ge_26) hZ15 (hw _ (List.mem_of_getElem? (i := 135) rfl)) (hw _ (List.mem_of_getElem? (i := 132) rfl)) (by decide) (by decide)) (g := (mkF m 158 #[vI p0, vI p1, vI p2, vI p3, vI (1 : Int32), vI (0 : Int32), vI (0 : Int32), vR b4_15, vR b24_15, vR b37_15, vR b49_15, .unset] [(.ref b4_15), (.ref b49_15), .null, (.ref b37_15), (.ref b17), (.ref b17)])) rfl (by rw [hml]; rfl) (Steps.refl _) (a := b17) (argsL := [(.ref b37_15), .null, (.ref b49_15), (.ref b4_15)]) (rest := [(.ref b17)]) (lenOf pd_21 rfl) rfl (by show 2 * 0 + _ ≤ _; exact Nat.le_of_eq rfl) (hb hby at_158) (fun _ _ => ⟨rfl, e17, (by decide : 12 + 0 ≤ _), (by decide : 66 + 0 ≤ _)⟩)
  dsimp only [Pt.U, Pt.locs, Pt.cells, Pt.slots] at X27 l27 y27 z27 st27 hQ27
  subst l27 y27 z27
  obtain ⟨rfl, N27q, K27, g27_0, g27_1, g27_2, g27_3, g27_4⟩ := hQ27
  have N27 := Fr.app N15 N27q
  have K_29 : Keep h0 T27.heap [] := Keep.trans K_18 K27 (allS (Or.inr (Nat.le_trans K_16.1 (Nat.le_of_eq g17.symm))) all0)
  have O_31 := Old.keep O_28 K27 (allS ge_26 all0)
  obtain ⟨cq30, kq30, q30a, q30b, q30c⟩ := isOf hZ15 rfl g27_0
  obtain ⟨_, _, ⟨T30, L30, k30, n30⟩, -, X30, ⟨Lc30, hQ30, l30, y30, z30⟩, st30⟩ := X27.virtualBack hx (y := (⟨"com/example/deposita/deposita/formats/Mapped", "isRefused", "()Z"⟩ : MethodName)) (z := (⟨"com/example/deposita/deposita/formats/Mapped", "isRefused", "()Z"⟩ : MethodName)) hown15 (mvT hZ15 (hw _ (List.mem_of_getElem? (i := 230) rfl))) (mvT hZ15 (hw _ (List.mem_of_getElem? (i := 231) rfl))) (notFace_of_selects (args := #[]) (mvT hZ15 (hw _ (List.mem_of_getElem? (i := 233) rfl)))) (mvT hZ15 (hw _ (List.mem_of_getElem? (i := 233) rfl))) (mvT hZ15 (hw _ (List.mem_of_getElem? (i := 232) rfl))) (by decide) (backOf (W := 0) (rm36r1 l Z A0 hw [] b17 b4_15 T27.heap n0 O_31 g27_4) hZ15 (hw _ (List.mem_of_getElem? (i := 234) rfl)) (hw _ (List.mem_of_getElem? (i := 132) rfl)) (by decide) (by decide)) q30a q30c (g := (mkF m 201 #[vI p0, vI p1, vI p2, vI p3, vI (1 : Int32), vI (0 : Int32), vI (0 : Int32), vR b4_15, vR b24_15, vR b37_15, vR b49_15, vR b17] [(.ref b17)])) rfl (by rw [hml]; rfl) (Steps.refl _) (argsL := []) (rest := []) (lenOf pd_17 rfl) rfl (by show 2 * 0 + _ ≤ _; exact Nat.le_of_eq rfl) (hb hby at_201) (fun _ _ => ⟨rfl, rfl, (by decide : 12 + 0 ≤ _), (by decide : 66 + 0 ≤ _)⟩)
  dsimp only [Pt.U, Pt.locs, Pt.cells, Pt.slots] at X30 l30 y30 z30 st30 hQ30
  subst l30 y30 z30
  obtain ⟨rfl, N30q, e30⟩ := hQ30
  have N30 := Fr.app N27 N30q
  obtain ⟨fs, hr, hrun, hended, hRW⟩ := X30.leaveW (s := s) hS15 (by rw [e30]; exact (Nat.le_trans (Nat.le_trans hk15 E17.1) K27.1)) (v := some (.int (1 : Int32))) (fun h => by rw [Bd.returns] at h; cases h)
  refine ⟨_, _, pre0 _ ?_, hrun, hended, _, _, rfl, ?_, hRW.1, hRW.2.1, hRW.2.2.1, hRW.2.2.2.mono (by decide) (by decide)⟩
  · show Steps p.tables e below (s₁.setTop (mkF m 0 #[vI p0, vI p1, vI p2, vI p3, .unset, .unset, .unset, .unset, .unset, .unset, .unset, .unset] [])) _
    refine XS.iloadN X0.here hx rfl (hb hby at_0) rfl ?_
    refine XS.iconst X0.here hx rfl (hb hby at_1) ?_
    show Steps p.tables e below (s₁.setTop (mkF m 2 #[vI p0, vI p1, vI p2, vI p3, .unset, .unset, .unset, .unset, .unset, .unset, .unset, .unset] [(.int (1 : Int32)), (.int p0)])) _
    refine XS.iand X0.here hx rfl (hb hby at_2) rfl ?_
    refine XS.ifNo X0.here hx rfl (hb hby at_3) rfl ((if0 _ _).trans (feq c_7).1) ?_
    show Steps p.tables e below (s₁.setTop (mkF m 6 #[vI p0, vI p1, vI p2, vI p3, .unset, .unset, .unset, .unset, .unset, .unset, .unset, .unset] [])) _
    refine XS.iconst X0.here hx rfl (hb hby at_6) ?_
    refine XS.goto X0.here hx rfl (pc0 := 7) (pc' := 11) rfl (hb hby at_7) (by decide) (by decide) ?_
    show Steps p.tables e below (s₁.setTop (mkF m 11 #[vI p0, vI p1, vI p2, vI p3, .unset, .unset, .unset, .unset, .unset, .unset, .unset, .unset] [(.int (1 : Int32))])) _
    refine XS.istore X0.here hx rfl (hb hby at_11) rfl (l' := #[vI p0, vI p1, vI p2, vI p3, vI (1 : Int32), .unset, .unset, .unset, .unset, .unset, .unset, .unset]) rfl ?_
    refine XS.iloadN X0.here hx rfl (hb hby at_13) rfl ?_
    show Steps p.tables e below (s₁.setTop (mkF m 14 #[vI p0, vI p1, vI p2, vI p3, vI (1 : Int32), .unset, .unset, .unset, .unset, .unset, .unset, .unset] [(.int p0)])) _
    refine XS.iconst X0.here hx rfl (hb hby at_14) ?_
    refine XS.iand X0.here hx rfl (hb hby at_15) rfl ?_
    show Steps p.tables e below (s₁.setTop (mkF m 16 #[vI p0, vI p1, vI p2, vI p3, vI (1 : Int32), .unset, .unset, .unset, .unset, .unset, .unset, .unset] [(.int (p0 &&& (2 : Int32)))])) _
    refine XS.ifYes X0.here hx rfl (pc0 := 16) (pc' := 23) rfl (hb hby at_16) rfl ((if0 _ _).trans (teq c_8).1) (by decide) (by decide) ?_
    refine XS.iconst X0.here hx rfl (hb hby at_23) ?_
    show Steps p.tables e below (s₁.setTop (mkF m 24 #[vI p0, vI p1, vI p2, vI p3, vI (1 : Int32), .unset, .unset, .unset, .unset, .unset, .unset, .unset] [(.int (0 : Int32))])) _
    refine XS.istore X0.here hx rfl (hb hby at_24) rfl (l' := #[vI p0, vI p1, vI p2, vI p3, vI (1 : Int32), vI (0 : Int32), .unset, .unset, .unset, .unset, .unset, .unset]) rfl ?_
    refine XS.iloadN X0.here hx rfl (hb hby at_26) rfl ?_
    show Steps p.tables e below (s₁.setTop (mkF m 27 #[vI p0, vI p1, vI p2, vI p3, vI (1 : Int32), vI (0 : Int32), .unset, .unset, .unset, .unset, .unset, .unset] [(.int p3)])) _
    refine XS.iconst X0.here hx rfl (hb hby at_27) ?_
    refine XS.iand X0.here hx rfl (hb hby at_28) rfl ?_
    show Steps p.tables e below (s₁.setTop (mkF m 29 #[vI p0, vI p1, vI p2, vI p3, vI (1 : Int32), vI (0 : Int32), .unset, .unset, .unset, .unset, .unset, .unset] [(.int (p3 &&& (1 : Int32)))])) _
    refine XS.ifYes X0.here hx rfl (pc0 := 29) (pc' := 36) rfl (hb hby at_29) rfl ((if0 _ _).trans (teq c_9).1) (by decide) (by decide) ?_
    refine XS.iconst X0.here hx rfl (hb hby at_36) ?_
    show Steps p.tables e below (s₁.setTop (mkF m 37 #[vI p0, vI p1, vI p2, vI p3, vI (1 : Int32), vI (0 : Int32), .unset, .unset, .unset, .unset, .unset, .unset] [(.int (0 : Int32))])) _
    refine XS.istore X0.here hx rfl (hb hby at_37) rfl (l' := #[vI p0, vI p1, vI p2, vI p3, vI (1 : Int32), vI (0 : Int32), vI (0 : Int32), .unset, .unset, .unset, .unset, .unset]) rfl ?_
    show Steps p.tables e below (s₁.setTop (mkF m 39 #[vI p0, vI p1, vI p2, vI p3, vI (1 : Int32), vI (0 : Int32), vI (0 : Int32), .unset, .unset, .unset, .unset, .unset] [])) _
    refine st15 _ ?_
    refine XS.iload X15.here hx rfl (hb hby at_112) rfl ?_
    show Steps p.tables e below (T15.setTop (mkF m 114 #[vI p0, vI p1, vI p2, vI p3, vI (1 : Int32), vI (0 : Int32), vI (0 : Int32), vR b4_15, vR b24_15, vR b37_15, vR b49_15, .unset] [(.int (0 : Int32))])) _
    refine XS.ifYes X15.here hx rfl (pc0 := 114) (pc' := 125) rfl (hb hby at_114) rfl ((if0 _ _).trans (teq (by decide : (0 : Int32) = (0 : Int32))).1) (by decide) (by decide) ?_
    refine XS.iload X15.here hx rfl (hb hby at_125) rfl ?_
    show Steps p.tables e below (T15.setTop (mkF m 127 #[vI p0, vI p1, vI p2, vI p3, vI (1 : Int32), vI (0 : Int32), vI (0 : Int32), vR b4_15, vR b24_15, vR b37_15, vR b49_15, .unset] [(.int (1 : Int32))])) _
    refine XS.ifNo X15.here hx rfl (hb hby at_127) rfl ((if0 _ _).trans (feq (by decide : ¬ ((1 : Int32) = (0 : Int32)))).1) ?_
    refine XS.iload X15.here hx rfl (hb hby at_130) rfl ?_
    show Steps p.tables e below (T15.setTop (mkF m 132 #[vI p0, vI p1, vI p2, vI p3, vI (1 : Int32), vI (0 : Int32), vI (0 : Int32), vR b4_15, vR b24_15, vR b37_15, vR b49_15, .unset] [(.int (0 : Int32))])) _
    refine XS.ifYes X15.here hx rfl (pc0 := 132) (pc' := 147) rfl (hb hby at_132) rfl ((if0 _ _).trans (teq (by decide : (0 : Int32) = (0 : Int32))).1) (by decide) (by decide) ?_
    refine st17 _ ?_
    show Steps p.tables e below (T17.setTop (mkF m 150 #[vI p0, vI p1, vI p2, vI p3, vI (1 : Int32), vI (0 : Int32), vI (0 : Int32), vR b4_15, vR b24_15, vR b37_15, vR b49_15, .unset] [(.ref b17)])) _
    refine XS.dup X17.here hx rfl (hb hby at_150) rfl rfl ?_
    refine XS.aload X17.here hx rfl (hb hby at_151) rfl rfl ?_
    show Steps p.tables e below (T17.setTop (mkF m 153 #[vI p0, vI p1, vI p2, vI p3, vI (1 : Int32), vI (0 : Int32), vI (0 : Int32), vR b4_15, vR b24_15, vR b37_15, vR b49_15, .unset] [(.ref b37_15), (.ref b17), (.ref b17)])) _
    refine XS.aconstNull X17.here hx rfl (hb hby at_153) ?_
    refine XS.aload X17.here hx rfl (hb hby at_154) rfl rfl ?_
    show Steps p.tables e below (T17.setTop (mkF m 156 #[vI p0, vI p1, vI p2, vI p3, vI (1 : Int32), vI (0 : Int32), vI (0 : Int32), vR b4_15, vR b24_15, vR b37_15, vR b49_15, .unset] [(.ref b49_15), .null, (.ref b37_15), (.ref b17), (.ref b17)])) _
    refine XS.aload X17.here hx rfl (hb hby at_156) rfl rfl ?_
    refine st27.trans ?_
    show Steps p.tables e below (T27.setTop (mkF m 161 #[vI p0, vI p1, vI p2, vI p3, vI (1 : Int32), vI (0 : Int32), vI (0 : Int32), vR b4_15, vR b24_15, vR b37_15, vR b49_15, .unset] [(.ref b17)])) _
    refine XS.astore X27.here hx rfl (hb hby at_161) rfl rfl (l' := #[vI p0, vI p1, vI p2, vI p3, vI (1 : Int32), vI (0 : Int32), vI (0 : Int32), vR b4_15, vR b24_15, vR b37_15, vR b49_15, vR b17]) rfl ?_
    refine XS.goto X27.here hx rfl (pc0 := 163) (pc' := 199) rfl (hb hby at_163) (by decide) (by decide) ?_
    show Steps p.tables e below (T27.setTop (mkF m 199 #[vI p0, vI p1, vI p2, vI p3, vI (1 : Int32), vI (0 : Int32), vI (0 : Int32), vR b4_15, vR b24_15, vR b37_15, vR b49_15, vR b17] [])) _
    refine XS.aload X27.here hx rfl (hb hby at_199) rfl rfl ?_
    refine st30.trans ?_
    show Steps p.tables e below (T30.setTop (mkF m 204 #[vI p0, vI p1, vI p2, vI p3, vI (1 : Int32), vI (0 : Int32), vI (0 : Int32), vR b4_15, vR b24_15, vR b37_15, vR b49_15, vR b17] [(.int (1 : Int32))])) _
    refine XS.iload X30.here hx rfl (hb hby at_204) rfl ?_
    refine XS.icmpNo X30.here hx rfl (hb hby at_206) rfl (teq (by decide : (1 : Int32) = (1 : Int32))).2 ?_
    show Steps p.tables e below (T30.setTop (mkF m 209 #[vI p0, vI p1, vI p2, vI p3, vI (1 : Int32), vI (0 : Int32), vI (0 : Int32), vR b4_15, vR b24_15, vR b37_15, vR b49_15, vR b17] [])) _
    refine XS.iconst X30.here hx rfl (hb hby at_209) ?_
    refine XS.goto X30.here hx rfl (pc0 := 210) (pc' := 214) rfl (hb hby at_210) (by decide) (by decide) ?_
    show Steps p.tables e below (T30.setTop (mkF m 214 #[vI p0, vI p1, vI p2, vI p3, vI (1 : Int32), vI (0 : Int32), vI (0 : Int32), vR b4_15, vR b24_15, vR b37_15, vR b49_15, vR b17] [(.int (1 : Int32))])) _
    exact retN X30 hx (t := .boolean) Bd.returns (by simp) (hb hby at_214) hr
  · show Q0r100 Z w_COMPACT_STRINGS w_DEFAULTCAPACITY_EMPTY_ELEMENTDATA k_w_DEFAULTCAPACITY_EMPTY_ELEMENTDATA w_EMPTY_LIST p0 p1 p2 p3 w_NO_DOI w_ISBN_CHECK_DIGIT w_DOI_SYNTAX w_CODE h0 n0 _ T30.heap _
    exact ⟨rfl, N30⟩
def Q0r101 (Z : State) (w_COMPACT_STRINGS : Int32) (w_DEFAULTCAPACITY_EMPTY_ELEMENTDATA : Addr) (k_w_DEFAULTCAPACITY_EMPTY_ELEMENTDATA : ClassId) (w_EMPTY_LIST : Addr) (p0 : Int32) (p1 : Int32) (p2 : Int32) (p3 : Int32) (w_NO_DOI : Addr) (w_ISBN_CHECK_DIGIT : Addr) (w_DOI_SYNTAX : Addr) (w_CODE : Addr) (w_mir__Ljava_lang_Object_ : Addr) (w_EMPTY : Addr) (h0 : Heap) (n0 : Nat) (v : Option Value) (h : Heap) (L : List Loc) : Prop := v = some (.int (1 : Int32)) ∧ Fr n0 L
set_option maxRecDepth 65536 in
set_option maxHeartbeats 40000000 in
theorem rm0r101 (l : Launch) (Z : State) (A0 : Array Value) (hw : ∀ d ∈ tables_1, d.before A0 Z = true) (ws : List Jvm.Cond) (w_COMPACT_STRINGS : Int32) (w_DEFAULTCAPACITY_EMPTY_ELEMENTDATA : Addr) (k_w_DEFAULTCAPACITY_EMPTY_ELEMENTDATA : ClassId) (w_EMPTY_LIST : Addr) (p0 : Int32) (p1 : Int32) (p2 : Int32) (p3 : Int32) (w_NO_DOI : Addr) (w_ISBN_CHECK_DIGIT : Addr) (w_DOI_SYNTAX : Addr) (w_CODE : Addr) (w_mir__Ljava_lang_Object_ : Addr) (w_EMPTY : Addr) (h0 : Heap) (n0 : Nat) (OLD : Old Z n0 h0) (c_1 : ¬ (w_COMPACT_STRINGS = (0 : Int32))) (f_2 : Sta Z Z.heap "java/util/ArrayList" "DEFAULTCAPACITY_EMPTY_ELEMENTDATA" "[Ljava/lang/Object;" (.ref w_DEFAULTCAPACITY_EMPTY_ELEMENTDATA)) (f_3 : Arv Z Z.heap w_DEFAULTCAPACITY_EMPTY_ELEMENTDATA k_w_DEFAULTCAPACITY_EMPTY_ELEMENTDATA (.object "java/lang/Object") (0 : Int32) [] .null) (f_4 : Sta Z Z.heap "java/util/ImmutableCollections" "EMPTY_LIST" "Ljava/util/ImmutableCollections$ListN;" (.ref w_EMPTY_LIST)) (f_5 : Exa Z Z.heap w_EMPTY_LIST "java/util/ImmutableCollections$ListN") (f_6 : Fld Z Z.heap w_EMPTY_LIST "java/util/ImmutableCollections$ListN" "allowNulls" "Z" (.int (0 : Int32))) (c_7 : ¬ ((p0 &&& (1 : Int32)) = (0 : Int32))) (c_8 : (p0 &&& (2 : Int32)) = (0 : Int32)) (c_9 : ¬ ((p3 &&& (1 : Int32)) = (0 : Int32))) (f_10 : Sta Z Z.heap "com/example/deposita/deposita/core/Rule" "NO_DOI" "Lcom/example/deposita/deposita/core/Rule;" (.ref w_NO_DOI)) (f_11 : Sta Z Z.heap "com/example/deposita/deposita/core/Rule" "ISBN_CHECK_DIGIT" "Lcom/example/deposita/deposita/core/Rule;" (.ref w_ISBN_CHECK_DIGIT)) (f_12 : Sta Z Z.heap "com/example/deposita/deposita/core/Rule" "DOI_SYNTAX" "Lcom/example/deposita/deposita/core/Rule;" (.ref w_DOI_SYNTAX)) (f_13 : Sta Z Z.heap "com/example/deposita/deposita/core/Rule" "CODE" "Lcom/example/deposita/deposita/core/Rule;" (.ref w_CODE)) (f_14 : Sta Z Z.heap "java/lang/String" "COMPACT_STRINGS" "Z" (.int w_COMPACT_STRINGS)) (c_34 : own_Mir Z "[Ljava/lang/Object;" w_mir__Ljava_lang_Object_) (f_35 : Sta Z Z.heap "java/util/ImmutableCollections" "EMPTY" "Ljava/lang/Object;" (.ref w_EMPTY)) :
    MetFree l x (head1 (Jvm.Cond.code x code maxLocals ret :: ws) room_1) (fun a U => a = #[(.int p0), (.int p1), (.int p2), (.int p3)] ∧ Z.Warmed39 U.vm ∧ U.heap = h0) (fun _ _ _ _ _ => True) (fun _ U o U' => ∃ v L, o = .returned v ∧ Q0r101 Z w_COMPACT_STRINGS w_DEFAULTCAPACITY_EMPTY_ELEMENTDATA k_w_DEFAULTCAPACITY_EMPTY_ELEMENTDATA w_EMPTY_LIST p0 p1 p2 p3 w_NO_DOI w_ISBN_CHECK_DIGIT w_DOI_SYNTAX w_CODE w_mir__Ljava_lang_Object_ w_EMPTY h0 n0 v U'.heap L ∧ ReturnedEndW U o U' L room_1.cells room_1.slots) := by
  refine MetFree.of_bodySF (plainFor_of_name pn_com_example_deposita_deposita_formats_MappedIsRefusedPinLaw) hisR ?_
  intro p e s m args below meth c s₁ Bd hml0 hP hK
  obtain ⟨rfl, hZ, hh⟩ := hP
  have hx := Bd.exec
  have hby := Bd.bytes
  have hml : c.maxLocals = 12 := hml0
  have hown : s.vm.findClass "com/example/deposita/deposita/formats/MappedIsRefusedPinLaw" = some m.cls := findClass_of_methodNamed Bd.named
  have hnm := (name_of_methodNamed Bd.named Bd.method).1
  have X0 : Stand p l e room_1 (s.setVm s.vm) m #[(.int p0), (.int p1), (.int p2), (.int p3)] below meth c s₁ [] 0 0 := Stand.of_body Bd
  have e0 : s₁.heap = h0 := by rw [← hh, Bd.state]; rfl
  have hS0 : s.Since s.vm h0.size := (State.WarmedH.refl s).since _
  have hk0 : h0.size ≤ h0.size := Nat.le_refl _
  have hZ : Z.Warmed39 (s.setVm s.vm).vm := hZ
  have hown : (s.setVm s.vm).vm.findClass "com/example/deposita/deposita/formats/MappedIsRefusedPinLaw" = some m.cls := hown
  have N0 := Fr.nil n0
  have pre0 : ∀ t, Steps p.tables e below (s₁.setTop (mkF m 0 #[vI p0, vI p1, vI p2, vI p3, .unset, .unset, .unset, .unset, .unset, .unset, .unset, .unset] [])) t → Steps p.tables e below (s₁.setTop (entryFrame m #[(.int p0), (.int p1), (.int p2), (.int p3)] maxLocals)) t := fun t k => castTop (ef_0 m p0 p1 p2 p3) k
  obtain ⟨b4_15, b6_15_15, b24_15, b37_15, b4_8_10_46_15, b49_15, k24_15, k4_8_10_46_15, w_12_15, T15, L15, vm15, kk15, X15, N15, hS15, hk15, hZ15, hown15, K15, g15_0, g15_1, g15_2, g15_3, g15_4, g15_5, g15_6, g15_7, g15_8, g15_9, g15_10, g15_11, g15_12, g15_13, g15_14, g15_15, g15_16, g15_17, g15_18, g15_19, g15_20, g15_21, g15_22, g15_23, g15_24, g15_25, g15_26, g15_27, g15_28, st15⟩ := rm0seg l Z A0 hw w_COMPACT_STRINGS w_DEFAULTCAPACITY_EMPTY_ELEMENTDATA k_w_DEFAULTCAPACITY_EMPTY_ELEMENTDATA w_EMPTY_LIST (1 : Int32) (0 : Int32) (1 : Int32) p0 p1 p2 p3 w_NO_DOI w_ISBN_CHECK_DIGIT w_DOI_SYNTAX w_CODE h0 n0 OLD c_1 f_2 f_3 f_10 f_11 f_12 f_13 f_14 X0 hx hZ hby hml hown hh e0
  have K_16 : Keep h0 T15.heap [] := Keep.trans (Keep.refl h0 []) K15 all0
  have ge_17 : n0 ≤ b49_15 := own_ge OLD g15_5
  have O_19 := Old.keep OLD K15 all0
  obtain ⟨cq18, kq18, q18a, q18b, q18c⟩ := isOf hZ15 rfl g15_15
  obtain ⟨_, _, ⟨T18, L18, k18, n18⟩, -, X18, ⟨Lc18, hQ18, l18, y18, z18⟩, st18⟩ := X15.virtualBack hx (y := (⟨"java/util/ArrayList", "add", "(Ljava/lang/Object;)Z"⟩ : MethodName)) (z := (⟨"java/util/ArrayList", "add", "(Ljava/lang/Object;)Z"⟩ : MethodName)) hown15 (mvT hZ15 (hw _ (List.mem_of_getElem? (i := 99) rfl))) (mvT hZ15 (hw _ (List.mem_of_getElem? (i := 100) rfl))) (notFace_of_selects (args := #[]) (mvT hZ15 (hw _ (List.mem_of_getElem? (i := 102) rfl)))) (mvT hZ15 (hw _ (List.mem_of_getElem? (i := 102) rfl))) (mvT hZ15 (hw _ (List.mem_of_getElem? (i := 101) rfl))) (by decide) (backOf (W := 0) (rm18 l Z A0 hw [] w_DEFAULTCAPACITY_EMPTY_ELEMENTDATA k_w_DEFAULTCAPACITY_EMPTY_ELEMENTDATA b49_15 b4_15 T15.heap n0 O_19 g15_15 f_2 g15_17 f_3 g15_6 g15_18 g15_16 ge_17) hZ15 (hw _ (List.mem_of_getElem? (i := 103) rfl)) (hw _ (List.mem_of_getElem? (i := 77) rfl)) (by decide) (by decide)) q18a q18c (g := (mkF m 121 #[vI p0, vI p1, vI p2, vI p3, vI (1 : Int32), vI (0 : Int32), vI (1 : Int32), vR b4_15, vR b24_15, vR b37_15, vR b49_15, .unset] [(.ref b4_15), (.ref b49_15)])) rfl (by rw [hml]; rfl) (Steps.refl _) (argsL := [(.ref b4_15)]) (rest := []) (lenOf pd_26 rfl) rfl (by show 2 * 0 + _ ≤ _; exact Nat.le_of_eq rfl) (hb hby at_121) (fun _ _ => ⟨rfl, rfl, (by decide : 11 + 1 ≤ _), (by decide : 62 + 10 ≤ _)⟩)
  dsimp only [Pt.U, Pt.locs, Pt.cells, Pt.slots] at X18 l18 y18 z18 st18 hQ18
  subst l18 y18 z18
  obtain ⟨b12_8_9_18_18, k12_8_9_18_18, rfl, N18q, K18, g18_0, g18_1, g18_2, g18_3, g18_4, g18_5, g18_6, g18_7⟩ := hQ18
  have N18 := Fr.app N15 N18q
  have K_20 : Keep h0 T18.heap [] := Keep.trans K_16 K18 (allS (Or.inr (Nat.le_trans (Keep.refl h0 []).1 g15_5)) all0)
  obtain ⟨T21, h21, X21, e21, E21, A21, D21, M21, st21⟩ := newO X18 hx hZ15 hown15 (hw _ (List.mem_of_getElem? (i := 130) rfl)) (hw _ (List.mem_of_getElem? (i := 131) rfl)) (hw _ (List.mem_of_getElem? (i := 132) rfl)) rfl (g := (mkF m 147 #[vI p0, vI p1, vI p2, vI p3, vI (1 : Int32), vI (0 : Int32), vI (1 : Int32), vR b4_15, vR b24_15, vR b37_15, vR b49_15, .unset] [])) rfl (hb hby at_147) (by decide) (by decide)
  obtain ⟨b21, g21⟩ : ∃ z, z = T18.heap.size := ⟨_, rfl⟩
  rw [← g21] at A21 D21 M21 st21
  have K_22 : Keep h0 h21 [] := K_20.ext E21
  have f_23 : Fld Z h21 b21 "com/example/deposita/deposita/formats/Mapped" "recordId" "Ljava/lang/String;" .null := (D21 (Or.inr (hw _ (List.mem_of_getElem? (i := 223) rfl))) (ty := (.object "java/lang/String")) (by decide))
  have f_24 : Fld Z h21 b21 "com/example/deposita/deposita/formats/Mapped" "product" "Lcom/example/deposita/deposita/core/Product;" .null := (D21 (Or.inr (hw _ (List.mem_of_getElem? (i := 225) rfl))) (ty := (.object "com/example/deposita/deposita/core/Product")) (by decide))
  have f_25 : Fld Z h21 b21 "com/example/deposita/deposita/formats/Mapped" "warnings" "Ljava/util/List;" .null := (D21 (Or.inr (hw _ (List.mem_of_getElem? (i := 227) rfl))) (ty := (.object "java/util/List")) (by decide))
  have f_26 : Fld Z h21 b21 "com/example/deposita/deposita/formats/Mapped" "refusal" "Lcom/example/deposita/deposita/core/Finding;" .null := (D21 (Or.inr (hw _ (List.mem_of_getElem? (i := 229) rfl))) (ty := (.object "com/example/deposita/deposita/core/Finding")) (by decide))
  have f_27 := g18_3.ext E21
  have f_28 := g18_4.ext E21
  have f_29 := g18_5.ext E21
  have f_30 := g18_2.ext E21
  have f_31 := g18_1.ext E21
  have f_32 := g15_6.keep K18
  have f_33 := f_32.ext E21
  have O_36 := Old.keep O_19 K18 (allS ge_17 all0)
  have ge_37 : n0 ≤ b21 := own_ge O_36 (Nat.le_of_eq g21.symm)
  have O_39 := Old.ext O_36 E21
  obtain ⟨_, _, ⟨T38, L38, k38, n38⟩, -, X38, ⟨Lc38, hQ38, l38, y38, z38⟩, st38⟩ := X21.specialBack hx (y := (⟨"com/example/deposita/deposita/formats/Mapped", "<init>", "(Ljava/lang/String;Lcom/example/deposita/deposita/core/Product;Ljava/util/List;Lcom/example/deposita/deposita/core/Finding;)V"⟩ : MethodName)) rfl hown15 (mvT hZ15 (hw _ (List.mem_of_getElem? (i := 133) rfl))) (mvT hZ15 (hw _ (List.mem_of_getElem? (i := 134) rfl))) (mvT hZ15 (hw _ (List.mem_of_getElem? (i := 135) rfl))) (by decide) (backOf (W := 1) (rm23f1 l Z A0 hw [] b4_15 k12_8_9_18_18 b12_8_9_18_18 b21 b37_15 b49_15 b4_15 .null .null .null .null w_mir__Ljava_lang_Object_ w_EMPTY h21 n0 O_39 f_27 f_28 f_29 f_30 f_31 f_33 A21 f_23 f_24 f_25 f_26 c_34 f_35 ge_37) hZ15 (hw _ (List.mem_of_getElem? (i := 135) rfl)) (hw _ (List.mem_of_getElem? (i := 132) rfl)) (by decide) (by decide)) (g := (mkF m 158 #[vI p0, vI p1, vI p2, vI p3, vI (1 : Int32), vI (0 : Int32), vI (1 : Int32), vR b4_15, vR b24_15, vR b37_15, vR b49_15, .unset] [(.ref b4_15), (.ref b49_15), .null, (.ref b37_15), (.ref b21), (.ref b21)])) rfl (by rw [hml]; rfl) (Steps.refl _) (a := b21) (argsL := [(.ref b37_15), .null, (.ref b49_15), (.ref b4_15)]) (rest := [(.ref b21)]) (lenOf pd_21 rfl) rfl (by show 2 * 0 + _ ≤ _; exact Nat.le_of_eq rfl) (hb hby at_158) (fun _ _ => ⟨rfl, e21, (by decide : 13 + 2 ≤ _), (by decide : 76 + 3 ≤ _)⟩)
  dsimp only [Pt.U, Pt.locs, Pt.cells, Pt.slots] at X38 l38 y38 z38 st38 hQ38
  subst l38 y38 z38
  obtain ⟨b3_14_9_15_38, rfl, N38q, K38, g38_0, g38_1, g38_2, g38_3, g38_4, g38_5, g38_6⟩ := hQ38
  have N38 := Fr.app N18 N38q
  have K_40 : Keep h0 T38.heap [] := Keep.trans K_22 K38 (allS (Or.inr (Nat.le_trans K_20.1 (Nat.le_of_eq g21.symm))) all0)
  have O_42 := Old.keep O_39 K38 (allS ge_37 all0)
  obtain ⟨cq41, kq41, q41a, q41b, q41c⟩ := isOf hZ15 rfl g38_2
  obtain ⟨_, _, ⟨T41, L41, k41, n41⟩, -, X41, ⟨Lc41, hQ41, l41, y41, z41⟩, st41⟩ := X38.virtualBack hx (y := (⟨"com/example/deposita/deposita/formats/Mapped", "isRefused", "()Z"⟩ : MethodName)) (z := (⟨"com/example/deposita/deposita/formats/Mapped", "isRefused", "()Z"⟩ : MethodName)) hown15 (mvT hZ15 (hw _ (List.mem_of_getElem? (i := 230) rfl))) (mvT hZ15 (hw _ (List.mem_of_getElem? (i := 231) rfl))) (notFace_of_selects (args := #[]) (mvT hZ15 (hw _ (List.mem_of_getElem? (i := 233) rfl)))) (mvT hZ15 (hw _ (List.mem_of_getElem? (i := 233) rfl))) (mvT hZ15 (hw _ (List.mem_of_getElem? (i := 232) rfl))) (by decide) (backOf (W := 0) (rm36r1 l Z A0 hw [] b21 b4_15 T38.heap n0 O_42 g38_6) hZ15 (hw _ (List.mem_of_getElem? (i := 234) rfl)) (hw _ (List.mem_of_getElem? (i := 132) rfl)) (by decide) (by decide)) q41a q41c (g := (mkF m 201 #[vI p0, vI p1, vI p2, vI p3, vI (1 : Int32), vI (0 : Int32), vI (1 : Int32), vR b4_15, vR b24_15, vR b37_15, vR b49_15, vR b21] [(.ref b21)])) rfl (by rw [hml]; rfl) (Steps.refl _) (argsL := []) (rest := []) (lenOf pd_17 rfl) rfl (by show 2 * 0 + _ ≤ _; exact Nat.le_of_eq rfl) (hb hby at_201) (fun _ _ => ⟨rfl, rfl, (by decide : 15 + 0 ≤ _), (by decide : 79 + 0 ≤ _)⟩)
  dsimp only [Pt.U, Pt.locs, Pt.cells, Pt.slots] at X41 l41 y41 z41 st41 hQ41
  subst l41 y41 z41
  obtain ⟨rfl, N41q, e41⟩ := hQ41
  have N41 := Fr.app N38 N41q
  obtain ⟨fs, hr, hrun, hended, hRW⟩ := X41.leaveW (s := s) hS15 (by rw [e41]; exact (Nat.le_trans (Nat.le_trans (Nat.le_trans hk15 K18.1) E21.1) K38.1)) (v := some (.int (1 : Int32))) (fun h => by rw [Bd.returns] at h; cases h)
  refine ⟨_, _, pre0 _ ?_, hrun, hended, _, _, rfl, ?_, hRW.1, hRW.2.1, hRW.2.2.1, hRW.2.2.2.mono (by decide) (by decide)⟩
  · show Steps p.tables e below (s₁.setTop (mkF m 0 #[vI p0, vI p1, vI p2, vI p3, .unset, .unset, .unset, .unset, .unset, .unset, .unset, .unset] [])) _
    refine XS.iloadN X0.here hx rfl (hb hby at_0) rfl ?_
    refine XS.iconst X0.here hx rfl (hb hby at_1) ?_
    show Steps p.tables e below (s₁.setTop (mkF m 2 #[vI p0, vI p1, vI p2, vI p3, .unset, .unset, .unset, .unset, .unset, .unset, .unset, .unset] [(.int (1 : Int32)), (.int p0)])) _
    refine XS.iand X0.here hx rfl (hb hby at_2) rfl ?_
    refine XS.ifNo X0.here hx rfl (hb hby at_3) rfl ((if0 _ _).trans (feq c_7).1) ?_
    show Steps p.tables e below (s₁.setTop (mkF m 6 #[vI p0, vI p1, vI p2, vI p3, .unset, .unset, .unset, .unset, .unset, .unset, .unset, .unset] [])) _
    refine XS.iconst X0.here hx rfl (hb hby at_6) ?_
    refine XS.goto X0.here hx rfl (pc0 := 7) (pc' := 11) rfl (hb hby at_7) (by decide) (by decide) ?_
    show Steps p.tables e below (s₁.setTop (mkF m 11 #[vI p0, vI p1, vI p2, vI p3, .unset, .unset, .unset, .unset, .unset, .unset, .unset, .unset] [(.int (1 : Int32))])) _
    refine XS.istore X0.here hx rfl (hb hby at_11) rfl (l' := #[vI p0, vI p1, vI p2, vI p3, vI (1 : Int32), .unset, .unset, .unset, .unset, .unset, .unset, .unset]) rfl ?_
    refine XS.iloadN X0.here hx rfl (hb hby at_13) rfl ?_
    show Steps p.tables e below (s₁.setTop (mkF m 14 #[vI p0, vI p1, vI p2, vI p3, vI (1 : Int32), .unset, .unset, .unset, .unset, .unset, .unset, .unset] [(.int p0)])) _
    refine XS.iconst X0.here hx rfl (hb hby at_14) ?_
    refine XS.iand X0.here hx rfl (hb hby at_15) rfl ?_
    show Steps p.tables e below (s₁.setTop (mkF m 16 #[vI p0, vI p1, vI p2, vI p3, vI (1 : Int32), .unset, .unset, .unset, .unset, .unset, .unset, .unset] [(.int (p0 &&& (2 : Int32)))])) _
    refine XS.ifYes X0.here hx rfl (pc0 := 16) (pc' := 23) rfl (hb hby at_16) rfl ((if0 _ _).trans (teq c_8).1) (by decide) (by decide) ?_
    refine XS.iconst X0.here hx rfl (hb hby at_23) ?_
    show Steps p.tables e below (s₁.setTop (mkF m 24 #[vI p0, vI p1, vI p2, vI p3, vI (1 : Int32), .unset, .unset, .unset, .unset, .unset, .unset, .unset] [(.int (0 : Int32))])) _
    refine XS.istore X0.here hx rfl (hb hby at_24) rfl (l' := #[vI p0, vI p1, vI p2, vI p3, vI (1 : Int32), vI (0 : Int32), .unset, .unset, .unset, .unset, .unset, .unset]) rfl ?_
    refine XS.iloadN X0.here hx rfl (hb hby at_26) rfl ?_
    show Steps p.tables e below (s₁.setTop (mkF m 27 #[vI p0, vI p1, vI p2, vI p3, vI (1 : Int32), vI (0 : Int32), .unset, .unset, .unset, .unset, .unset, .unset] [(.int p3)])) _
    refine XS.iconst X0.here hx rfl (hb hby at_27) ?_
    refine XS.iand X0.here hx rfl (hb hby at_28) rfl ?_
    show Steps p.tables e below (s₁.setTop (mkF m 29 #[vI p0, vI p1, vI p2, vI p3, vI (1 : Int32), vI (0 : Int32), .unset, .unset, .unset, .unset, .unset, .unset] [(.int (p3 &&& (1 : Int32)))])) _
    refine XS.ifNo X0.here hx rfl (hb hby at_29) rfl ((if0 _ _).trans (feq c_9).1) ?_
    refine XS.iconst X0.here hx rfl (hb hby at_32) ?_
    show Steps p.tables e below (s₁.setTop (mkF m 33 #[vI p0, vI p1, vI p2, vI p3, vI (1 : Int32), vI (0 : Int32), .unset, .unset, .unset, .unset, .unset, .unset] [(.int (1 : Int32))])) _
    refine XS.goto X0.here hx rfl (pc0 := 33) (pc' := 37) rfl (hb hby at_33) (by decide) (by decide) ?_
    refine XS.istore X0.here hx rfl (hb hby at_37) rfl (l' := #[vI p0, vI p1, vI p2, vI p3, vI (1 : Int32), vI (0 : Int32), vI (1 : Int32), .unset, .unset, .unset, .unset, .unset]) rfl ?_
    show Steps p.tables e below (s₁.setTop (mkF m 39 #[vI p0, vI p1, vI p2, vI p3, vI (1 : Int32), vI (0 : Int32), vI (1 : Int32), .unset, .unset, .unset, .unset, .unset] [])) _
    refine st15 _ ?_
    show Steps p.tables e below (T15.setTop (mkF m 112 #[vI p0, vI p1, vI p2, vI p3, vI (1 : Int32), vI (0 : Int32), vI (1 : Int32), vR b4_15, vR b24_15, vR b37_15, vR b49_15, .unset] [])) _
    refine XS.iload X15.here hx rfl (hb hby at_112) rfl ?_
    refine XS.ifNo X15.here hx rfl (hb hby at_114) rfl ((if0 _ _).trans (feq (by decide : ¬ ((1 : Int32) = (0 : Int32)))).1) ?_
    show Steps p.tables e below (T15.setTop (mkF m 117 #[vI p0, vI p1, vI p2, vI p3, vI (1 : Int32), vI (0 : Int32), vI (1 : Int32), vR b4_15, vR b24_15, vR b37_15, vR b49_15, .unset] [])) _
    refine XS.aload X15.here hx rfl (hb hby at_117) rfl rfl ?_
    refine XS.aload X15.here hx rfl (hb hby at_119) rfl rfl ?_
    show Steps p.tables e below (T15.setTop (mkF m 121 #[vI p0, vI p1, vI p2, vI p3, vI (1 : Int32), vI (0 : Int32), vI (1 : Int32), vR b4_15, vR b24_15, vR b37_15, vR b49_15, .unset] [(.ref b4_15), (.ref b49_15)])) _
    refine st18.trans ?_
    refine XS.pop X18.here hx rfl (hb hby at_124) rfl rfl ?_
    show Steps p.tables e below (T18.setTop (mkF m 125 #[vI p0, vI p1, vI p2, vI p3, vI (1 : Int32), vI (0 : Int32), vI (1 : Int32), vR b4_15, vR b24_15, vR b37_15, vR b49_15, .unset] [])) _
    refine XS.iload X18.here hx rfl (hb hby at_125) rfl ?_
    refine XS.ifNo X18.here hx rfl (hb hby at_127) rfl ((if0 _ _).trans (feq (by decide : ¬ ((1 : Int32) = (0 : Int32)))).1) ?_
    show Steps p.tables e below (T18.setTop (mkF m 130 #[vI p0, vI p1, vI p2, vI p3, vI (1 : Int32), vI (0 : Int32), vI (1 : Int32), vR b4_15, vR b24_15, vR b37_15, vR b49_15, .unset] [])) _
    refine XS.iload X18.here hx rfl (hb hby at_130) rfl ?_
    refine XS.ifYes X18.here hx rfl (pc0 := 132) (pc' := 147) rfl (hb hby at_132) rfl ((if0 _ _).trans (teq (by decide : (0 : Int32) = (0 : Int32))).1) (by decide) (by decide) ?_
    show Steps p.tables e below (T18.setTop (mkF m 147 #[vI p0, vI p1, vI p2, vI p3, vI (1 : Int32), vI (0 : Int32), vI (1 : Int32), vR b4_15, vR b24_15, vR b37_15, vR b49_15, .unset] [])) _
    refine st21 _ ?_
    refine XS.dup X21.here hx rfl (hb hby at_150) rfl rfl ?_
    show Steps p.tables e below (T21.setTop (mkF m 151 #[vI p0, vI p1, vI p2, vI p3, vI (1 : Int32), vI (0 : Int32), vI (1 : Int32), vR b4_15, vR b24_15, vR b37_15, vR b49_15, .unset] [(.ref b21), (.ref b21)])) _
    refine XS.aload X21.here hx rfl (hb hby at_151) rfl rfl ?_
    refine XS.aconstNull X21.here hx rfl (hb hby at_153) ?_
    show Steps p.tables e below (T21.setTop (mkF m 154 #[vI p0, vI p1, vI p2, vI p3, vI (1 : Int32), vI (0 : Int32), vI (1 : Int32), vR b4_15, vR b24_15, vR b37_15, vR b49_15, .unset] [.null, (.ref b37_15), (.ref b21), (.ref b21)])) _
    refine XS.aload X21.here hx rfl (hb hby at_154) rfl rfl ?_
    refine XS.aload X21.here hx rfl (hb hby at_156) rfl rfl ?_
    show Steps p.tables e below (T21.setTop (mkF m 158 #[vI p0, vI p1, vI p2, vI p3, vI (1 : Int32), vI (0 : Int32), vI (1 : Int32), vR b4_15, vR b24_15, vR b37_15, vR b49_15, .unset] [(.ref b4_15), (.ref b49_15), .null, (.ref b37_15), (.ref b21), (.ref b21)])) _
    refine st38.trans ?_
    refine XS.astore X38.here hx rfl (hb hby at_161) rfl rfl (l' := #[vI p0, vI p1, vI p2, vI p3, vI (1 : Int32), vI (0 : Int32), vI (1 : Int32), vR b4_15, vR b24_15, vR b37_15, vR b49_15, vR b21]) rfl ?_
    show Steps p.tables e below (T38.setTop (mkF m 163 #[vI p0, vI p1, vI p2, vI p3, vI (1 : Int32), vI (0 : Int32), vI (1 : Int32), vR b4_15, vR b24_15, vR b37_15, vR b49_15, vR b21] [])) _
    refine XS.goto X38.here hx rfl (pc0 := 163) (pc' := 199) rfl (hb hby at_163) (by decide) (by decide) ?_
    refine XS.aload X38.here hx rfl (hb hby at_199) rfl rfl ?_
    show Steps p.tables e below (T38.setTop (mkF m 201 #[vI p0, vI p1, vI p2, vI p3, vI (1 : Int32), vI (0 : Int32), vI (1 : Int32), vR b4_15, vR b24_15, vR b37_15, vR b49_15, vR b21] [(.ref b21)])) _
    refine st41.trans ?_
    refine XS.iload X41.here hx rfl (hb hby at_204) rfl ?_
    show Steps p.tables e below (T41.setTop (mkF m 206 #[vI p0, vI p1, vI p2, vI p3, vI (1 : Int32), vI (0 : Int32), vI (1 : Int32), vR b4_15, vR b24_15, vR b37_15, vR b49_15, vR b21] [(.int (1 : Int32)), (.int (1 : Int32))])) _
    refine XS.icmpNo X41.here hx rfl (hb hby at_206) rfl (teq (by decide : (1 : Int32) = (1 : Int32))).2 ?_
    refine XS.iconst X41.here hx rfl (hb hby at_209) ?_
    show Steps p.tables e below (T41.setTop (mkF m 210 #[vI p0, vI p1, vI p2, vI p3, vI (1 : Int32), vI (0 : Int32), vI (1 : Int32), vR b4_15, vR b24_15, vR b37_15, vR b49_15, vR b21] [(.int (1 : Int32))])) _
    refine XS.goto X41.here hx rfl (pc0 := 210) (pc' := 214) rfl (hb hby at_210) (by decide) (by decide) ?_
    show Steps p.tables e below (T41.setTop (mkF m 214 #[vI p0, vI p1, vI p2, vI p3, vI (1 : Int32), vI (0 : Int32), vI (1 : Int32), vR b4_15, vR b24_15, vR b37_15, vR b49_15, vR b21] [(.int (1 : Int32))])) _
    exact retN X41 hx (t := .boolean) Bd.returns (by simp) (hb hby at_214) hr
  · show Q0r101 Z w_COMPACT_STRINGS w_DEFAULTCAPACITY_EMPTY_ELEMENTDATA k_w_DEFAULTCAPACITY_EMPTY_ELEMENTDATA w_EMPTY_LIST p0 p1 p2 p3 w_NO_DOI w_ISBN_CHECK_DIGIT w_DOI_SYNTAX w_CODE w_mir__Ljava_lang_Object_ w_EMPTY h0 n0 _ T41.heap _
    exact ⟨rfl, N41⟩
theorem pd_28 : parseMethodDescriptor "(Ljava/lang/String;Lcom/example/deposita/deposita/core/Finding;)Lcom/example/deposita/deposita/formats/Mapped;" = some ⟨[(.object "java/lang/String"), (.object "com/example/deposita/deposita/core/Finding")], some (.object "com/example/deposita/deposita/formats/Mapped")⟩ := by decide +kernel
def Q0r110 (Z : State) (w_COMPACT_STRINGS : Int32) (w_DEFAULTCAPACITY_EMPTY_ELEMENTDATA : Addr) (k_w_DEFAULTCAPACITY_EMPTY_ELEMENTDATA : ClassId) (w_EMPTY_LIST : Addr) (p0 : Int32) (p1 : Int32) (p2 : Int32) (p3 : Int32) (w_NO_DOI : Addr) (w_ISBN_CHECK_DIGIT : Addr) (w_DOI_SYNTAX : Addr) (w_CODE : Addr) (h0 : Heap) (n0 : Nat) (v : Option Value) (h : Heap) (L : List Loc) : Prop := v = some (.int (1 : Int32)) ∧ Fr n0 L
set_option maxRecDepth 65536 in
set_option maxHeartbeats 40000000 in
theorem rm0r110 (l : Launch) (Z : State) (A0 : Array Value) (hw : ∀ d ∈ tables_1, d.before A0 Z = true) (ws : List Jvm.Cond) (w_COMPACT_STRINGS : Int32) (w_DEFAULTCAPACITY_EMPTY_ELEMENTDATA : Addr) (k_w_DEFAULTCAPACITY_EMPTY_ELEMENTDATA : ClassId) (w_EMPTY_LIST : Addr) (p0 : Int32) (p1 : Int32) (p2 : Int32) (p3 : Int32) (w_NO_DOI : Addr) (w_ISBN_CHECK_DIGIT : Addr) (w_DOI_SYNTAX : Addr) (w_CODE : Addr) (h0 : Heap) (n0 : Nat) (OLD : Old Z n0 h0) (c_1 : ¬ (w_COMPACT_STRINGS = (0 : Int32))) (f_2 : Sta Z Z.heap "java/util/ArrayList" "DEFAULTCAPACITY_EMPTY_ELEMENTDATA" "[Ljava/lang/Object;" (.ref w_DEFAULTCAPACITY_EMPTY_ELEMENTDATA)) (f_3 : Arv Z Z.heap w_DEFAULTCAPACITY_EMPTY_ELEMENTDATA k_w_DEFAULTCAPACITY_EMPTY_ELEMENTDATA (.object "java/lang/Object") (0 : Int32) [] .null) (f_4 : Sta Z Z.heap "java/util/ImmutableCollections" "EMPTY_LIST" "Ljava/util/ImmutableCollections$ListN;" (.ref w_EMPTY_LIST)) (f_5 : Exa Z Z.heap w_EMPTY_LIST "java/util/ImmutableCollections$ListN") (f_6 : Fld Z Z.heap w_EMPTY_LIST "java/util/ImmutableCollections$ListN" "allowNulls" "Z" (.int (0 : Int32))) (c_7 : ¬ ((p0 &&& (1 : Int32)) = (0 : Int32))) (c_8 : ¬ ((p0 &&& (2 : Int32)) = (0 : Int32))) (c_9 : (p3 &&& (1 : Int32)) = (0 : Int32)) (f_10 : Sta Z Z.heap "com/example/deposita/deposita/core/Rule" "NO_DOI" "Lcom/example/deposita/deposita/core/Rule;" (.ref w_NO_DOI)) (f_11 : Sta Z Z.heap "com/example/deposita/deposita/core/Rule" "ISBN_CHECK_DIGIT" "Lcom/example/deposita/deposita/core/Rule;" (.ref w_ISBN_CHECK_DIGIT)) (f_12 : Sta Z Z.heap "com/example/deposita/deposita/core/Rule" "DOI_SYNTAX" "Lcom/example/deposita/deposita/core/Rule;" (.ref w_DOI_SYNTAX)) (f_13 : Sta Z Z.heap "com/example/deposita/deposita/core/Rule" "CODE" "Lcom/example/deposita/deposita/core/Rule;" (.ref w_CODE)) (f_14 : Sta Z Z.heap "java/lang/String" "COMPACT_STRINGS" "Z" (.int w_COMPACT_STRINGS)) :
    MetFree l x (head1 (Jvm.Cond.code x code maxLocals ret :: ws) room_1) (fun a U => a = #[(.int p0), (.int p1), (.int p2), (.int p3)] ∧ Z.Warmed39 U.vm ∧ U.heap = h0) (fun _ _ _ _ _ => True) (fun _ U o U' => ∃ v L, o = .returned v ∧ Q0r110 Z w_COMPACT_STRINGS w_DEFAULTCAPACITY_EMPTY_ELEMENTDATA k_w_DEFAULTCAPACITY_EMPTY_ELEMENTDATA w_EMPTY_LIST p0 p1 p2 p3 w_NO_DOI w_ISBN_CHECK_DIGIT w_DOI_SYNTAX w_CODE h0 n0 v U'.heap L ∧ ReturnedEndW U o U' L room_1.cells room_1.slots) := by
  refine MetFree.of_bodySF (plainFor_of_name pn_com_example_deposita_deposita_formats_MappedIsRefusedPinLaw) hisR ?_
  intro p e s m args below meth c s₁ Bd hml0 hP hK
  obtain ⟨rfl, hZ, hh⟩ := hP
  have hx := Bd.exec
  have hby := Bd.bytes
  have hml : c.maxLocals = 12 := hml0
  have hown : s.vm.findClass "com/example/deposita/deposita/formats/MappedIsRefusedPinLaw" = some m.cls := findClass_of_methodNamed Bd.named
  have hnm := (name_of_methodNamed Bd.named Bd.method).1
  have X0 : Stand p l e room_1 (s.setVm s.vm) m #[(.int p0), (.int p1), (.int p2), (.int p3)] below meth c s₁ [] 0 0 := Stand.of_body Bd
  have e0 : s₁.heap = h0 := by rw [← hh, Bd.state]; rfl
  have hS0 : s.Since s.vm h0.size := (State.WarmedH.refl s).since _
  have hk0 : h0.size ≤ h0.size := Nat.le_refl _
  have hZ : Z.Warmed39 (s.setVm s.vm).vm := hZ
  have hown : (s.setVm s.vm).vm.findClass "com/example/deposita/deposita/formats/MappedIsRefusedPinLaw" = some m.cls := hown
  have N0 := Fr.nil n0
  have pre0 : ∀ t, Steps p.tables e below (s₁.setTop (mkF m 0 #[vI p0, vI p1, vI p2, vI p3, .unset, .unset, .unset, .unset, .unset, .unset, .unset, .unset] [])) t → Steps p.tables e below (s₁.setTop (entryFrame m #[(.int p0), (.int p1), (.int p2), (.int p3)] maxLocals)) t := fun t k => castTop (ef_0 m p0 p1 p2 p3) k
  obtain ⟨b4_15, b6_15_15, b24_15, b37_15, b4_8_10_46_15, b49_15, k24_15, k4_8_10_46_15, w_12_15, T15, L15, vm15, kk15, X15, N15, hS15, hk15, hZ15, hown15, K15, g15_0, g15_1, g15_2, g15_3, g15_4, g15_5, g15_6, g15_7, g15_8, g15_9, g15_10, g15_11, g15_12, g15_13, g15_14, g15_15, g15_16, g15_17, g15_18, g15_19, g15_20, g15_21, g15_22, g15_23, g15_24, g15_25, g15_26, g15_27, g15_28, st15⟩ := rm0seg l Z A0 hw w_COMPACT_STRINGS w_DEFAULTCAPACITY_EMPTY_ELEMENTDATA k_w_DEFAULTCAPACITY_EMPTY_ELEMENTDATA w_EMPTY_LIST (1 : Int32) (1 : Int32) (0 : Int32) p0 p1 p2 p3 w_NO_DOI w_ISBN_CHECK_DIGIT w_DOI_SYNTAX w_CODE h0 n0 OLD c_1 f_2 f_3 f_10 f_11 f_12 f_13 f_14 X0 hx hZ hby hml hown hh e0
  have K_16 : Keep h0 T15.heap [] := Keep.trans (Keep.refl h0 []) K15 all0
  have O_18 := Old.keep OLD K15 all0
  obtain ⟨_, _, ⟨T17, L17, k17, n17⟩, -, X17, ⟨Lc17, hQ17, l17, y17, z17⟩, st17⟩ := Jvm.LawKit.callS X15 hx (y := (⟨"com/example/deposita/deposita/formats/Mapped", "refused", "(Ljava/lang/String;Lcom/example/deposita/deposita/core/Finding;)Lcom/example/deposita/deposita/formats/Mapped;"⟩ : MethodName)) hown15 (mvT hZ15 (hw _ (List.mem_of_getElem? (i := 241) rfl))) (mvT hZ15 (hw _ (List.mem_of_getElem? (i := 242) rfl))) (mvT hZ15 (hw _ (List.mem_of_getElem? (i := 132) rfl))) (mvT hZ15 (hw _ (List.mem_of_getElem? (i := 243) rfl))) (by decide) (backOf (W := 0) (rm38 l Z A0 hw [] w_EMPTY_LIST b37_15 b4_15 T15.heap n0 O_18 f_4 f_5 f_6) hZ15 (hw _ (List.mem_of_getElem? (i := 243) rfl)) (hw _ (List.mem_of_getElem? (i := 132) rfl)) (by decide) (by decide)) (g := (mkF m 139 #[vI p0, vI p1, vI p2, vI p3, vI (1 : Int32), vI (1 : Int32), vI (0 : Int32), vR b4_15, vR b24_15, vR b37_15, vR b49_15, .unset] [(.ref b4_15), (.ref b37_15)])) rfl (by rw [hml]; rfl) (argsL := [(.ref b37_15), (.ref b4_15)]) (rest := []) (lenOf pd_28 rfl) rfl (by show 2 * 0 + _ ≤ _; exact Nat.le_of_eq rfl) (hb hby at_139) (fun _ _ => ⟨rfl, rfl, (by decide : 11 + 1 ≤ _), (by decide : 62 + 4 ≤ _)⟩)
  dsimp only [Pt.U, Pt.locs, Pt.cells, Pt.slots] at X17 l17 y17 z17 st17 hQ17
  subst l17 y17 z17
  obtain ⟨b4_17, rfl, N17q, K17, g17_0, g17_1, g17_2, g17_3, g17_4, g17_5⟩ := hQ17
  have N17 := Fr.app N15 N17q
  have K_19 : Keep h0 T17.heap [] := Keep.trans K_16 K17 all0
  have O_21 := Old.keep O_18 K17 all0
  obtain ⟨cq20, kq20, q20a, q20b, q20c⟩ := isOf hZ15 rfl g17_1
  obtain ⟨_, _, ⟨T20, L20, k20, n20⟩, -, X20, ⟨Lc20, hQ20, l20, y20, z20⟩, st20⟩ := X17.virtualBack hx (y := (⟨"com/example/deposita/deposita/formats/Mapped", "isRefused", "()Z"⟩ : MethodName)) (z := (⟨"com/example/deposita/deposita/formats/Mapped", "isRefused", "()Z"⟩ : MethodName)) hown15 (mvT hZ15 (hw _ (List.mem_of_getElem? (i := 230) rfl))) (mvT hZ15 (hw _ (List.mem_of_getElem? (i := 231) rfl))) (notFace_of_selects (args := #[]) (mvT hZ15 (hw _ (List.mem_of_getElem? (i := 233) rfl)))) (mvT hZ15 (hw _ (List.mem_of_getElem? (i := 233) rfl))) (mvT hZ15 (hw _ (List.mem_of_getElem? (i := 232) rfl))) (by decide) (backOf (W := 0) (rm36r1 l Z A0 hw [] b4_17 b4_15 T17.heap n0 O_21 g17_5) hZ15 (hw _ (List.mem_of_getElem? (i := 234) rfl)) (hw _ (List.mem_of_getElem? (i := 132) rfl)) (by decide) (by decide)) q20a q20c (g := (mkF m 201 #[vI p0, vI p1, vI p2, vI p3, vI (1 : Int32), vI (1 : Int32), vI (0 : Int32), vR b4_15, vR b24_15, vR b37_15, vR b49_15, vR b4_17] [(.ref b4_17)])) rfl (by rw [hml]; rfl) (Steps.refl _) (argsL := []) (rest := []) (lenOf pd_17 rfl) rfl (by show 2 * 0 + _ ≤ _; exact Nat.le_of_eq rfl) (hb hby at_201) (fun _ _ => ⟨rfl, rfl, (by decide : 12 + 0 ≤ _), (by decide : 66 + 0 ≤ _)⟩)
  dsimp only [Pt.U, Pt.locs, Pt.cells, Pt.slots] at X20 l20 y20 z20 st20 hQ20
  subst l20 y20 z20
  obtain ⟨rfl, N20q, e20⟩ := hQ20
  have N20 := Fr.app N17 N20q
  obtain ⟨fs, hr, hrun, hended, hRW⟩ := X20.leaveW (s := s) hS15 (by rw [e20]; exact (Nat.le_trans hk15 K17.1)) (v := some (.int (1 : Int32))) (fun h => by rw [Bd.returns] at h; cases h)
  refine ⟨_, _, pre0 _ ?_, hrun, hended, _, _, rfl, ?_, hRW.1, hRW.2.1, hRW.2.2.1, hRW.2.2.2.mono (by decide) (by decide)⟩
  · show Steps p.tables e below (s₁.setTop (mkF m 0 #[vI p0, vI p1, vI p2, vI p3, .unset, .unset, .unset, .unset, .unset, .unset, .unset, .unset] [])) _
    refine XS.iloadN X0.here hx rfl (hb hby at_0) rfl ?_
    refine XS.iconst X0.here hx rfl (hb hby at_1) ?_
    show Steps p.tables e below (s₁.setTop (mkF m 2 #[vI p0, vI p1, vI p2, vI p3, .unset, .unset, .unset, .unset, .unset, .unset, .unset, .unset] [(.int (1 : Int32)), (.int p0)])) _
    refine XS.iand X0.here hx rfl (hb hby at_2) rfl ?_
    refine XS.ifNo X0.here hx rfl (hb hby at_3) rfl ((if0 _ _).trans (feq c_7).1) ?_
    show Steps p.tables e below (s₁.setTop (mkF m 6 #[vI p0, vI p1, vI p2, vI p3, .unset, .unset, .unset, .unset, .unset, .unset, .unset, .unset] [])) _
    refine XS.iconst X0.here hx rfl (hb hby at_6) ?_
    refine XS.goto X0.here hx rfl (pc0 := 7) (pc' := 11) rfl (hb hby at_7) (by decide) (by decide) ?_
    show Steps p.tables e below (s₁.setTop (mkF m 11 #[vI p0, vI p1, vI p2, vI p3, .unset, .unset, .unset, .unset, .unset, .unset, .unset, .unset] [(.int (1 : Int32))])) _
    refine XS.istore X0.here hx rfl (hb hby at_11) rfl (l' := #[vI p0, vI p1, vI p2, vI p3, vI (1 : Int32), .unset, .unset, .unset, .unset, .unset, .unset, .unset]) rfl ?_
    refine XS.iloadN X0.here hx rfl (hb hby at_13) rfl ?_
    show Steps p.tables e below (s₁.setTop (mkF m 14 #[vI p0, vI p1, vI p2, vI p3, vI (1 : Int32), .unset, .unset, .unset, .unset, .unset, .unset, .unset] [(.int p0)])) _
    refine XS.iconst X0.here hx rfl (hb hby at_14) ?_
    refine XS.iand X0.here hx rfl (hb hby at_15) rfl ?_
    show Steps p.tables e below (s₁.setTop (mkF m 16 #[vI p0, vI p1, vI p2, vI p3, vI (1 : Int32), .unset, .unset, .unset, .unset, .unset, .unset, .unset] [(.int (p0 &&& (2 : Int32)))])) _
    refine XS.ifNo X0.here hx rfl (hb hby at_16) rfl ((if0 _ _).trans (feq c_8).1) ?_
    refine XS.iconst X0.here hx rfl (hb hby at_19) ?_
    show Steps p.tables e below (s₁.setTop (mkF m 20 #[vI p0, vI p1, vI p2, vI p3, vI (1 : Int32), .unset, .unset, .unset, .unset, .unset, .unset, .unset] [(.int (1 : Int32))])) _
    refine XS.goto X0.here hx rfl (pc0 := 20) (pc' := 24) rfl (hb hby at_20) (by decide) (by decide) ?_
    refine XS.istore X0.here hx rfl (hb hby at_24) rfl (l' := #[vI p0, vI p1, vI p2, vI p3, vI (1 : Int32), vI (1 : Int32), .unset, .unset, .unset, .unset, .unset, .unset]) rfl ?_
    show Steps p.tables e below (s₁.setTop (mkF m 26 #[vI p0, vI p1, vI p2, vI p3, vI (1 : Int32), vI (1 : Int32), .unset, .unset, .unset, .unset, .unset, .unset] [])) _
    refine XS.iloadN X0.here hx rfl (hb hby at_26) rfl ?_
    refine XS.iconst X0.here hx rfl (hb hby at_27) ?_
    show Steps p.tables e below (s₁.setTop (mkF m 28 #[vI p0, vI p1, vI p2, vI p3, vI (1 : Int32), vI (1 : Int32), .unset, .unset, .unset, .unset, .unset, .unset] [(.int (1 : Int32)), (.int p3)])) _
    refine XS.iand X0.here hx rfl (hb hby at_28) rfl ?_
    refine XS.ifYes X0.here hx rfl (pc0 := 29) (pc' := 36) rfl (hb hby at_29) rfl ((if0 _ _).trans (teq c_9).1) (by decide) (by decide) ?_
    show Steps p.tables e below (s₁.setTop (mkF m 36 #[vI p0, vI p1, vI p2, vI p3, vI (1 : Int32), vI (1 : Int32), .unset, .unset, .unset, .unset, .unset, .unset] [])) _
    refine XS.iconst X0.here hx rfl (hb hby at_36) ?_
    refine XS.istore X0.here hx rfl (hb hby at_37) rfl (l' := #[vI p0, vI p1, vI p2, vI p3, vI (1 : Int32), vI (1 : Int32), vI (0 : Int32), .unset, .unset, .unset, .unset, .unset]) rfl ?_
    show Steps p.tables e below (s₁.setTop (mkF m 39 #[vI p0, vI p1, vI p2, vI p3, vI (1 : Int32), vI (1 : Int32), vI (0 : Int32), .unset, .unset, .unset, .unset, .unset] [])) _
    refine st15 _ ?_
    show Steps p.tables e below (T15.setTop (mkF m 112 #[vI p0, vI p1, vI p2, vI p3, vI (1 : Int32), vI (1 : Int32), vI (0 : Int32), vR b4_15, vR b24_15, vR b37_15, vR b49_15, .unset] [])) _
    refine XS.iload X15.here hx rfl (hb hby at_112) rfl ?_
    refine XS.ifYes X15.here hx rfl (pc0 := 114) (pc' := 125) rfl (hb hby at_114) rfl ((if0 _ _).trans (teq (by decide : (0 : Int32) = (0 : Int32))).1) (by decide) (by decide) ?_
    show Steps p.tables e below (T15.setTop (mkF m 125 #[vI p0, vI p1, vI p2, vI p3, vI (1 : Int32), vI (1 : Int32), vI (0 : Int32), vR b4_15, vR b24_15, vR b37_15, vR b49_15, .unset] [])) _
    refine XS.iload X15.here hx rfl (hb hby at_125) rfl ?_
    refine XS.ifNo X15.here hx rfl (hb hby at_127) rfl ((if0 _ _).trans (feq (by decide : ¬ ((1 : Int32) = (0 : Int32)))).1) ?_
    show Steps p.tables e below (T15.setTop (mkF m 130 #[vI p0, vI p1, vI p2, vI p3, vI (1 : Int32), vI (1 : Int32), vI (0 : Int32), vR b4_15, vR b24_15, vR b37_15, vR b49_15, .unset] [])) _
    refine XS.iload X15.here hx rfl (hb hby at_130) rfl ?_
    refine XS.ifNo X15.here hx rfl (hb hby at_132) rfl ((if0 _ _).trans (feq (by decide : ¬ ((1 : Int32) = (0 : Int32)))).1) ?_
    show Steps p.tables e below (T15.setTop (mkF m 135 #[vI p0, vI p1, vI p2, vI p3, vI (1 : Int32), vI (1 : Int32), vI (0 : Int32), vR b4_15, vR b24_15, vR b37_15, vR b49_15, .unset] [])) _
    refine XS.aload X15.here hx rfl (hb hby at_135) rfl rfl ?_
    refine XS.aload X15.here hx rfl (hb hby at_137) rfl rfl ?_
    show Steps p.tables e below (T15.setTop (mkF m 139 #[vI p0, vI p1, vI p2, vI p3, vI (1 : Int32), vI (1 : Int32), vI (0 : Int32), vR b4_15, vR b24_15, vR b37_15, vR b49_15, .unset] [(.ref b4_15), (.ref b37_15)])) _
    refine st17 _ ?_
    refine XS.astore X17.here hx rfl (hb hby at_142) rfl rfl (l' := #[vI p0, vI p1, vI p2, vI p3, vI (1 : Int32), vI (1 : Int32), vI (0 : Int32), vR b4_15, vR b24_15, vR b37_15, vR b49_15, vR b4_17]) rfl ?_
    show Steps p.tables e below (T17.setTop (mkF m 144 #[vI p0, vI p1, vI p2, vI p3, vI (1 : Int32), vI (1 : Int32), vI (0 : Int32), vR b4_15, vR b24_15, vR b37_15, vR b49_15, vR b4_17] [])) _
    refine XS.goto X17.here hx rfl (pc0 := 144) (pc' := 199) rfl (hb hby at_144) (by decide) (by decide) ?_
    refine XS.aload X17.here hx rfl (hb hby at_199) rfl rfl ?_
    show Steps p.tables e below (T17.setTop (mkF m 201 #[vI p0, vI p1, vI p2, vI p3, vI (1 : Int32), vI (1 : Int32), vI (0 : Int32), vR b4_15, vR b24_15, vR b37_15, vR b49_15, vR b4_17] [(.ref b4_17)])) _
    refine st20.trans ?_
    refine XS.iload X20.here hx rfl (hb hby at_204) rfl ?_
    show Steps p.tables e below (T20.setTop (mkF m 206 #[vI p0, vI p1, vI p2, vI p3, vI (1 : Int32), vI (1 : Int32), vI (0 : Int32), vR b4_15, vR b24_15, vR b37_15, vR b49_15, vR b4_17] [(.int (1 : Int32)), (.int (1 : Int32))])) _
    refine XS.icmpNo X20.here hx rfl (hb hby at_206) rfl (teq (by decide : (1 : Int32) = (1 : Int32))).2 ?_
    refine XS.iconst X20.here hx rfl (hb hby at_209) ?_
    show Steps p.tables e below (T20.setTop (mkF m 210 #[vI p0, vI p1, vI p2, vI p3, vI (1 : Int32), vI (1 : Int32), vI (0 : Int32), vR b4_15, vR b24_15, vR b37_15, vR b49_15, vR b4_17] [(.int (1 : Int32))])) _
    refine XS.goto X20.here hx rfl (pc0 := 210) (pc' := 214) rfl (hb hby at_210) (by decide) (by decide) ?_
    show Steps p.tables e below (T20.setTop (mkF m 214 #[vI p0, vI p1, vI p2, vI p3, vI (1 : Int32), vI (1 : Int32), vI (0 : Int32), vR b4_15, vR b24_15, vR b37_15, vR b49_15, vR b4_17] [(.int (1 : Int32))])) _
    exact retN X20 hx (t := .boolean) Bd.returns (by simp) (hb hby at_214) hr
  · show Q0r110 Z w_COMPACT_STRINGS w_DEFAULTCAPACITY_EMPTY_ELEMENTDATA k_w_DEFAULTCAPACITY_EMPTY_ELEMENTDATA w_EMPTY_LIST p0 p1 p2 p3 w_NO_DOI w_ISBN_CHECK_DIGIT w_DOI_SYNTAX w_CODE h0 n0 _ T20.heap _
    exact ⟨rfl, N20⟩
def Q0r111 (Z : State) (w_COMPACT_STRINGS : Int32) (w_DEFAULTCAPACITY_EMPTY_ELEMENTDATA : Addr) (k_w_DEFAULTCAPACITY_EMPTY_ELEMENTDATA : ClassId) (w_EMPTY_LIST : Addr) (p0 : Int32) (p1 : Int32) (p2 : Int32) (p3 : Int32) (w_NO_DOI : Addr) (w_ISBN_CHECK_DIGIT : Addr) (w_DOI_SYNTAX : Addr) (w_CODE : Addr) (h0 : Heap) (n0 : Nat) (v : Option Value) (h : Heap) (L : List Loc) : Prop := v = some (.int (1 : Int32)) ∧ Fr n0 L
set_option maxRecDepth 65536 in
set_option maxHeartbeats 40000000 in
theorem rm0r111 (l : Launch) (Z : State) (A0 : Array Value) (hw : ∀ d ∈ tables_1, d.before A0 Z = true) (ws : List Jvm.Cond) (w_COMPACT_STRINGS : Int32) (w_DEFAULTCAPACITY_EMPTY_ELEMENTDATA : Addr) (k_w_DEFAULTCAPACITY_EMPTY_ELEMENTDATA : ClassId) (w_EMPTY_LIST : Addr) (p0 : Int32) (p1 : Int32) (p2 : Int32) (p3 : Int32) (w_NO_DOI : Addr) (w_ISBN_CHECK_DIGIT : Addr) (w_DOI_SYNTAX : Addr) (w_CODE : Addr) (h0 : Heap) (n0 : Nat) (OLD : Old Z n0 h0) (c_1 : ¬ (w_COMPACT_STRINGS = (0 : Int32))) (f_2 : Sta Z Z.heap "java/util/ArrayList" "DEFAULTCAPACITY_EMPTY_ELEMENTDATA" "[Ljava/lang/Object;" (.ref w_DEFAULTCAPACITY_EMPTY_ELEMENTDATA)) (f_3 : Arv Z Z.heap w_DEFAULTCAPACITY_EMPTY_ELEMENTDATA k_w_DEFAULTCAPACITY_EMPTY_ELEMENTDATA (.object "java/lang/Object") (0 : Int32) [] .null) (f_4 : Sta Z Z.heap "java/util/ImmutableCollections" "EMPTY_LIST" "Ljava/util/ImmutableCollections$ListN;" (.ref w_EMPTY_LIST)) (f_5 : Exa Z Z.heap w_EMPTY_LIST "java/util/ImmutableCollections$ListN") (f_6 : Fld Z Z.heap w_EMPTY_LIST "java/util/ImmutableCollections$ListN" "allowNulls" "Z" (.int (0 : Int32))) (c_7 : ¬ ((p0 &&& (1 : Int32)) = (0 : Int32))) (c_8 : ¬ ((p0 &&& (2 : Int32)) = (0 : Int32))) (c_9 : ¬ ((p3 &&& (1 : Int32)) = (0 : Int32))) (f_10 : Sta Z Z.heap "com/example/deposita/deposita/core/Rule" "NO_DOI" "Lcom/example/deposita/deposita/core/Rule;" (.ref w_NO_DOI)) (f_11 : Sta Z Z.heap "com/example/deposita/deposita/core/Rule" "ISBN_CHECK_DIGIT" "Lcom/example/deposita/deposita/core/Rule;" (.ref w_ISBN_CHECK_DIGIT)) (f_12 : Sta Z Z.heap "com/example/deposita/deposita/core/Rule" "DOI_SYNTAX" "Lcom/example/deposita/deposita/core/Rule;" (.ref w_DOI_SYNTAX)) (f_13 : Sta Z Z.heap "com/example/deposita/deposita/core/Rule" "CODE" "Lcom/example/deposita/deposita/core/Rule;" (.ref w_CODE)) (f_14 : Sta Z Z.heap "java/lang/String" "COMPACT_STRINGS" "Z" (.int w_COMPACT_STRINGS)) :
    MetFree l x (head1 (Jvm.Cond.code x code maxLocals ret :: ws) room_1) (fun a U => a = #[(.int p0), (.int p1), (.int p2), (.int p3)] ∧ Z.Warmed39 U.vm ∧ U.heap = h0) (fun _ _ _ _ _ => True) (fun _ U o U' => ∃ v L, o = .returned v ∧ Q0r111 Z w_COMPACT_STRINGS w_DEFAULTCAPACITY_EMPTY_ELEMENTDATA k_w_DEFAULTCAPACITY_EMPTY_ELEMENTDATA w_EMPTY_LIST p0 p1 p2 p3 w_NO_DOI w_ISBN_CHECK_DIGIT w_DOI_SYNTAX w_CODE h0 n0 v U'.heap L ∧ ReturnedEndW U o U' L room_1.cells room_1.slots) := by
  refine MetFree.of_bodySF (plainFor_of_name pn_com_example_deposita_deposita_formats_MappedIsRefusedPinLaw) hisR ?_
  intro p e s m args below meth c s₁ Bd hml0 hP hK
  obtain ⟨rfl, hZ, hh⟩ := hP
  have hx := Bd.exec
  have hby := Bd.bytes
  have hml : c.maxLocals = 12 := hml0
  have hown : s.vm.findClass "com/example/deposita/deposita/formats/MappedIsRefusedPinLaw" = some m.cls := findClass_of_methodNamed Bd.named
  have hnm := (name_of_methodNamed Bd.named Bd.method).1
  have X0 : Stand p l e room_1 (s.setVm s.vm) m #[(.int p0), (.int p1), (.int p2), (.int p3)] below meth c s₁ [] 0 0 := Stand.of_body Bd
  have e0 : s₁.heap = h0 := by rw [← hh, Bd.state]; rfl
  have hS0 : s.Since s.vm h0.size := (State.WarmedH.refl s).since _
  have hk0 : h0.size ≤ h0.size := Nat.le_refl _
  have hZ : Z.Warmed39 (s.setVm s.vm).vm := hZ
  have hown : (s.setVm s.vm).vm.findClass "com/example/deposita/deposita/formats/MappedIsRefusedPinLaw" = some m.cls := hown
  have N0 := Fr.nil n0
  have pre0 : ∀ t, Steps p.tables e below (s₁.setTop (mkF m 0 #[vI p0, vI p1, vI p2, vI p3, .unset, .unset, .unset, .unset, .unset, .unset, .unset, .unset] [])) t → Steps p.tables e below (s₁.setTop (entryFrame m #[(.int p0), (.int p1), (.int p2), (.int p3)] maxLocals)) t := fun t k => castTop (ef_0 m p0 p1 p2 p3) k
  obtain ⟨b4_15, b6_15_15, b24_15, b37_15, b4_8_10_46_15, b49_15, k24_15, k4_8_10_46_15, w_12_15, T15, L15, vm15, kk15, X15, N15, hS15, hk15, hZ15, hown15, K15, g15_0, g15_1, g15_2, g15_3, g15_4, g15_5, g15_6, g15_7, g15_8, g15_9, g15_10, g15_11, g15_12, g15_13, g15_14, g15_15, g15_16, g15_17, g15_18, g15_19, g15_20, g15_21, g15_22, g15_23, g15_24, g15_25, g15_26, g15_27, g15_28, st15⟩ := rm0seg l Z A0 hw w_COMPACT_STRINGS w_DEFAULTCAPACITY_EMPTY_ELEMENTDATA k_w_DEFAULTCAPACITY_EMPTY_ELEMENTDATA w_EMPTY_LIST (1 : Int32) (1 : Int32) (1 : Int32) p0 p1 p2 p3 w_NO_DOI w_ISBN_CHECK_DIGIT w_DOI_SYNTAX w_CODE h0 n0 OLD c_1 f_2 f_3 f_10 f_11 f_12 f_13 f_14 X0 hx hZ hby hml hown hh e0
  have K_16 : Keep h0 T15.heap [] := Keep.trans (Keep.refl h0 []) K15 all0
  have ge_17 : n0 ≤ b49_15 := own_ge OLD g15_5
  have O_19 := Old.keep OLD K15 all0
  obtain ⟨cq18, kq18, q18a, q18b, q18c⟩ := isOf hZ15 rfl g15_15
  obtain ⟨_, _, ⟨T18, L18, k18, n18⟩, -, X18, ⟨Lc18, hQ18, l18, y18, z18⟩, st18⟩ := X15.virtualBack hx (y := (⟨"java/util/ArrayList", "add", "(Ljava/lang/Object;)Z"⟩ : MethodName)) (z := (⟨"java/util/ArrayList", "add", "(Ljava/lang/Object;)Z"⟩ : MethodName)) hown15 (mvT hZ15 (hw _ (List.mem_of_getElem? (i := 99) rfl))) (mvT hZ15 (hw _ (List.mem_of_getElem? (i := 100) rfl))) (notFace_of_selects (args := #[]) (mvT hZ15 (hw _ (List.mem_of_getElem? (i := 102) rfl)))) (mvT hZ15 (hw _ (List.mem_of_getElem? (i := 102) rfl))) (mvT hZ15 (hw _ (List.mem_of_getElem? (i := 101) rfl))) (by decide) (backOf (W := 0) (rm18 l Z A0 hw [] w_DEFAULTCAPACITY_EMPTY_ELEMENTDATA k_w_DEFAULTCAPACITY_EMPTY_ELEMENTDATA b49_15 b4_15 T15.heap n0 O_19 g15_15 f_2 g15_17 f_3 g15_6 g15_18 g15_16 ge_17) hZ15 (hw _ (List.mem_of_getElem? (i := 103) rfl)) (hw _ (List.mem_of_getElem? (i := 77) rfl)) (by decide) (by decide)) q18a q18c (g := (mkF m 121 #[vI p0, vI p1, vI p2, vI p3, vI (1 : Int32), vI (1 : Int32), vI (1 : Int32), vR b4_15, vR b24_15, vR b37_15, vR b49_15, .unset] [(.ref b4_15), (.ref b49_15)])) rfl (by rw [hml]; rfl) (Steps.refl _) (argsL := [(.ref b4_15)]) (rest := []) (lenOf pd_26 rfl) rfl (by show 2 * 0 + _ ≤ _; exact Nat.le_of_eq rfl) (hb hby at_121) (fun _ _ => ⟨rfl, rfl, (by decide : 11 + 1 ≤ _), (by decide : 62 + 10 ≤ _)⟩)
  dsimp only [Pt.U, Pt.locs, Pt.cells, Pt.slots] at X18 l18 y18 z18 st18 hQ18
  subst l18 y18 z18
  obtain ⟨b12_8_9_18_18, k12_8_9_18_18, rfl, N18q, K18, g18_0, g18_1, g18_2, g18_3, g18_4, g18_5, g18_6, g18_7⟩ := hQ18
  have N18 := Fr.app N15 N18q
  have K_20 : Keep h0 T18.heap [] := Keep.trans K_16 K18 (allS (Or.inr (Nat.le_trans (Keep.refl h0 []).1 g15_5)) all0)
  have O_22 := Old.keep O_19 K18 (allS ge_17 all0)
  obtain ⟨_, _, ⟨T21, L21, k21, n21⟩, -, X21, ⟨Lc21, hQ21, l21, y21, z21⟩, st21⟩ := Jvm.LawKit.callS X18 hx (y := (⟨"com/example/deposita/deposita/formats/Mapped", "refused", "(Ljava/lang/String;Lcom/example/deposita/deposita/core/Finding;)Lcom/example/deposita/deposita/formats/Mapped;"⟩ : MethodName)) hown15 (mvT hZ15 (hw _ (List.mem_of_getElem? (i := 241) rfl))) (mvT hZ15 (hw _ (List.mem_of_getElem? (i := 242) rfl))) (mvT hZ15 (hw _ (List.mem_of_getElem? (i := 132) rfl))) (mvT hZ15 (hw _ (List.mem_of_getElem? (i := 243) rfl))) (by decide) (backOf (W := 0) (rm38 l Z A0 hw [] w_EMPTY_LIST b37_15 b4_15 T18.heap n0 O_22 f_4 f_5 f_6) hZ15 (hw _ (List.mem_of_getElem? (i := 243) rfl)) (hw _ (List.mem_of_getElem? (i := 132) rfl)) (by decide) (by decide)) (g := (mkF m 139 #[vI p0, vI p1, vI p2, vI p3, vI (1 : Int32), vI (1 : Int32), vI (1 : Int32), vR b4_15, vR b24_15, vR b37_15, vR b49_15, .unset] [(.ref b4_15), (.ref b37_15)])) rfl (by rw [hml]; rfl) (argsL := [(.ref b37_15), (.ref b4_15)]) (rest := []) (lenOf pd_28 rfl) rfl (by show 2 * 0 + _ ≤ _; exact Nat.le_of_eq rfl) (hb hby at_139) (fun _ _ => ⟨rfl, rfl, (by decide : 12 + 1 ≤ _), (by decide : 72 + 4 ≤ _)⟩)
  dsimp only [Pt.U, Pt.locs, Pt.cells, Pt.slots] at X21 l21 y21 z21 st21 hQ21
  subst l21 y21 z21
  obtain ⟨b4_21, rfl, N21q, K21, g21_0, g21_1, g21_2, g21_3, g21_4, g21_5⟩ := hQ21
  have N21 := Fr.app N18 N21q
  have K_23 : Keep h0 T21.heap [] := Keep.trans K_20 K21 all0
  have O_25 := Old.keep O_22 K21 all0
  obtain ⟨cq24, kq24, q24a, q24b, q24c⟩ := isOf hZ15 rfl g21_1
  obtain ⟨_, _, ⟨T24, L24, k24, n24⟩, -, X24, ⟨Lc24, hQ24, l24, y24, z24⟩, st24⟩ := X21.virtualBack hx (y := (⟨"com/example/deposita/deposita/formats/Mapped", "isRefused", "()Z"⟩ : MethodName)) (z := (⟨"com/example/deposita/deposita/formats/Mapped", "isRefused", "()Z"⟩ : MethodName)) hown15 (mvT hZ15 (hw _ (List.mem_of_getElem? (i := 230) rfl))) (mvT hZ15 (hw _ (List.mem_of_getElem? (i := 231) rfl))) (notFace_of_selects (args := #[]) (mvT hZ15 (hw _ (List.mem_of_getElem? (i := 233) rfl)))) (mvT hZ15 (hw _ (List.mem_of_getElem? (i := 233) rfl))) (mvT hZ15 (hw _ (List.mem_of_getElem? (i := 232) rfl))) (by decide) (backOf (W := 0) (rm36r1 l Z A0 hw [] b4_21 b4_15 T21.heap n0 O_25 g21_5) hZ15 (hw _ (List.mem_of_getElem? (i := 234) rfl)) (hw _ (List.mem_of_getElem? (i := 132) rfl)) (by decide) (by decide)) q24a q24c (g := (mkF m 201 #[vI p0, vI p1, vI p2, vI p3, vI (1 : Int32), vI (1 : Int32), vI (1 : Int32), vR b4_15, vR b24_15, vR b37_15, vR b49_15, vR b4_21] [(.ref b4_21)])) rfl (by rw [hml]; rfl) (Steps.refl _) (argsL := []) (rest := []) (lenOf pd_17 rfl) rfl (by show 2 * 0 + _ ≤ _; exact Nat.le_of_eq rfl) (hb hby at_201) (fun _ _ => ⟨rfl, rfl, (by decide : 13 + 0 ≤ _), (by decide : 76 + 0 ≤ _)⟩)
  dsimp only [Pt.U, Pt.locs, Pt.cells, Pt.slots] at X24 l24 y24 z24 st24 hQ24
  subst l24 y24 z24
  obtain ⟨rfl, N24q, e24⟩ := hQ24
  have N24 := Fr.app N21 N24q
  obtain ⟨fs, hr, hrun, hended, hRW⟩ := X24.leaveW (s := s) hS15 (by rw [e24]; exact (Nat.le_trans (Nat.le_trans hk15 K18.1) K21.1)) (v := some (.int (1 : Int32))) (fun h => by rw [Bd.returns] at h; cases h)
  refine ⟨_, _, pre0 _ ?_, hrun, hended, _, _, rfl, ?_, hRW.1, hRW.2.1, hRW.2.2.1, hRW.2.2.2.mono (by decide) (by decide)⟩
  · show Steps p.tables e below (s₁.setTop (mkF m 0 #[vI p0, vI p1, vI p2, vI p3, .unset, .unset, .unset, .unset, .unset, .unset, .unset, .unset] [])) _
    refine XS.iloadN X0.here hx rfl (hb hby at_0) rfl ?_
    refine XS.iconst X0.here hx rfl (hb hby at_1) ?_
    show Steps p.tables e below (s₁.setTop (mkF m 2 #[vI p0, vI p1, vI p2, vI p3, .unset, .unset, .unset, .unset, .unset, .unset, .unset, .unset] [(.int (1 : Int32)), (.int p0)])) _
    refine XS.iand X0.here hx rfl (hb hby at_2) rfl ?_
    refine XS.ifNo X0.here hx rfl (hb hby at_3) rfl ((if0 _ _).trans (feq c_7).1) ?_
    show Steps p.tables e below (s₁.setTop (mkF m 6 #[vI p0, vI p1, vI p2, vI p3, .unset, .unset, .unset, .unset, .unset, .unset, .unset, .unset] [])) _
    refine XS.iconst X0.here hx rfl (hb hby at_6) ?_
    refine XS.goto X0.here hx rfl (pc0 := 7) (pc' := 11) rfl (hb hby at_7) (by decide) (by decide) ?_
    show Steps p.tables e below (s₁.setTop (mkF m 11 #[vI p0, vI p1, vI p2, vI p3, .unset, .unset, .unset, .unset, .unset, .unset, .unset, .unset] [(.int (1 : Int32))])) _
    refine XS.istore X0.here hx rfl (hb hby at_11) rfl (l' := #[vI p0, vI p1, vI p2, vI p3, vI (1 : Int32), .unset, .unset, .unset, .unset, .unset, .unset, .unset]) rfl ?_
    refine XS.iloadN X0.here hx rfl (hb hby at_13) rfl ?_
    show Steps p.tables e below (s₁.setTop (mkF m 14 #[vI p0, vI p1, vI p2, vI p3, vI (1 : Int32), .unset, .unset, .unset, .unset, .unset, .unset, .unset] [(.int p0)])) _
    refine XS.iconst X0.here hx rfl (hb hby at_14) ?_
    refine XS.iand X0.here hx rfl (hb hby at_15) rfl ?_
    show Steps p.tables e below (s₁.setTop (mkF m 16 #[vI p0, vI p1, vI p2, vI p3, vI (1 : Int32), .unset, .unset, .unset, .unset, .unset, .unset, .unset] [(.int (p0 &&& (2 : Int32)))])) _
    refine XS.ifNo X0.here hx rfl (hb hby at_16) rfl ((if0 _ _).trans (feq c_8).1) ?_
    refine XS.iconst X0.here hx rfl (hb hby at_19) ?_
    show Steps p.tables e below (s₁.setTop (mkF m 20 #[vI p0, vI p1, vI p2, vI p3, vI (1 : Int32), .unset, .unset, .unset, .unset, .unset, .unset, .unset] [(.int (1 : Int32))])) _
    refine XS.goto X0.here hx rfl (pc0 := 20) (pc' := 24) rfl (hb hby at_20) (by decide) (by decide) ?_
    refine XS.istore X0.here hx rfl (hb hby at_24) rfl (l' := #[vI p0, vI p1, vI p2, vI p3, vI (1 : Int32), vI (1 : Int32), .unset, .unset, .unset, .unset, .unset, .unset]) rfl ?_
    show Steps p.tables e below (s₁.setTop (mkF m 26 #[vI p0, vI p1, vI p2, vI p3, vI (1 : Int32), vI (1 : Int32), .unset, .unset, .unset, .unset, .unset, .unset] [])) _
    refine XS.iloadN X0.here hx rfl (hb hby at_26) rfl ?_
    refine XS.iconst X0.here hx rfl (hb hby at_27) ?_
    show Steps p.tables e below (s₁.setTop (mkF m 28 #[vI p0, vI p1, vI p2, vI p3, vI (1 : Int32), vI (1 : Int32), .unset, .unset, .unset, .unset, .unset, .unset] [(.int (1 : Int32)), (.int p3)])) _
    refine XS.iand X0.here hx rfl (hb hby at_28) rfl ?_
    refine XS.ifNo X0.here hx rfl (hb hby at_29) rfl ((if0 _ _).trans (feq c_9).1) ?_
    show Steps p.tables e below (s₁.setTop (mkF m 32 #[vI p0, vI p1, vI p2, vI p3, vI (1 : Int32), vI (1 : Int32), .unset, .unset, .unset, .unset, .unset, .unset] [])) _
    refine XS.iconst X0.here hx rfl (hb hby at_32) ?_
    refine XS.goto X0.here hx rfl (pc0 := 33) (pc' := 37) rfl (hb hby at_33) (by decide) (by decide) ?_
    show Steps p.tables e below (s₁.setTop (mkF m 37 #[vI p0, vI p1, vI p2, vI p3, vI (1 : Int32), vI (1 : Int32), .unset, .unset, .unset, .unset, .unset, .unset] [(.int (1 : Int32))])) _
    refine XS.istore X0.here hx rfl (hb hby at_37) rfl (l' := #[vI p0, vI p1, vI p2, vI p3, vI (1 : Int32), vI (1 : Int32), vI (1 : Int32), .unset, .unset, .unset, .unset, .unset]) rfl ?_
    show Steps p.tables e below (s₁.setTop (mkF m 39 #[vI p0, vI p1, vI p2, vI p3, vI (1 : Int32), vI (1 : Int32), vI (1 : Int32), .unset, .unset, .unset, .unset, .unset] [])) _
    refine st15 _ ?_
    refine XS.iload X15.here hx rfl (hb hby at_112) rfl ?_
    show Steps p.tables e below (T15.setTop (mkF m 114 #[vI p0, vI p1, vI p2, vI p3, vI (1 : Int32), vI (1 : Int32), vI (1 : Int32), vR b4_15, vR b24_15, vR b37_15, vR b49_15, .unset] [(.int (1 : Int32))])) _
    refine XS.ifNo X15.here hx rfl (hb hby at_114) rfl ((if0 _ _).trans (feq (by decide : ¬ ((1 : Int32) = (0 : Int32)))).1) ?_
    refine XS.aload X15.here hx rfl (hb hby at_117) rfl rfl ?_
    show Steps p.tables e below (T15.setTop (mkF m 119 #[vI p0, vI p1, vI p2, vI p3, vI (1 : Int32), vI (1 : Int32), vI (1 : Int32), vR b4_15, vR b24_15, vR b37_15, vR b49_15, .unset] [(.ref b49_15)])) _
    refine XS.aload X15.here hx rfl (hb hby at_119) rfl rfl ?_
    refine st18.trans ?_
    show Steps p.tables e below (T18.setTop (mkF m 124 #[vI p0, vI p1, vI p2, vI p3, vI (1 : Int32), vI (1 : Int32), vI (1 : Int32), vR b4_15, vR b24_15, vR b37_15, vR b49_15, .unset] [(.int (1 : Int32))])) _
    refine XS.pop X18.here hx rfl (hb hby at_124) rfl rfl ?_
    refine XS.iload X18.here hx rfl (hb hby at_125) rfl ?_
    show Steps p.tables e below (T18.setTop (mkF m 127 #[vI p0, vI p1, vI p2, vI p3, vI (1 : Int32), vI (1 : Int32), vI (1 : Int32), vR b4_15, vR b24_15, vR b37_15, vR b49_15, .unset] [(.int (1 : Int32))])) _
    refine XS.ifNo X18.here hx rfl (hb hby at_127) rfl ((if0 _ _).trans (feq (by decide : ¬ ((1 : Int32) = (0 : Int32)))).1) ?_
    refine XS.iload X18.here hx rfl (hb hby at_130) rfl ?_
    show Steps p.tables e below (T18.setTop (mkF m 132 #[vI p0, vI p1, vI p2, vI p3, vI (1 : Int32), vI (1 : Int32), vI (1 : Int32), vR b4_15, vR b24_15, vR b37_15, vR b49_15, .unset] [(.int (1 : Int32))])) _
    refine XS.ifNo X18.here hx rfl (hb hby at_132) rfl ((if0 _ _).trans (feq (by decide : ¬ ((1 : Int32) = (0 : Int32)))).1) ?_
    refine XS.aload X18.here hx rfl (hb hby at_135) rfl rfl ?_
    show Steps p.tables e below (T18.setTop (mkF m 137 #[vI p0, vI p1, vI p2, vI p3, vI (1 : Int32), vI (1 : Int32), vI (1 : Int32), vR b4_15, vR b24_15, vR b37_15, vR b49_15, .unset] [(.ref b37_15)])) _
    refine XS.aload X18.here hx rfl (hb hby at_137) rfl rfl ?_
    refine st21 _ ?_
    show Steps p.tables e below (T21.setTop (mkF m 142 #[vI p0, vI p1, vI p2, vI p3, vI (1 : Int32), vI (1 : Int32), vI (1 : Int32), vR b4_15, vR b24_15, vR b37_15, vR b49_15, .unset] [(.ref b4_21)])) _
    refine XS.astore X21.here hx rfl (hb hby at_142) rfl rfl (l' := #[vI p0, vI p1, vI p2, vI p3, vI (1 : Int32), vI (1 : Int32), vI (1 : Int32), vR b4_15, vR b24_15, vR b37_15, vR b49_15, vR b4_21]) rfl ?_
    refine XS.goto X21.here hx rfl (pc0 := 144) (pc' := 199) rfl (hb hby at_144) (by decide) (by decide) ?_
    show Steps p.tables e below (T21.setTop (mkF m 199 #[vI p0, vI p1, vI p2, vI p3, vI (1 : Int32), vI (1 : Int32), vI (1 : Int32), vR b4_15, vR b24_15, vR b37_15, vR b49_15, vR b4_21] [])) _
    refine XS.aload X21.here hx rfl (hb hby at_199) rfl rfl ?_
    refine st24.trans ?_
    show Steps p.tables e below (T24.setTop (mkF m 204 #[vI p0, vI p1, vI p2, vI p3, vI (1 : Int32), vI (1 : Int32), vI (1 : Int32), vR b4_15, vR b24_15, vR b37_15, vR b49_15, vR b4_21] [(.int (1 : Int32))])) _
    refine XS.iload X24.here hx rfl (hb hby at_204) rfl ?_
    refine XS.icmpNo X24.here hx rfl (hb hby at_206) rfl (teq (by decide : (1 : Int32) = (1 : Int32))).2 ?_
    show Steps p.tables e below (T24.setTop (mkF m 209 #[vI p0, vI p1, vI p2, vI p3, vI (1 : Int32), vI (1 : Int32), vI (1 : Int32), vR b4_15, vR b24_15, vR b37_15, vR b49_15, vR b4_21] [])) _
    refine XS.iconst X24.here hx rfl (hb hby at_209) ?_
    refine XS.goto X24.here hx rfl (pc0 := 210) (pc' := 214) rfl (hb hby at_210) (by decide) (by decide) ?_
    show Steps p.tables e below (T24.setTop (mkF m 214 #[vI p0, vI p1, vI p2, vI p3, vI (1 : Int32), vI (1 : Int32), vI (1 : Int32), vR b4_15, vR b24_15, vR b37_15, vR b49_15, vR b4_21] [(.int (1 : Int32))])) _
    exact retN X24 hx (t := .boolean) Bd.returns (by simp) (hb hby at_214) hr
  · show Q0r111 Z w_COMPACT_STRINGS w_DEFAULTCAPACITY_EMPTY_ELEMENTDATA k_w_DEFAULTCAPACITY_EMPTY_ELEMENTDATA w_EMPTY_LIST p0 p1 p2 p3 w_NO_DOI w_ISBN_CHECK_DIGIT w_DOI_SYNTAX w_CODE h0 n0 _ T24.heap _
    exact ⟨rfl, N24⟩
theorem own_len {Z : State} {args : Array Value} {t : Term} {a : Addr} {cl : Cell} {ty : FieldType} {z : Int32} (et : t.eval args Z none [] Z = some (.ref a)) (A : Arr Z Z.heap a cl ty) (h : (Term.length t).eval args Z none [] Z = some (.int z)) : cl.slots.size < 2 ^ 31 ∧ cl.slots.size.toInt32 = z := by
  have q := A.fin (Vm.Alike.refl _)
  simp only [Term.eval, et, Option.bind_eq_bind, Option.bind_some, q] at h
  split at h
  · rename_i hs
    exact ⟨hs, Value.int.inj (Option.some.inj h)⟩
  · cases h
theorem own_arv0 {Z : State} {h : Heap} {a : Addr} {cl : Cell} {ty : FieldType} {d : Value} (A : Arr Z h a cl ty) (q : cl.slots.size < 2 ^ 31) (e : cl.slots.size.toInt32 = (0 : Int32)) : Arv Z h a cl.cls ty (0 : Int32) [] d := by
  have S : cl.slots.size = (0 : Int32).toNatClampNeg := by rw [← e]; simp only [Int32.toNatClampNeg, len_toInt q]; rfl
  have S0 : cl.slots.size = 0 := S
  exact ⟨cl, A, rfl, S, by decide, fun k hk => absurd hk (by omega), fun k hk => absurd hk (by omega)⟩
set_option maxRecDepth 65536 in
set_option maxHeartbeats 40000000 in
theorem comes_1 {Post : Tables → Env → Array Value → State → Outcome → State → Prop} (hpost : ∀ tb e args s v u, (limb_1_1.after args s (.returned v) u = true ∧ limb_1_2.after args s (.returned v) u = true ∧ True) → ReturnedEndW s (.returned v) u (Jvm.fieldLocs frame_1_writes args s ++ Jvm.arrayLocs frame_1_arrays args s ++ Jvm.staticLocs frame_1_statics s) 40 2240 → Post tb e args s (.returned v) u) :
    ArmFor flags0 classFile x code maxLocals ret World_1 tables_1 room_1 Calls_1 rest_1 Pre_1 Post := by
  intro l hfl _ _ p e ha hc hk s m args below hf hA hF happ hP
  obtain ⟨hcalls, hrest, hpre⟩ := hP
  obtain ⟨-, -, -, hnamed, -, -, -, hat⟩ := (Spec.applies_iff hf).mp happ
  obtain ⟨hg, hn⟩ := and_e (Cond.before_iff.mp (show (Jvm.Cond.and given_1 narrow_1).before args s = true from hpre))
  obtain ⟨gc, hg⟩ := and_e hg
  obtain ⟨ga0, hg⟩ := and_e hg
  obtain ⟨ga1, hg⟩ := and_e hg
  obtain ⟨ga2, hg⟩ := and_e hg
  have ga3 := hg
  obtain ⟨w0, w1, w2, w3, rfl⟩ : ∃ w0 w1 w2 w3 : Value, args = #[w0, w1, w2, w3] := by
    have hs : args.size = 4 := by simpa [Cond.value, given_1] using gc
    obtain ⟨L⟩ := args
    match L, hs with
    | [w0, w1, w2, w3], _ => exact ⟨w0, w1, w2, w3, rfl⟩
  have hw := fun d (hd : d ∈ tables_1) => atoms_spec (ws := Jvm.Cond.code x code maxLocals ret :: tables_1) hat d (List.mem_cons_of_mem _ hd)
  obtain ⟨hsets, hown0⟩ := atoms_of _ (rest_1_c_eq ▸ (show rest_1_c.before _ s = true from hrest))
  obtain ⟨wcs, ecs⟩ := is_v (Cond.before_iff.mp (hsets _ (List.mem_of_getElem? (i := 1) rfl)))
  have Scs : Sta s s.heap "java/lang/String" "COMPACT_STRINGS" "Z" (.int wcs) := Sta.start ecs (Or.inl (hsets _ (List.mem_of_getElem? (i := 0) rfl)))
  have ncs : ¬ (wcs = (0 : Int32)) := gotF (Cond.eq_ints ecs (Term.int_eval (0))) (not_v (Cond.before_iff.mp (hsets _ (List.mem_of_getElem? (i := 2) rfl))))
  obtain ⟨i0, ei0⟩ := is_v ga0
  obtain rfl : w0 = (.int i0) := Option.some.inj ei0
  obtain ⟨i1, ei1⟩ := is_v ga1
  obtain rfl : w1 = (.int i1) := Option.some.inj ei1
  obtain ⟨i2, ei2⟩ := is_v ga2
  obtain rfl : w2 = (.int i2) := Option.some.inj ei2
  obtain ⟨i3, ei3⟩ := is_v ga3
  obtain rfl : w3 = (.int i3) := Option.some.inj ei3
  obtain ⟨k0, hn⟩ := and_e hn
  obtain ⟨k1, hn⟩ := and_e hn
  obtain ⟨k2, hn⟩ := and_e hn
  have k3 := hn
  obtain ⟨w_DOI_SYNTAX, e_w_DOI_SYNTAX⟩ := exa_v k0
  have E_w_DOI_SYNTAX := Exa.start e_w_DOI_SYNTAX k0
  have S_w_DOI_SYNTAX := Sta.start e_w_DOI_SYNTAX (Or.inr ⟨(hw _ (List.mem_of_getElem? (i := 8) rfl)), (hw _ (List.mem_of_getElem? (i := 9) rfl))⟩)
  obtain ⟨w_NO_DOI, e_w_NO_DOI⟩ := exa_v k1
  have E_w_NO_DOI := Exa.start e_w_NO_DOI k1
  have S_w_NO_DOI := Sta.start e_w_NO_DOI (Or.inr ⟨(hw _ (List.mem_of_getElem? (i := 8) rfl)), (hw _ (List.mem_of_getElem? (i := 236) rfl))⟩)
  obtain ⟨w_CODE, e_w_CODE⟩ := exa_v k2
  have E_w_CODE := Exa.start e_w_CODE k2
  have S_w_CODE := Sta.start e_w_CODE (Or.inr ⟨(hw _ (List.mem_of_getElem? (i := 8) rfl)), (hw _ (List.mem_of_getElem? (i := 256) rfl))⟩)
  obtain ⟨w_ISBN_CHECK_DIGIT, e_w_ISBN_CHECK_DIGIT⟩ := exa_v k3
  have E_w_ISBN_CHECK_DIGIT := Exa.start e_w_ISBN_CHECK_DIGIT k3
  have S_w_ISBN_CHECK_DIGIT := Sta.start e_w_ISBN_CHECK_DIGIT (Or.inr ⟨(hw _ (List.mem_of_getElem? (i := 8) rfl)), (hw _ (List.mem_of_getElem? (i := 261) rfl))⟩)
  obtain ⟨wD, eD⟩ := arr_v (Cond.before_iff.mp (hsets _ (List.mem_of_getElem? (i := 15) rfl)))
  have SD := Sta.start eD (Or.inr ⟨(hw _ (List.mem_of_getElem? (i := 77) rfl)), (hsets _ (List.mem_of_getElem? (i := 11) rfl))⟩)
  obtain ⟨cD, AD⟩ := Arr.start eD (Cond.before_iff.mp (hsets _ (List.mem_of_getElem? (i := 15) rfl)))
  have lD := own_len eD AD (eqv_i (Term.int_eval (0)) (Cond.before_iff.mp (hsets _ (List.mem_of_getElem? (i := 17) rfl))))
  have VD := own_arv0 (d := .null) AD lD.1 lD.2
  obtain ⟨wL, eL⟩ := exa_v (Cond.before_iff.mp (hsets _ (List.mem_of_getElem? (i := 26) rfl)))
  have EL := Exa.start eL (Cond.before_iff.mp (hsets _ (List.mem_of_getElem? (i := 26) rfl)))
  have SL := Sta.start eL (Or.inl (hsets _ (List.mem_of_getElem? (i := 25) rfl)))
  have FL := own_fld eL (Cond.before_iff.mp (hsets _ (List.mem_of_getElem? (i := 33) rfl)))
  obtain ⟨wE, eE⟩ := exa_v (Cond.before_iff.mp (hsets _ (List.mem_of_getElem? (i := 20) rfl)))
  have SE := Sta.start eE (Or.inl (hsets _ (List.mem_of_getElem? (i := 19) rfl)))
  obtain ⟨cM, kM, wM, hM⟩ := hcalls.1
  have MM : own_Mir s "[Ljava/lang/Object;" wM := ⟨cM, kM, hM.1, hM.2.1, hM.2.2.1⟩
  by_cases hr : (i0 &&& (1 : Int32)) = (0 : Int32)
  · by_cases hv : (i0 &&& (2 : Int32)) = (0 : Int32)
    · by_cases hw0 : (i3 &&& (1 : Int32)) = (0 : Int32)
      · obtain ⟨n, o, h1, h2, h3, _, L, rfl, ⟨rfl, N⟩, hq⟩ := rm0r000 l s _ hw tables_1 wcs wD cD.cls wL i0 i1 i2 i3 w_NO_DOI w_ISBN_CHECK_DIGIT w_DOI_SYNTAX w_CODE s.heap s.heap.size (Old.start s) ncs SD VD SL EL FL hr hv hw0 S_w_NO_DOI S_w_ISBN_CHECK_DIGIT S_w_DOI_SYNTAX S_w_CODE Scs p e ha hc hk s m _ below hf ((Spec.applies_iff_loose hf).mp happ).1 ⟨rfl, State.Warmed39.refl s, rfl⟩ trivial
        refine ⟨n, _, h1, h2, h3, hpost _ _ _ _ _ _ ⟨Cond.after_iff.mpr rfl, Cond.after_iff.mpr (eq_i res_at (Term.int_eval (1)) rfl), trivial⟩ ⟨hq.1, hq.2.1, hq.2.2.1, (hq.2.2.2.sift fun y hy => Or.inr (N y hy)).mono (by decide) (by decide)⟩⟩
      · obtain ⟨n, o, h1, h2, h3, _, L, rfl, ⟨rfl, N⟩, hq⟩ := rm0r001 l s _ hw tables_1 wcs wD cD.cls wL i0 i1 i2 i3 w_NO_DOI w_ISBN_CHECK_DIGIT w_DOI_SYNTAX w_CODE wM wE s.heap s.heap.size (Old.start s) ncs SD VD SL EL FL hr hv hw0 S_w_NO_DOI S_w_ISBN_CHECK_DIGIT S_w_DOI_SYNTAX S_w_CODE Scs MM SE p e ha hc hk s m _ below hf ((Spec.applies_iff_loose hf).mp happ).1 ⟨rfl, State.Warmed39.refl s, rfl⟩ trivial
        refine ⟨n, _, h1, h2, h3, hpost _ _ _ _ _ _ ⟨Cond.after_iff.mpr rfl, Cond.after_iff.mpr (eq_i res_at (Term.int_eval (1)) rfl), trivial⟩ ⟨hq.1, hq.2.1, hq.2.2.1, (hq.2.2.2.sift fun y hy => Or.inr (N y hy)).mono (by decide) (by decide)⟩⟩
    · by_cases hw0 : (i3 &&& (1 : Int32)) = (0 : Int32)
      · obtain ⟨n, o, h1, h2, h3, _, L, rfl, ⟨rfl, N⟩, hq⟩ := rm0r010 l s _ hw tables_1 wcs wD cD.cls wL i0 i1 i2 i3 w_NO_DOI w_ISBN_CHECK_DIGIT w_DOI_SYNTAX w_CODE s.heap s.heap.size (Old.start s) ncs SD VD SL EL FL hr hv hw0 S_w_NO_DOI S_w_ISBN_CHECK_DIGIT S_w_DOI_SYNTAX S_w_CODE Scs p e ha hc hk s m _ below hf ((Spec.applies_iff_loose hf).mp happ).1 ⟨rfl, State.Warmed39.refl s, rfl⟩ trivial
        refine ⟨n, _, h1, h2, h3, hpost _ _ _ _ _ _ ⟨Cond.after_iff.mpr rfl, Cond.after_iff.mpr (eq_i res_at (Term.int_eval (1)) rfl), trivial⟩ ⟨hq.1, hq.2.1, hq.2.2.1, (hq.2.2.2.sift fun y hy => Or.inr (N y hy)).mono (by decide) (by decide)⟩⟩
      · obtain ⟨n, o, h1, h2, h3, _, L, rfl, ⟨rfl, N⟩, hq⟩ := rm0r011 l s _ hw tables_1 wcs wD cD.cls wL i0 i1 i2 i3 w_NO_DOI w_ISBN_CHECK_DIGIT w_DOI_SYNTAX w_CODE wM wE s.heap s.heap.size (Old.start s) ncs SD VD SL EL FL hr hv hw0 S_w_NO_DOI S_w_ISBN_CHECK_DIGIT S_w_DOI_SYNTAX S_w_CODE Scs MM SE p e ha hc hk s m _ below hf ((Spec.applies_iff_loose hf).mp happ).1 ⟨rfl, State.Warmed39.refl s, rfl⟩ trivial
        refine ⟨n, _, h1, h2, h3, hpost _ _ _ _ _ _ ⟨Cond.after_iff.mpr rfl, Cond.after_iff.mpr (eq_i res_at (Term.int_eval (1)) rfl), trivial⟩ ⟨hq.1, hq.2.1, hq.2.2.1, (hq.2.2.2.sift fun y hy => Or.inr (N y hy)).mono (by decide) (by decide)⟩⟩
  · by_cases hv : (i0 &&& (2 : Int32)) = (0 : Int32)
    · by_cases hw0 : (i3 &&& (1 : Int32)) = (0 : Int32)
      · obtain ⟨n, o, h1, h2, h3, _, L, rfl, ⟨rfl, N⟩, hq⟩ := rm0r100 l s _ hw tables_1 wcs wD cD.cls wL i0 i1 i2 i3 w_NO_DOI w_ISBN_CHECK_DIGIT w_DOI_SYNTAX w_CODE s.heap s.heap.size (Old.start s) ncs SD VD SL EL FL hr hv hw0 S_w_NO_DOI S_w_ISBN_CHECK_DIGIT S_w_DOI_SYNTAX S_w_CODE Scs p e ha hc hk s m _ below hf ((Spec.applies_iff_loose hf).mp happ).1 ⟨rfl, State.Warmed39.refl s, rfl⟩ trivial
        refine ⟨n, _, h1, h2, h3, hpost _ _ _ _ _ _ ⟨Cond.after_iff.mpr rfl, Cond.after_iff.mpr (eq_i res_at (Term.int_eval (1)) rfl), trivial⟩ ⟨hq.1, hq.2.1, hq.2.2.1, (hq.2.2.2.sift fun y hy => Or.inr (N y hy)).mono (by decide) (by decide)⟩⟩
      · obtain ⟨n, o, h1, h2, h3, _, L, rfl, ⟨rfl, N⟩, hq⟩ := rm0r101 l s _ hw tables_1 wcs wD cD.cls wL i0 i1 i2 i3 w_NO_DOI w_ISBN_CHECK_DIGIT w_DOI_SYNTAX w_CODE wM wE s.heap s.heap.size (Old.start s) ncs SD VD SL EL FL hr hv hw0 S_w_NO_DOI S_w_ISBN_CHECK_DIGIT S_w_DOI_SYNTAX S_w_CODE Scs MM SE p e ha hc hk s m _ below hf ((Spec.applies_iff_loose hf).mp happ).1 ⟨rfl, State.Warmed39.refl s, rfl⟩ trivial
        refine ⟨n, _, h1, h2, h3, hpost _ _ _ _ _ _ ⟨Cond.after_iff.mpr rfl, Cond.after_iff.mpr (eq_i res_at (Term.int_eval (1)) rfl), trivial⟩ ⟨hq.1, hq.2.1, hq.2.2.1, (hq.2.2.2.sift fun y hy => Or.inr (N y hy)).mono (by decide) (by decide)⟩⟩
    · by_cases hw0 : (i3 &&& (1 : Int32)) = (0 : Int32)
      · obtain ⟨n, o, h1, h2, h3, _, L, rfl, ⟨rfl, N⟩, hq⟩ := rm0r110 l s _ hw tables_1 wcs wD cD.cls wL i0 i1 i2 i3 w_NO_DOI w_ISBN_CHECK_DIGIT w_DOI_SYNTAX w_CODE s.heap s.heap.size (Old.start s) ncs SD VD SL EL FL hr hv hw0 S_w_NO_DOI S_w_ISBN_CHECK_DIGIT S_w_DOI_SYNTAX S_w_CODE Scs p e ha hc hk s m _ below hf ((Spec.applies_iff_loose hf).mp happ).1 ⟨rfl, State.Warmed39.refl s, rfl⟩ trivial
        refine ⟨n, _, h1, h2, h3, hpost _ _ _ _ _ _ ⟨Cond.after_iff.mpr rfl, Cond.after_iff.mpr (eq_i res_at (Term.int_eval (1)) rfl), trivial⟩ ⟨hq.1, hq.2.1, hq.2.2.1, (hq.2.2.2.sift fun y hy => Or.inr (N y hy)).mono (by decide) (by decide)⟩⟩
      · obtain ⟨n, o, h1, h2, h3, _, L, rfl, ⟨rfl, N⟩, hq⟩ := rm0r111 l s _ hw tables_1 wcs wD cD.cls wL i0 i1 i2 i3 w_NO_DOI w_ISBN_CHECK_DIGIT w_DOI_SYNTAX w_CODE s.heap s.heap.size (Old.start s) ncs SD VD SL EL FL hr hv hw0 S_w_NO_DOI S_w_ISBN_CHECK_DIGIT S_w_DOI_SYNTAX S_w_CODE Scs p e ha hc hk s m _ below hf ((Spec.applies_iff_loose hf).mp happ).1 ⟨rfl, State.Warmed39.refl s, rfl⟩ trivial
        refine ⟨n, _, h1, h2, h3, hpost _ _ _ _ _ _ ⟨Cond.after_iff.mpr rfl, Cond.after_iff.mpr (eq_i res_at (Term.int_eval (1)) rfl), trivial⟩ ⟨hq.1, hq.2.1, hq.2.2.1, (hq.2.2.2.sift fun y hy => Or.inr (N y hy)).mono (by decide) (by decide)⟩⟩
theorem main_1_1 : Claimed_1_1 := comes_1 fun _ _ _ _ _ _ h hF => ⟨h.1, hF⟩
theorem main_1_2 : Claimed_1_2 := comes_1 fun _ _ _ _ _ _ h hF => ⟨h.2.1, hF⟩
end Jvm.Pilot.@@N@@
namespace Jvm.Pilot.@@N@@
open Jvm Jvm.ClassFile Sem Op Lib Jvm.Free Jvm.Stand Jvm.Pilot.@@N@@.Jvm.D
/-! MADE BY PROGRAM (witnessworld.py) out of the Statement's table words and the real class files: 43 classes; the members and pool entries that the words name. The judged class is class 1, her method 2. -/
namespace start1
open Jvm.ClassFile
def u (s : String) : CpInfo := .utf8 (stringToUtf16 s)
/-- a pool by its gaps: so many unusable entries, then the entry; so many at the end -/
def gap : Nat → List CpInfo → List CpInfo
  | 0, r => r
  | n + 1, r => .unusable :: gap n r
def poolList (es : List (Nat × CpInfo)) (last : Nat) : List CpInfo := es.foldr (fun e r => gap e.1 (e.2 :: r)) (gap last [])
def pool (es : List (Nat × CpInfo)) (last : Nat) : Array CpInfo := ⟨poolList es last⟩
def fileOf (pool : Array CpInfo) (this : Nat) (attrs : Array Attribute := #[]) (ms : Array MethodInfo := #[]) (fl : Nat := 33) (sup : Nat := 0) (ifs : Array Nat := #[]) (fds : Array FieldInfo := #[]) : ClassFile where
  minorVersion := 0
  majorVersion := 65
  constantPool := pool
  accessFlags := fl
  thisClass := this
  superClass := sup
  interfaces := ifs
  fields := fds
  methods := ms
  attributes := attrs
def plain (name : String) (sup : Option ClassId) : Class where
  name := name
  kind := .ordinary
  loader := none
  accessFlags := 33
  super := sup
  interfaces := #[]
  cf := none
  fields := #[]
  methods := #[]
  instanceTypes := #[]
  staticTypes := #[]
  resolved := #[]
  callSites := []
  init := .initialized
  statics := none
  mirror := none

def pool0 : Array CpInfo := pool [(5, u "<init>"), (0, u "()V"), (1, .class_ 10), (1, u "java/lang/Object"), (0, u "getClass"), (0, u "()Ljava/lang/Class;")] 111

def k0c0 : Code := { maxStack := 0, maxLocals := 1, code := object_method_1_code, exceptionTable := #[], attributes := #[] }
def k0m0 : Method := { name := "<init>", desc := "()V", sig := { parameters := [], returnType := none }, accessFlags := 1, code := some k0c0 }
def k0m1 : Method := { name := "getClass", desc := "()Ljava/lang/Class;", sig := { parameters := [], returnType := some (.object "java/lang/Class") }, accessFlags := 273, code := none }
/-- java/lang/Object -/
def k0 : Class := { plain "java/lang/Object" none with
  accessFlags := 33
  interfaces := #[]
  cf := some (fileOf pool0 8 #[] #[{ accessFlags := 1, nameIndex := 5, descriptorIndex := 6, attributes := #[] }, { accessFlags := 273, nameIndex := 11, descriptorIndex := 12, attributes := #[] }] 33 0 #[] #[])
  fields := #[]
  methods := #[k0m0, k0m1]
  instanceTypes := #[]
  staticTypes := #[]
  resolved := Array.replicate 124 none
  statics := none }

def pool1 : Array CpInfo := pool [(2, .class_ 4), (0, .nameAndType 5 6), (0, u "java/lang/Object"), (0, u "<init>"), (0, u "()V"), (0, .fieldref 8 9), (0, .class_ 10), (0, .nameAndType 11 12), (0, u "com/example/deposita/deposita/core/Rule"), (0, u "NO_DOI"), (0, u "Lcom/example/deposita/deposita/core/Rule;"), (0, .fieldref 8 14), (0, .nameAndType 15 12), (0, u "ISBN_CHECK_DIGIT"), (0, .fieldref 8 17), (0, .nameAndType 18 12), (0, u "DOI_SYNTAX"), (0, .fieldref 8 20), (0, .nameAndType 21 12), (0, u "CODE"), (0, .class_ 23), (0, u "com/example/deposita/deposita/core/Finding"), (0, .methodref 25 26), (0, .class_ 27), (0, .nameAndType 28 29), (0, u "com/example/deposita/deposita/formats/MappedIsRefusedPinLaw"), (0, u "pick"), (0, u "(I)Lcom/example/deposita/deposita/core/Rule;"), (0, .methodref 31 32), (0, .class_ 33), (0, .nameAndType 34 35), (0, u "java/lang/String"), (0, u "valueOf"), (0, u "(C)Ljava/lang/String;"), (0, .methodref 22 37), (0, .nameAndType 5 38), (0, u "(Lcom/example/deposita/deposita/core/Rule;Ljava/lang/String;)V"), (0, .methodref 31 40), (0, .nameAndType 5 41), (0, u "([C)V"), (0, .class_ 43), (0, u "java/util/ArrayList"), (0, .methodref 42 3), (0, .methodref 42 46), (0, .nameAndType 47 48), (0, u "add"), (0, u "(Ljava/lang/Object;)Z"), (0, .methodref 50 51), (0, .class_ 52), (0, .nameAndType 53 54), (0, u "com/example/deposita/deposita/formats/Mapped"), (0, u "refused"), (0, u "(Ljava/lang/String;Lcom/example/deposita/deposita/core/Finding;)Lcom/example/deposita/deposita/formats/Mapped;"), (0, .methodref 50 56), (0, .nameAndType 5 57), (0, u "(Ljava/lang/String;Lcom/example/deposita/deposita/core/Product;Ljava/util/List;Lcom/example/deposita/deposita/core/Finding;)V"), (0, .methodref 50 59), (0, .nameAndType 60 61), (0, u "written"), (0, u "(Ljava/lang/String;Lcom/example/deposita/deposita/core/Product;Ljava/util/List;)Lcom/example/deposita/deposita/formats/Mapped;"), (0, .methodref 50 63), (0, .nameAndType 64 65), (0, u "isRefused"), (0, u "()Z"), (3, u "law"), (0, u "(IIII)Z")] 4

def k1m0 : Method := { name := "<init>", desc := "()V", sig := { parameters := [], returnType := none }, accessFlags := 2, code := none }
def k1c1 : Code := { maxStack := 2, maxLocals := 2, code := method_2_code, exceptionTable := #[], attributes := #[] }
def k1m1 : Method := { name := "pick", desc := "(I)Lcom/example/deposita/deposita/core/Rule;", sig := { parameters := [.int], returnType := some (.object "com/example/deposita/deposita/core/Rule") }, accessFlags := 10, code := some k1c1 }
def k1c2 : Code := { maxStack := 6, maxLocals := 12, code := code, exceptionTable := #[], attributes := #[] }
def k1m2 : Method := { name := "law", desc := "(IIII)Z", sig := { parameters := [.int, .int, .int, .int], returnType := some .boolean }, accessFlags := 9, code := some k1c2 }
/-- com/example/deposita/deposita/formats/MappedIsRefusedPinLaw -/
def k1 : Class := { plain "com/example/deposita/deposita/formats/MappedIsRefusedPinLaw" (some 0) with
  accessFlags := 49
  interfaces := #[]
  cf := some (fileOf pool1 25 #[] #[{ accessFlags := 2, nameIndex := 5, descriptorIndex := 6, attributes := #[] }, { accessFlags := 10, nameIndex := 28, descriptorIndex := 29, attributes := #[] }, { accessFlags := 9, nameIndex := 69, descriptorIndex := 70, attributes := #[] }] 49 2 #[] #[])
  fields := #[]
  methods := #[k1m0, k1m1, k1m2]
  instanceTypes := #[]
  staticTypes := #[]
  resolved := Array.replicate 75 none
  statics := none }

def pool2 : Array CpInfo := pool [(1, .methodref 2 3), (0, .class_ 4), (0, .nameAndType 5 6), (0, u "java/lang/Object"), (0, u "<init>"), (0, u "()V"), (0, .class_ 8), (0, u "java/lang/Record")] 13

def k2c0 : Code := { maxStack := 1, maxLocals := 1, code := jdk_30_method_1_code, exceptionTable := #[], attributes := #[] }
def k2m0 : Method := { name := "<init>", desc := "()V", sig := { parameters := [], returnType := none }, accessFlags := 4, code := some k2c0 }
/-- java/lang/Record -/
def k2 : Class := { plain "java/lang/Record" (some 0) with
  accessFlags := 1057
  interfaces := #[]
  cf := some (fileOf pool2 7 #[] #[{ accessFlags := 4, nameIndex := 5, descriptorIndex := 6, attributes := #[] }] 1057 2 #[] #[])
  fields := #[]
  methods := #[k2m0]
  instanceTypes := #[]
  staticTypes := #[]
  resolved := Array.replicate 22 none
  statics := none }

def pool3 : Array CpInfo := pool [(1, .methodref 2 3), (0, .class_ 4), (0, .nameAndType 5 6), (0, u "java/lang/Record"), (0, u "<init>"), (0, u "()V"), (0, .string 8), (0, u "rule"), (0, .methodref 10 11), (0, .class_ 12), (0, .nameAndType 13 14), (0, u "java/util/Objects"), (0, u "requireNonNull"), (0, u "(Ljava/lang/Object;Ljava/lang/String;)Ljava/lang/Object;"), (0, .string 16), (0, u "where"), (0, .fieldref 18 19), (0, .class_ 20), (0, .nameAndType 8 21), (0, u "com/example/deposita/deposita/core/Finding"), (0, u "Lcom/example/deposita/deposita/core/Rule;"), (0, .fieldref 18 23), (0, .nameAndType 16 24), (0, u "Ljava/lang/String;"), (4, u "(Lcom/example/deposita/deposita/core/Rule;Ljava/lang/String;)V")] 42

def k3c0 : Code := { maxStack := 2, maxLocals := 3, code := prog_10_method_1_code, exceptionTable := #[], attributes := #[] }
def k3m0 : Method := { name := "<init>", desc := "(Lcom/example/deposita/deposita/core/Rule;Ljava/lang/String;)V", sig := { parameters := [(.object "com/example/deposita/deposita/core/Rule"), (.object "java/lang/String")], returnType := none }, accessFlags := 1, code := some k3c0 }
/-- com/example/deposita/deposita/core/Finding -/
def k3 : Class := { plain "com/example/deposita/deposita/core/Finding" (some 2) with
  accessFlags := 49
  interfaces := #[]
  cf := some (fileOf pool3 18 #[] #[{ accessFlags := 1, nameIndex := 5, descriptorIndex := 29, attributes := #[] }] 49 2 #[] #[{ accessFlags := 18, nameIndex := 8, descriptorIndex := 21, attributes := #[] }, { accessFlags := 18, nameIndex := 16, descriptorIndex := 24, attributes := #[] }])
  fields := #[{ name := "rule", type := (.object "com/example/deposita/deposita/core/Rule"), accessFlags := 18, slot := 0, constantValue := 0 }, { name := "where", type := (.object "java/lang/String"), accessFlags := 18, slot := 1, constantValue := 0 }]
  methods := #[k3m0]
  instanceTypes := #[(.object "com/example/deposita/deposita/core/Rule"), (.object "java/lang/String")]
  staticTypes := #[]
  resolved := Array.replicate 72 none
  statics := none }

def pool4 : Array CpInfo := pool [(1, .class_ 2), (0, u "java/lang/constant/Constable"), (0, .class_ 4), (0, u "java/lang/Object")] 6

/-- java/lang/constant/Constable -/
def k4 : Class := { plain "java/lang/constant/Constable" (some 0) with
  accessFlags := 1537
  interfaces := #[]
  cf := some (fileOf pool4 1 #[] #[] 1537 3 #[] #[])
  fields := #[]
  methods := #[]
  instanceTypes := #[]
  staticTypes := #[]
  resolved := Array.replicate 11 none
  statics := none }

def pool5 : Array CpInfo := pool [(1, .class_ 2), (0, u "java/lang/Comparable"), (0, .class_ 4), (0, u "java/lang/Object")] 7

/-- java/lang/Comparable -/
def k5 : Class := { plain "java/lang/Comparable" (some 0) with
  accessFlags := 1537
  interfaces := #[]
  cf := some (fileOf pool5 1 #[] #[] 1537 3 #[] #[])
  fields := #[]
  methods := #[]
  instanceTypes := #[]
  staticTypes := #[]
  resolved := Array.replicate 12 none
  statics := none }

def pool6 : Array CpInfo := pool [(1, .class_ 2), (0, u "java/io/Serializable"), (0, .class_ 4), (0, u "java/lang/Object")] 2

/-- java/io/Serializable -/
def k6 : Class := { plain "java/io/Serializable" (some 0) with
  accessFlags := 1537
  interfaces := #[]
  cf := some (fileOf pool6 1 #[] #[] 1537 3 #[] #[])
  fields := #[]
  methods := #[]
  instanceTypes := #[]
  staticTypes := #[]
  resolved := Array.replicate 7 none
  statics := none }

def pool7 : Array CpInfo := pool [(2, .class_ 4), (1, u "java/lang/Enum"), (0, u "name"), (0, u "Ljava/lang/String;"), (2, u "ordinal"), (0, u "I"), (1, .class_ 14), (1, u "java/lang/Object"), (4, u "hash"), (86, .class_ 108), (1, u "java/lang/Enum$EnumDesc"), (2, .class_ 112), (0, u "java/lang/constant/Constable"), (0, .class_ 114), (0, u "java/lang/Comparable"), (0, .class_ 116), (0, u "java/io/Serializable")] 87

/-- java/lang/Enum -/
def k7 : Class := { plain "java/lang/Enum" (some 0) with
  accessFlags := 1057
  interfaces := #[4, 5, 6]
  cf := some (fileOf pool7 2 #[.nestMembers #[106]] #[] 1057 12 #[111, 113, 115] #[{ accessFlags := 18, nameIndex := 5, descriptorIndex := 6, attributes := #[] }, { accessFlags := 18, nameIndex := 9, descriptorIndex := 10, attributes := #[] }, { accessFlags := 2, nameIndex := 19, descriptorIndex := 10, attributes := #[] }])
  fields := #[{ name := "name", type := (.object "java/lang/String"), accessFlags := 18, slot := 0, constantValue := 0 }, { name := "ordinal", type := .int, accessFlags := 18, slot := 1, constantValue := 0 }, { name := "hash", type := .int, accessFlags := 2, slot := 2, constantValue := 0 }]
  methods := #[]
  instanceTypes := #[(.object "java/lang/String"), .int, .int]
  staticTypes := #[]
  resolved := Array.replicate 204 none
  statics := none }

def pool8 : Array CpInfo := pool [(1, .class_ 2), (0, u "com/example/deposita/deposita/core/Rule"), (2, u "USAGE"), (0, u "Lcom/example/deposita/deposita/core/Rule;"), (2, u "SENT_FORMAT"), (2, u "UNREADABLE"), (2, u "NOT_ISO2709"), (2, u "NOT_MARCXML"), (2, u "NOT_JATS"), (2, u "UNWRITABLE"), (2, u "MISSING_KEY"), (2, u "EMAIL_SYNTAX"), (2, u "REFERENCE_FORMAT"), (2, u "LENGTH"), (2, u "UNDECODABLE"), (2, u "NON_XML_CHARACTER"), (2, u "NON_ISO2709_CHARACTER"), (2, u "ISO2709_LENGTH"), (2, u "NO_DOI"), (2, u "SEVERAL_DOIS"), (2, u "DOI_SYNTAX"), (2, u "DOI_LENGTH"), (2, u "DUPLICATE_DOI"), (2, u "DOI_PATTERN"), (2, u "NO_LANDING_PAGE"), (2, u "LINK_LENGTH"), (2, u "ISBN_CHECK_DIGIT"), (2, u "ISSN_PATTERN"), (2, u "ISBN_LENGTH"), (2, u "NOT_FORWARDED"), (2, u "EMPTY_CITATION"), (2, u "NO_CITATION"), (2, u "NOT_WELL_FORMED"), (2, u "WRONG_ROOT"), (2, u "MISSING"), (2, u "ORDER"), (2, u "REPEATED"), (2, u "UNKNOWN"), (2, u "CODE"), (2, u "$VALUES"), (0, u "[Lcom/example/deposita/deposita/core/Rule;"), (6, .class_ 124), (1, u "java/lang/Enum"), (8, u "summary"), (0, u "Ljava/lang/String;")] 152

/-- com/example/deposita/deposita/core/Rule -/
def k8 : Class := { plain "com/example/deposita/deposita/core/Rule" (some 7) with
  accessFlags := 16433
  interfaces := #[]
  cf := some (fileOf pool8 1 #[] #[] 16433 122 #[] #[{ accessFlags := 16409, nameIndex := 5, descriptorIndex := 6, attributes := #[] }, { accessFlags := 16409, nameIndex := 9, descriptorIndex := 6, attributes := #[] }, { accessFlags := 16409, nameIndex := 12, descriptorIndex := 6, attributes := #[] }, { accessFlags := 16409, nameIndex := 15, descriptorIndex := 6, attributes := #[] }, { accessFlags := 16409, nameIndex := 18, descriptorIndex := 6, attributes := #[] }, { accessFlags := 16409, nameIndex := 21, descriptorIndex := 6, attributes := #[] }, { accessFlags := 16409, nameIndex := 24, descriptorIndex := 6, attributes := #[] }, { accessFlags := 16409, nameIndex := 27, descriptorIndex := 6, attributes := #[] }, { accessFlags := 16409, nameIndex := 30, descriptorIndex := 6, attributes := #[] }, { accessFlags := 16409, nameIndex := 33, descriptorIndex := 6, attributes := #[] }, { accessFlags := 16409, nameIndex := 36, descriptorIndex := 6, attributes := #[] }, { accessFlags := 16409, nameIndex := 39, descriptorIndex := 6, attributes := #[] }, { accessFlags := 16409, nameIndex := 42, descriptorIndex := 6, attributes := #[] }, { accessFlags := 16409, nameIndex := 45, descriptorIndex := 6, attributes := #[] }, { accessFlags := 16409, nameIndex := 48, descriptorIndex := 6, attributes := #[] }, { accessFlags := 16409, nameIndex := 51, descriptorIndex := 6, attributes := #[] }, { accessFlags := 16409, nameIndex := 54, descriptorIndex := 6, attributes := #[] }, { accessFlags := 16409, nameIndex := 57, descriptorIndex := 6, attributes := #[] }, { accessFlags := 16409, nameIndex := 60, descriptorIndex := 6, attributes := #[] }, { accessFlags := 16409, nameIndex := 63, descriptorIndex := 6, attributes := #[] }, { accessFlags := 16409, nameIndex := 66, descriptorIndex := 6, attributes := #[] }, { accessFlags := 16409, nameIndex := 69, descriptorIndex := 6, attributes := #[] }, { accessFlags := 16409, nameIndex := 72, descriptorIndex := 6, attributes := #[] }, { accessFlags := 16409, nameIndex := 75, descriptorIndex := 6, attributes := #[] }, { accessFlags := 16409, nameIndex := 78, descriptorIndex := 6, attributes := #[] }, { accessFlags := 16409, nameIndex := 81, descriptorIndex := 6, attributes := #[] }, { accessFlags := 16409, nameIndex := 84, descriptorIndex := 6, attributes := #[] }, { accessFlags := 16409, nameIndex := 87, descriptorIndex := 6, attributes := #[] }, { accessFlags := 16409, nameIndex := 90, descriptorIndex := 6, attributes := #[] }, { accessFlags := 16409, nameIndex := 93, descriptorIndex := 6, attributes := #[] }, { accessFlags := 16409, nameIndex := 96, descriptorIndex := 6, attributes := #[] }, { accessFlags := 16409, nameIndex := 99, descriptorIndex := 6, attributes := #[] }, { accessFlags := 16409, nameIndex := 102, descriptorIndex := 6, attributes := #[] }, { accessFlags := 16409, nameIndex := 105, descriptorIndex := 6, attributes := #[] }, { accessFlags := 16409, nameIndex := 108, descriptorIndex := 6, attributes := #[] }, { accessFlags := 16409, nameIndex := 111, descriptorIndex := 6, attributes := #[] }, { accessFlags := 18, nameIndex := 133, descriptorIndex := 134, attributes := #[] }, { accessFlags := 4122, nameIndex := 114, descriptorIndex := 115, attributes := #[] }])
  fields := #[{ name := "USAGE", type := (.object "com/example/deposita/deposita/core/Rule"), accessFlags := 16409, slot := 0, constantValue := 0 }, { name := "SENT_FORMAT", type := (.object "com/example/deposita/deposita/core/Rule"), accessFlags := 16409, slot := 1, constantValue := 0 }, { name := "UNREADABLE", type := (.object "com/example/deposita/deposita/core/Rule"), accessFlags := 16409, slot := 2, constantValue := 0 }, { name := "NOT_ISO2709", type := (.object "com/example/deposita/deposita/core/Rule"), accessFlags := 16409, slot := 3, constantValue := 0 }, { name := "NOT_MARCXML", type := (.object "com/example/deposita/deposita/core/Rule"), accessFlags := 16409, slot := 4, constantValue := 0 }, { name := "NOT_JATS", type := (.object "com/example/deposita/deposita/core/Rule"), accessFlags := 16409, slot := 5, constantValue := 0 }, { name := "UNWRITABLE", type := (.object "com/example/deposita/deposita/core/Rule"), accessFlags := 16409, slot := 6, constantValue := 0 }, { name := "MISSING_KEY", type := (.object "com/example/deposita/deposita/core/Rule"), accessFlags := 16409, slot := 7, constantValue := 0 }, { name := "EMAIL_SYNTAX", type := (.object "com/example/deposita/deposita/core/Rule"), accessFlags := 16409, slot := 8, constantValue := 0 }, { name := "REFERENCE_FORMAT", type := (.object "com/example/deposita/deposita/core/Rule"), accessFlags := 16409, slot := 9, constantValue := 0 }, { name := "LENGTH", type := (.object "com/example/deposita/deposita/core/Rule"), accessFlags := 16409, slot := 10, constantValue := 0 }, { name := "UNDECODABLE", type := (.object "com/example/deposita/deposita/core/Rule"), accessFlags := 16409, slot := 11, constantValue := 0 }, { name := "NON_XML_CHARACTER", type := (.object "com/example/deposita/deposita/core/Rule"), accessFlags := 16409, slot := 12, constantValue := 0 }, { name := "NON_ISO2709_CHARACTER", type := (.object "com/example/deposita/deposita/core/Rule"), accessFlags := 16409, slot := 13, constantValue := 0 }, { name := "ISO2709_LENGTH", type := (.object "com/example/deposita/deposita/core/Rule"), accessFlags := 16409, slot := 14, constantValue := 0 }, { name := "NO_DOI", type := (.object "com/example/deposita/deposita/core/Rule"), accessFlags := 16409, slot := 15, constantValue := 0 }, { name := "SEVERAL_DOIS", type := (.object "com/example/deposita/deposita/core/Rule"), accessFlags := 16409, slot := 16, constantValue := 0 }, { name := "DOI_SYNTAX", type := (.object "com/example/deposita/deposita/core/Rule"), accessFlags := 16409, slot := 17, constantValue := 0 }, { name := "DOI_LENGTH", type := (.object "com/example/deposita/deposita/core/Rule"), accessFlags := 16409, slot := 18, constantValue := 0 }, { name := "DUPLICATE_DOI", type := (.object "com/example/deposita/deposita/core/Rule"), accessFlags := 16409, slot := 19, constantValue := 0 }, { name := "DOI_PATTERN", type := (.object "com/example/deposita/deposita/core/Rule"), accessFlags := 16409, slot := 20, constantValue := 0 }, { name := "NO_LANDING_PAGE", type := (.object "com/example/deposita/deposita/core/Rule"), accessFlags := 16409, slot := 21, constantValue := 0 }, { name := "LINK_LENGTH", type := (.object "com/example/deposita/deposita/core/Rule"), accessFlags := 16409, slot := 22, constantValue := 0 }, { name := "ISBN_CHECK_DIGIT", type := (.object "com/example/deposita/deposita/core/Rule"), accessFlags := 16409, slot := 23, constantValue := 0 }, { name := "ISSN_PATTERN", type := (.object "com/example/deposita/deposita/core/Rule"), accessFlags := 16409, slot := 24, constantValue := 0 }, { name := "ISBN_LENGTH", type := (.object "com/example/deposita/deposita/core/Rule"), accessFlags := 16409, slot := 25, constantValue := 0 }, { name := "NOT_FORWARDED", type := (.object "com/example/deposita/deposita/core/Rule"), accessFlags := 16409, slot := 26, constantValue := 0 }, { name := "EMPTY_CITATION", type := (.object "com/example/deposita/deposita/core/Rule"), accessFlags := 16409, slot := 27, constantValue := 0 }, { name := "NO_CITATION", type := (.object "com/example/deposita/deposita/core/Rule"), accessFlags := 16409, slot := 28, constantValue := 0 }, { name := "NOT_WELL_FORMED", type := (.object "com/example/deposita/deposita/core/Rule"), accessFlags := 16409, slot := 29, constantValue := 0 }, { name := "WRONG_ROOT", type := (.object "com/example/deposita/deposita/core/Rule"), accessFlags := 16409, slot := 30, constantValue := 0 }, { name := "MISSING", type := (.object "com/example/deposita/deposita/core/Rule"), accessFlags := 16409, slot := 31, constantValue := 0 }, { name := "ORDER", type := (.object "com/example/deposita/deposita/core/Rule"), accessFlags := 16409, slot := 32, constantValue := 0 }, { name := "REPEATED", type := (.object "com/example/deposita/deposita/core/Rule"), accessFlags := 16409, slot := 33, constantValue := 0 }, { name := "UNKNOWN", type := (.object "com/example/deposita/deposita/core/Rule"), accessFlags := 16409, slot := 34, constantValue := 0 }, { name := "CODE", type := (.object "com/example/deposita/deposita/core/Rule"), accessFlags := 16409, slot := 35, constantValue := 0 }, { name := "summary", type := (.object "java/lang/String"), accessFlags := 18, slot := 3, constantValue := 0 }, { name := "$VALUES", type := (.array (.object "com/example/deposita/deposita/core/Rule")), accessFlags := 4122, slot := 36, constantValue := 0 }]
  methods := #[]
  instanceTypes := #[(.object "java/lang/String"), .int, .int, (.object "java/lang/String")]
  staticTypes := #[(.object "com/example/deposita/deposita/core/Rule"), (.object "com/example/deposita/deposita/core/Rule"), (.object "com/example/deposita/deposita/core/Rule"), (.object "com/example/deposita/deposita/core/Rule"), (.object "com/example/deposita/deposita/core/Rule"), (.object "com/example/deposita/deposita/core/Rule"), (.object "com/example/deposita/deposita/core/Rule"), (.object "com/example/deposita/deposita/core/Rule"), (.object "com/example/deposita/deposita/core/Rule"), (.object "com/example/deposita/deposita/core/Rule"), (.object "com/example/deposita/deposita/core/Rule"), (.object "com/example/deposita/deposita/core/Rule"), (.object "com/example/deposita/deposita/core/Rule"), (.object "com/example/deposita/deposita/core/Rule"), (.object "com/example/deposita/deposita/core/Rule"), (.object "com/example/deposita/deposita/core/Rule"), (.object "com/example/deposita/deposita/core/Rule"), (.object "com/example/deposita/deposita/core/Rule"), (.object "com/example/deposita/deposita/core/Rule"), (.object "com/example/deposita/deposita/core/Rule"), (.object "com/example/deposita/deposita/core/Rule"), (.object "com/example/deposita/deposita/core/Rule"), (.object "com/example/deposita/deposita/core/Rule"), (.object "com/example/deposita/deposita/core/Rule"), (.object "com/example/deposita/deposita/core/Rule"), (.object "com/example/deposita/deposita/core/Rule"), (.object "com/example/deposita/deposita/core/Rule"), (.object "com/example/deposita/deposita/core/Rule"), (.object "com/example/deposita/deposita/core/Rule"), (.object "com/example/deposita/deposita/core/Rule"), (.object "com/example/deposita/deposita/core/Rule"), (.object "com/example/deposita/deposita/core/Rule"), (.object "com/example/deposita/deposita/core/Rule"), (.object "com/example/deposita/deposita/core/Rule"), (.object "com/example/deposita/deposita/core/Rule"), (.object "com/example/deposita/deposita/core/Rule"), (.array (.object "com/example/deposita/deposita/core/Rule"))]
  resolved := Array.replicate 287 none
  statics := some 0 }

def pool9 : Array CpInfo := pool [(2, .class_ 4), (1, u "java/lang/CharSequence"), (42, .class_ 48), (0, u "java/lang/CharSequence$1CodePointIterator"), (10, .class_ 60), (0, u "java/lang/CharSequence$1CharIterator"), (5, .class_ 67), (0, u "java/lang/Object")] 63

/-- java/lang/CharSequence -/
def k9 : Class := { plain "java/lang/CharSequence" (some 0) with
  accessFlags := 1537
  interfaces := #[]
  cf := some (fileOf pool9 2 #[.nestMembers #[47, 59]] #[] 1537 66 #[] #[])
  fields := #[]
  methods := #[]
  instanceTypes := #[]
  staticTypes := #[]
  resolved := Array.replicate 131 none
  statics := none }

def pool10 : Array CpInfo := pool [(1, .class_ 2), (0, u "java/lang/constant/ConstantDesc"), (0, .class_ 4), (0, u "java/lang/Object")] 32

/-- java/lang/constant/ConstantDesc -/
def k10 : Class := { plain "java/lang/constant/ConstantDesc" (some 0) with
  accessFlags := 1537
  interfaces := #[]
  cf := some (fileOf pool10 1 #[] #[] 1537 3 #[] #[])
  fields := #[]
  methods := #[]
  instanceTypes := #[]
  staticTypes := #[]
  resolved := Array.replicate 37 none
  statics := none }

def pool11 : Array CpInfo := pool [(1, .methodref 2 3), (0, .class_ 4), (0, .nameAndType 5 6), (0, u "java/lang/Object"), (0, u "<init>"), (0, u "()V"), (2, .fieldref 10 11), (0, .class_ 12), (0, .nameAndType 13 14), (0, u "java/lang/String"), (0, u "value"), (0, u "[B"), (0, .fieldref 10 16), (0, .nameAndType 17 18), (0, u "coder"), (0, u "B"), (2, u "hash"), (0, u "I"), (2, u "hashIsZero"), (0, u "Z"), (0, .methodref 10 28), (0, .nameAndType 5 29), (0, u "([CIILjava/lang/Void;)V"), (8, .fieldref 10 39), (0, .nameAndType 40 26), (0, u "COMPACT_STRINGS"), (1, .class_ 44), (1, u "java/lang/StringUTF16"), (0, u "compress"), (1, .methodref 42 48), (0, .nameAndType 49 50), (0, u "coderFromArrayLen"), (0, u "([BI)B"), (2, u "toBytes"), (53, .class_ 109), (1, u "java/lang/StringLatin1"), (67, .methodref 42 178), (0, .nameAndType 45 179), (0, u "([CII)[B"), (29, .methodref 10 210), (0, .nameAndType 5 211), (0, u "([BB)V"), (157, u "(C)Z"), (205, .class_ 576), (0, u "java/lang/CharSequence"), (22, u "CASE_INSENSITIVE_ORDER"), (0, u "Ljava/util/Comparator;"), (181, u "valueOf"), (0, u "(C)Ljava/lang/String;"), (226, u "([C)V"), (4, .methodref 107 1016), (0, .nameAndType 1017 369), (0, u "canEncode"), (0, .methodref 107 1019), (0, .nameAndType 53 1020), (0, u "(C)[B"), (80, u "serialPersistentFields"), (0, u "[Ljava/io/ObjectStreamField;"), (0, .class_ 1104), (0, u "java/lang/String$CaseInsensitiveComparator"), (1, .class_ 1107), (0, u "java/io/Serializable"), (0, .class_ 1109), (0, u "java/lang/Comparable"), (0, .class_ 1111), (0, u "java/lang/constant/Constable"), (0, .class_ 1113), (0, u "java/lang/constant/ConstantDesc"), (2, u "serialVersionUID"), (0, u "J"), (3, u "REPL"), (0, u "C"), (2, u "LATIN1"), (1, u "UTF16")] 323

def k11m0 : Method := { name := "<init>", desc := "()V", sig := { parameters := [], returnType := none }, accessFlags := 1, code := none }
def k11c1 : Code := { maxStack := 5, maxLocals := 2, code := jdk_42_method_3_code, exceptionTable := #[], attributes := #[] }
def k11m1 : Method := { name := "<init>", desc := "([C)V", sig := { parameters := [(.array .char)], returnType := none }, accessFlags := 1, code := some k11c1 }
def k11c2 : Code := { maxStack := 4, maxLocals := 1, code := jdk_42_method_139_code, exceptionTable := #[], attributes := #[] }
def k11m2 : Method := { name := "valueOf", desc := "(C)Ljava/lang/String;", sig := { parameters := [.char], returnType := some (.object "java/lang/String") }, accessFlags := 9, code := some k11c2 }
def k11c3 : Code := { maxStack := 4, maxLocals := 6, code := jdk_42_method_149_code, exceptionTable := #[], attributes := #[] }
def k11m3 : Method := { name := "<init>", desc := "([CIILjava/lang/Void;)V", sig := { parameters := [(.array .char), .int, .int, (.object "java/lang/Void")], returnType := none }, accessFlags := 2, code := some k11c3 }
def k11c4 : Code := { maxStack := 2, maxLocals := 3, code := jdk_42_method_151_code, exceptionTable := #[], attributes := #[] }
def k11m4 : Method := { name := "<init>", desc := "([BB)V", sig := { parameters := [(.array .byte), .byte], returnType := none }, accessFlags := 0, code := some k11c4 }
/-- java/lang/String -/
def k11 : Class := { plain "java/lang/String" (some 0) with
  accessFlags := 49
  interfaces := #[6, 5, 9, 4, 10]
  cf := some (fileOf pool11 10 #[.nestMembers #[1103]] #[{ accessFlags := 1, nameIndex := 5, descriptorIndex := 6, attributes := #[] }, { accessFlags := 1, nameIndex := 5, descriptorIndex := 1010, attributes := #[] }, { accessFlags := 9, nameIndex := 782, descriptorIndex := 783, attributes := #[] }, { accessFlags := 2, nameIndex := 5, descriptorIndex := 29, attributes := #[] }, { accessFlags := 0, nameIndex := 5, descriptorIndex := 211, attributes := #[] }] 49 2 #[1106, 1108, 575, 1110, 1112] #[{ accessFlags := 18, nameIndex := 13, descriptorIndex := 14, attributes := #[] }, { accessFlags := 18, nameIndex := 17, descriptorIndex := 18, attributes := #[] }, { accessFlags := 2, nameIndex := 21, descriptorIndex := 22, attributes := #[] }, { accessFlags := 2, nameIndex := 25, descriptorIndex := 26, attributes := #[] }, { accessFlags := 26, nameIndex := 1116, descriptorIndex := 1117, attributes := #[] }, { accessFlags := 24, nameIndex := 40, descriptorIndex := 26, attributes := #[] }, { accessFlags := 26, nameIndex := 1101, descriptorIndex := 1102, attributes := #[] }, { accessFlags := 26, nameIndex := 1121, descriptorIndex := 1122, attributes := #[] }, { accessFlags := 25, nameIndex := 599, descriptorIndex := 600, attributes := #[] }, { accessFlags := 24, nameIndex := 1125, descriptorIndex := 18, attributes := #[] }, { accessFlags := 24, nameIndex := 1127, descriptorIndex := 18, attributes := #[] }])
  fields := #[{ name := "value", type := (.array .byte), accessFlags := 18, slot := 0, constantValue := 0 }, { name := "coder", type := .byte, accessFlags := 18, slot := 1, constantValue := 0 }, { name := "hash", type := .int, accessFlags := 2, slot := 2, constantValue := 0 }, { name := "hashIsZero", type := .boolean, accessFlags := 2, slot := 3, constantValue := 0 }, { name := "serialVersionUID", type := .long, accessFlags := 26, slot := 0, constantValue := 0 }, { name := "COMPACT_STRINGS", type := .boolean, accessFlags := 24, slot := 1, constantValue := 0 }, { name := "serialPersistentFields", type := (.array (.object "java/io/ObjectStreamField")), accessFlags := 26, slot := 2, constantValue := 0 }, { name := "REPL", type := .char, accessFlags := 26, slot := 3, constantValue := 0 }, { name := "CASE_INSENSITIVE_ORDER", type := (.object "java/util/Comparator"), accessFlags := 25, slot := 4, constantValue := 0 }, { name := "LATIN1", type := .byte, accessFlags := 24, slot := 5, constantValue := 0 }, { name := "UTF16", type := .byte, accessFlags := 24, slot := 6, constantValue := 0 }]
  methods := #[k11m0, k11m1, k11m2, k11m3, k11m4]
  instanceTypes := #[(.array .byte), .byte, .int, .boolean]
  staticTypes := #[.long, .boolean, (.array (.object "java/io/ObjectStreamField")), .char, (.object "java/util/Comparator"), .byte, .byte]
  resolved := Array.replicate 1451 none
  statics := some 1 }

def pool12 : Array CpInfo := pool [(4, .class_ 6), (1, u "java/lang/Object"), (0, u "<init>"), (0, u "()V"), (5, .class_ 16), (1, u "java/lang/StringLatin1"), (73, u "canEncode"), (14, u "(C)Z"), (15, u "$assertionsDisabled"), (0, u "Z"), (98, .class_ 223), (1, u "java/lang/StringLatin1$LinesSpliterator"), (156, u "toBytes"), (1, u "(C)[B"), (7, .class_ 391), (0, u "java/lang/StringLatin1$CharsSpliterator")] 3

def k12m0 : Method := { name := "<init>", desc := "()V", sig := { parameters := [], returnType := none }, accessFlags := 0, code := none }
def k12c1 : Code := { maxStack := 2, maxLocals := 1, code := jdk_43_method_3_code, exceptionTable := #[], attributes := #[] }
def k12m1 : Method := { name := "canEncode", desc := "(C)Z", sig := { parameters := [.char], returnType := some .boolean }, accessFlags := 9, code := some k12c1 }
def k12c2 : Code := { maxStack := 4, maxLocals := 1, code := jdk_43_method_46_code, exceptionTable := #[], attributes := #[] }
def k12m2 : Method := { name := "toBytes", desc := "(C)[B", sig := { parameters := [.char], returnType := some (.array .byte) }, accessFlags := 9, code := some k12c2 }
/-- java/lang/StringLatin1 -/
def k12 : Class := { plain "java/lang/StringLatin1" (some 0) with
  accessFlags := 48
  interfaces := #[]
  cf := some (fileOf pool12 14 #[.nestMembers #[390, 221]] #[{ accessFlags := 0, nameIndex := 7, descriptorIndex := 8, attributes := #[] }, { accessFlags := 9, nameIndex := 90, descriptorIndex := 105, attributes := #[] }, { accessFlags := 9, nameIndex := 380, descriptorIndex := 382, attributes := #[] }] 48 4 #[] #[{ accessFlags := 4120, nameIndex := 121, descriptorIndex := 122, attributes := #[] }])
  fields := #[{ name := "$assertionsDisabled", type := .boolean, accessFlags := 4120, slot := 0, constantValue := 0 }]
  methods := #[k12m0, k12m1, k12m2]
  instanceTypes := #[]
  staticTypes := #[.boolean]
  resolved := Array.replicate 395 none
  statics := none }

def pool13 : Array CpInfo := pool [(2, .class_ 4), (1, u "java/lang/Object"), (0, u "<init>"), (0, u "()V"), (35, .class_ 44), (1, u "java/util/Objects"), (0, u "requireNonNull"), (0, u "(Ljava/lang/Object;)Ljava/lang/Object;"), (47, u "(Ljava/lang/Object;Ljava/lang/String;)Ljava/lang/Object;")] 89

def k13m0 : Method := { name := "<init>", desc := "()V", sig := { parameters := [], returnType := none }, accessFlags := 2, code := none }
def k13c1 : Code := { maxStack := 2, maxLocals := 1, code := jdk_31_method_10_code, exceptionTable := #[], attributes := #[] }
def k13m1 : Method := { name := "requireNonNull", desc := "(Ljava/lang/Object;)Ljava/lang/Object;", sig := { parameters := [(.object "java/lang/Object")], returnType := some (.object "java/lang/Object") }, accessFlags := 9, code := some k13c1 }
def k13c2 : Code := { maxStack := 3, maxLocals := 2, code := jdk_31_method_11_code, exceptionTable := #[], attributes := #[] }
def k13m2 : Method := { name := "requireNonNull", desc := "(Ljava/lang/Object;Ljava/lang/String;)Ljava/lang/Object;", sig := { parameters := [(.object "java/lang/Object"), (.object "java/lang/String")], returnType := some (.object "java/lang/Object") }, accessFlags := 9, code := some k13c2 }
/-- java/util/Objects -/
def k13 : Class := { plain "java/util/Objects" (some 0) with
  accessFlags := 49
  interfaces := #[]
  cf := some (fileOf pool13 42 #[] #[{ accessFlags := 2, nameIndex := 5, descriptorIndex := 6, attributes := #[] }, { accessFlags := 9, nameIndex := 45, descriptorIndex := 46, attributes := #[] }, { accessFlags := 9, nameIndex := 45, descriptorIndex := 94, attributes := #[] }] 49 2 #[] #[])
  fields := #[]
  methods := #[k13m0, k13m1, k13m2]
  instanceTypes := #[]
  staticTypes := #[]
  resolved := Array.replicate 184 none
  statics := none }

def pool14 : Array CpInfo := pool [(6, .class_ 8), (1, u "java/lang/Object"), (0, u "<init>"), (0, u "()V"), (1, .class_ 14), (1, u "java/lang/StringUTF16"), (31, u "$assertionsDisabled"), (0, u "Z"), (13, u "HI_BYTE_SHIFT"), (0, u "I"), (2, u "LO_BYTE_SHIFT"), (49, .methodref 12 116), (0, .nameAndType 117 118), (0, u "compress"), (0, u "([CI[BII)I"), (3, u "([CII)[B"), (138, u "coderFromArrayLen"), (0, u "([BI)B"), (106, .class_ 371), (1, u "java/lang/StringUTF16$LinesSpliterator"), (58, u "MAX_LENGTH"), (196, .class_ 628), (0, u "java/lang/StringUTF16$CodePointsSpliterator"), (0, .class_ 630), (0, u "java/lang/StringUTF16$CharsSpliterator")] 4

def k14m0 : Method := { name := "<init>", desc := "()V", sig := { parameters := [], returnType := none }, accessFlags := 0, code := none }
def k14c1 : Code := { maxStack := 2, maxLocals := 2, code := jdk_52_method_15_code, exceptionTable := #[], attributes := #[] }
def k14m1 : Method := { name := "coderFromArrayLen", desc := "([BI)B", sig := { parameters := [(.array .byte), .int], returnType := some .byte }, accessFlags := 8, code := some k14c1 }
def k14c2 : Code := { maxStack := 5, maxLocals := 6, code := jdk_52_method_16_code, exceptionTable := #[], attributes := #[] }
def k14m2 : Method := { name := "compress", desc := "([CII)[B", sig := { parameters := [(.array .char), .int, .int], returnType := some (.array .byte) }, accessFlags := 9, code := some k14c2 }
def k14c3 : Code := { maxStack := 3, maxLocals := 7, code := jdk_52_method_21_code, exceptionTable := #[], attributes := #[] }
def k14m3 : Method := { name := "compress", desc := "([CI[BII)I", sig := { parameters := [(.array .char), .int, (.array .byte), .int, .int], returnType := some .int }, accessFlags := 9, code := some k14c3 }
/-- java/lang/StringUTF16 -/
def k14 : Class := { plain "java/lang/StringUTF16" (some 0) with
  accessFlags := 48
  interfaces := #[]
  cf := some (fileOf pool14 12 #[.nestMembers #[627, 629, 369]] #[{ accessFlags := 0, nameIndex := 9, descriptorIndex := 10, attributes := #[] }, { accessFlags := 8, nameIndex := 261, descriptorIndex := 262, attributes := #[] }, { accessFlags := 9, nameIndex := 117, descriptorIndex := 122, attributes := #[] }, { accessFlags := 9, nameIndex := 117, descriptorIndex := 118, attributes := #[] }] 48 6 #[] #[{ accessFlags := 26, nameIndex := 61, descriptorIndex := 62, attributes := #[] }, { accessFlags := 26, nameIndex := 65, descriptorIndex := 62, attributes := #[] }, { accessFlags := 24, nameIndex := 430, descriptorIndex := 62, attributes := #[] }, { accessFlags := 4120, nameIndex := 46, descriptorIndex := 47, attributes := #[] }])
  fields := #[{ name := "HI_BYTE_SHIFT", type := .int, accessFlags := 26, slot := 0, constantValue := 0 }, { name := "LO_BYTE_SHIFT", type := .int, accessFlags := 26, slot := 1, constantValue := 0 }, { name := "MAX_LENGTH", type := .int, accessFlags := 24, slot := 2, constantValue := 0 }, { name := "$assertionsDisabled", type := .boolean, accessFlags := 4120, slot := 3, constantValue := 0 }]
  methods := #[k14m0, k14m1, k14m2, k14m3]
  instanceTypes := #[]
  staticTypes := #[.int, .int, .int, .boolean]
  resolved := Array.replicate 635 none
  statics := none }

def pool15 : Array CpInfo := pool [(8, .class_ 10), (1, u "java/lang/Iterable"), (24, .class_ 36), (0, u "java/lang/Object")] 25

/-- java/lang/Iterable -/
def k15 : Class := { plain "java/lang/Iterable" (some 0) with
  accessFlags := 1537
  interfaces := #[]
  cf := some (fileOf pool15 8 #[] #[] 1537 35 #[] #[])
  fields := #[]
  methods := #[]
  instanceTypes := #[]
  staticTypes := #[]
  resolved := Array.replicate 62 none
  statics := none }

def pool16 : Array CpInfo := pool [(10, .class_ 12), (1, u "java/util/Collection"), (0, u "toArray"), (16, u "()Z"), (29, .class_ 61), (0, u "java/lang/Object"), (0, .class_ 63), (0, u "java/lang/Iterable"), (2, u "isEmpty"), (3, u "()[Ljava/lang/Object;")] 44

def k16m0 : Method := { name := "isEmpty", desc := "()Z", sig := { parameters := [], returnType := some .boolean }, accessFlags := 1025, code := none }
def k16m1 : Method := { name := "toArray", desc := "()[Ljava/lang/Object;", sig := { parameters := [], returnType := some (.array (.object "java/lang/Object")) }, accessFlags := 1025, code := none }
/-- java/util/Collection -/
def k16 : Class := { plain "java/util/Collection" (some 0) with
  accessFlags := 1537
  interfaces := #[15]
  cf := some (fileOf pool16 10 #[] #[{ accessFlags := 1025, nameIndex := 66, descriptorIndex := 30, attributes := #[] }, { accessFlags := 1025, nameIndex := 13, descriptorIndex := 70, attributes := #[] }] 1537 60 #[62] #[])
  fields := #[]
  methods := #[k16m0, k16m1]
  instanceTypes := #[]
  staticTypes := #[]
  resolved := Array.replicate 115 none
  statics := none }

def pool17 : Array CpInfo := pool [(1, .methodref 2 3), (0, .class_ 4), (0, .nameAndType 5 6), (0, u "java/lang/Object"), (0, u "<init>"), (0, u "()V"), (1, .class_ 10), (1, u "java/util/AbstractCollection"), (66, .class_ 78), (0, u "java/util/Collection")] 81

def k17c0 : Code := { maxStack := 1, maxLocals := 1, code := jdk_22_method_1_code, exceptionTable := #[], attributes := #[] }
def k17m0 : Method := { name := "<init>", desc := "()V", sig := { parameters := [], returnType := none }, accessFlags := 4, code := some k17c0 }
/-- java/util/AbstractCollection -/
def k17 : Class := { plain "java/util/AbstractCollection" (some 0) with
  accessFlags := 1057
  interfaces := #[16]
  cf := some (fileOf pool17 8 #[] #[{ accessFlags := 4, nameIndex := 5, descriptorIndex := 6, attributes := #[] }] 1057 2 #[77] #[])
  fields := #[]
  methods := #[k17m0]
  instanceTypes := #[]
  staticTypes := #[]
  resolved := Array.replicate 160 none
  statics := none }

def pool18 : Array CpInfo := pool [(8, .class_ 10), (1, u "java/util/SequencedCollection"), (15, .class_ 27), (0, u "java/lang/Object"), (0, .class_ 29), (0, u "java/util/Collection")] 27

/-- java/util/SequencedCollection -/
def k18 : Class := { plain "java/util/SequencedCollection" (some 0) with
  accessFlags := 1537
  interfaces := #[16]
  cf := some (fileOf pool18 8 #[] #[] 1537 26 #[28] #[])
  fields := #[]
  methods := #[]
  instanceTypes := #[]
  staticTypes := #[]
  resolved := Array.replicate 57 none
  statics := none }

def pool19 : Array CpInfo := pool [(8, .class_ 10), (1, u "java/util/List"), (20, u "(Ljava/lang/Object;)V"), (16, u "<init>"), (39, u "of"), (1, .fieldref 91 92), (0, .class_ 93), (0, .nameAndType 94 95), (0, u "java/util/ImmutableCollections"), (0, u "EMPTY_LIST"), (0, u "Ljava/util/ImmutableCollections$ListN;"), (0, .class_ 97), (0, u "java/util/ImmutableCollections$List12"), (0, .methodref 96 99), (0, .nameAndType 48 31), (3, .class_ 104), (0, u "java/lang/Object"), (3, u "([Ljava/lang/Object;)Ljava/util/List;"), (3, .methodref 91 113), (0, .nameAndType 114 115), (0, u "listCopy"), (0, u "(Ljava/util/Collection;)Ljava/util/List;"), (3, u "()Ljava/util/List;"), (0, .class_ 121), (0, u "java/util/SequencedCollection"), (112, u "copyOf")] 16

def k19c0 : Code := { maxStack := 1, maxLocals := 0, code := jdk_40_method_36_code, exceptionTable := #[], attributes := #[] }
def k19m0 : Method := { name := "of", desc := "()Ljava/util/List;", sig := { parameters := [], returnType := some (.object "java/util/List") }, accessFlags := 9, code := some k19c0 }
def k19c1 : Code := { maxStack := 5, maxLocals := 2, code := jdk_40_method_47_code, exceptionTable := #[], attributes := #[] }
def k19m1 : Method := { name := "of", desc := "([Ljava/lang/Object;)Ljava/util/List;", sig := { parameters := [(.array (.object "java/lang/Object"))], returnType := some (.object "java/util/List") }, accessFlags := 137, code := some k19c1 }
def k19c2 : Code := { maxStack := 1, maxLocals := 1, code := jdk_40_method_48_code, exceptionTable := #[], attributes := #[] }
def k19m2 : Method := { name := "copyOf", desc := "(Ljava/util/Collection;)Ljava/util/List;", sig := { parameters := [(.object "java/util/Collection")], returnType := some (.object "java/util/List") }, accessFlags := 9, code := some k19c2 }
/-- java/util/List -/
def k19 : Class := { plain "java/util/List" (some 0) with
  accessFlags := 1537
  interfaces := #[18]
  cf := some (fileOf pool19 8 #[] #[{ accessFlags := 9, nameIndex := 88, descriptorIndex := 119, attributes := #[] }, { accessFlags := 137, nameIndex := 88, descriptorIndex := 108, attributes := #[] }, { accessFlags := 9, nameIndex := 234, descriptorIndex := 115, attributes := #[] }] 1537 103 #[120] #[])
  fields := #[]
  methods := #[k19m0, k19m1, k19m2]
  instanceTypes := #[]
  staticTypes := #[]
  resolved := Array.replicate 251 none
  statics := none }

def pool20 : Array CpInfo := pool [(1, .methodref 2 3), (0, .class_ 4), (0, .nameAndType 5 6), (0, u "java/util/AbstractCollection"), (0, u "<init>"), (0, u "()V"), (0, .fieldref 8 9), (0, .class_ 10), (0, .nameAndType 11 12), (0, u "java/util/AbstractList"), (0, u "modCount"), (0, u "I"), (64, .class_ 78), (0, u "java/util/AbstractList$Itr"), (3, .class_ 83), (0, u "java/util/AbstractList$ListItr"), (9, .class_ 94), (0, u "java/util/AbstractList$RandomAccessSubList"), (3, .class_ 99), (0, u "java/util/AbstractList$SubList"), (33, .class_ 134), (0, u "java/util/List"), (73, .class_ 209), (0, u "java/util/AbstractList$SubList$1"), (0, .class_ 211), (0, u "java/util/AbstractList$RandomAccessSpliterator")] 6

def k20c0 : Code := { maxStack := 2, maxLocals := 1, code := jdk_39_method_1_code, exceptionTable := #[], attributes := #[] }
def k20m0 : Method := { name := "<init>", desc := "()V", sig := { parameters := [], returnType := none }, accessFlags := 4, code := some k20c0 }
/-- java/util/AbstractList -/
def k20 : Class := { plain "java/util/AbstractList" (some 17) with
  accessFlags := 1057
  interfaces := #[19]
  cf := some (fileOf pool20 8 #[.nestMembers #[93, 98, 208, 210, 82, 77]] #[{ accessFlags := 4, nameIndex := 5, descriptorIndex := 6, attributes := #[] }] 1057 2 #[133] #[{ accessFlags := 132, nameIndex := 11, descriptorIndex := 12, attributes := #[] }])
  fields := #[{ name := "modCount", type := .int, accessFlags := 132, slot := 0, constantValue := 0 }]
  methods := #[k20m0]
  instanceTypes := #[.int]
  staticTypes := #[]
  resolved := Array.replicate 218 none
  statics := none }

def pool21 : Array CpInfo := pool [(1, .class_ 2), (0, u "java/util/RandomAccess"), (0, .class_ 4), (0, u "java/lang/Object")] 2

/-- java/util/RandomAccess -/
def k21 : Class := { plain "java/util/RandomAccess" (some 0) with
  accessFlags := 1537
  interfaces := #[]
  cf := some (fileOf pool21 1 #[] #[] 1537 3 #[] #[])
  fields := #[]
  methods := #[]
  instanceTypes := #[]
  staticTypes := #[]
  resolved := Array.replicate 7 none
  statics := none }

def pool22 : Array CpInfo := pool [(1, .class_ 2), (0, u "java/lang/Cloneable"), (0, .class_ 4), (0, u "java/lang/Object")] 2

/-- java/lang/Cloneable -/
def k22 : Class := { plain "java/lang/Cloneable" (some 0) with
  accessFlags := 1537
  interfaces := #[]
  cf := some (fileOf pool22 1 #[] #[] 1537 3 #[] #[])
  fields := #[]
  methods := #[]
  instanceTypes := #[]
  staticTypes := #[]
  resolved := Array.replicate 7 none
  statics := none }

def pool23 : Array CpInfo := pool [(1, .methodref 2 3), (0, .class_ 4), (0, .nameAndType 5 6), (0, u "java/util/AbstractList"), (0, u "<init>"), (0, u "()V"), (0, .class_ 8), (0, u "java/lang/Object"), (0, .fieldref 10 11), (0, .class_ 12), (0, .nameAndType 13 14), (0, u "java/util/ArrayList"), (0, u "elementData"), (0, u "[Ljava/lang/Object;"), (2, u "EMPTY_ELEMENTDATA"), (21, .fieldref 10 40), (0, .nameAndType 41 14), (0, u "DEFAULTCAPACITY_EMPTY_ELEMENTDATA"), (4, u "toArray"), (0, u "()[Ljava/lang/Object;"), (0, .fieldref 10 49), (0, .nameAndType 50 51), (0, u "size"), (0, u "I"), (6, .class_ 60), (1, u "java/util/Arrays"), (0, u "copyOf"), (1, .fieldref 10 64), (0, .nameAndType 65 51), (0, u "modCount"), (0, .methodref 58 67), (0, .nameAndType 61 68), (0, u "([Ljava/lang/Object;I)[Ljava/lang/Object;"), (0, .methodref 10 70), (0, .nameAndType 71 72), (0, u "grow"), (0, u "(I)[Ljava/lang/Object;"), (6, .methodref 80 81), (0, .class_ 82), (0, .nameAndType 83 84), (0, u "java/lang/Math"), (0, u "max"), (0, u "(II)I"), (11, u "(Ljava/lang/Object;)Z"), (32, .methodref 10 130), (0, .nameAndType 71 47), (0, .methodref 10 132), (0, .nameAndType 133 134), (0, u "add"), (0, u "(Ljava/lang/Object;[Ljava/lang/Object;I)V"), (13, .class_ 149), (0, u "java/util/List"), (23, u "()Z"), (88, .class_ 263), (0, u "java/util/ArrayList$ListItr"), (3, .class_ 268), (0, u "java/util/ArrayList$Itr"), (7, .class_ 277), (0, u "java/util/ArrayList$SubList"), (12, .class_ 291), (0, u "java/util/ArrayList$ArrayListSpliterator"), (37, .class_ 330), (0, u "java/util/RandomAccess"), (0, .class_ 332), (0, u "java/lang/Cloneable"), (0, .class_ 334), (0, u "java/io/Serializable"), (0, u "serialVersionUID"), (0, u "J"), (3, u "DEFAULT_CAPACITY"), (22, u "isEmpty"), (136, .class_ 501), (0, u "java/util/ArrayList$SubList$2"), (0, .class_ 503), (0, u "java/util/ArrayList$SubList$1")] 5

def k23c0 : Code := { maxStack := 2, maxLocals := 1, code := jdk_38_method_2_code, exceptionTable := #[], attributes := #[] }
def k23m0 : Method := { name := "<init>", desc := "()V", sig := { parameters := [], returnType := none }, accessFlags := 1, code := some k23c0 }
def k23c1 : Code := { maxStack := 4, maxLocals := 4, code := jdk_38_method_6_code, exceptionTable := #[], attributes := #[] }
def k23m1 : Method := { name := "grow", desc := "(I)[Ljava/lang/Object;", sig := { parameters := [.int], returnType := some (.array (.object "java/lang/Object")) }, accessFlags := 2, code := some k23c1 }
def k23c2 : Code := { maxStack := 3, maxLocals := 1, code := jdk_38_method_7_code, exceptionTable := #[], attributes := #[] }
def k23m2 : Method := { name := "grow", desc := "()[Ljava/lang/Object;", sig := { parameters := [], returnType := some (.array (.object "java/lang/Object")) }, accessFlags := 2, code := some k23c2 }
def k23c3 : Code := { maxStack := 1, maxLocals := 1, code := jdk_38_method_9_code, exceptionTable := #[], attributes := #[] }
def k23m3 : Method := { name := "isEmpty", desc := "()Z", sig := { parameters := [], returnType := some .boolean }, accessFlags := 1, code := some k23c3 }
def k23c4 : Code := { maxStack := 2, maxLocals := 1, code := jdk_38_method_16_code, exceptionTable := #[], attributes := #[] }
def k23m4 : Method := { name := "toArray", desc := "()[Ljava/lang/Object;", sig := { parameters := [], returnType := some (.array (.object "java/lang/Object")) }, accessFlags := 1, code := some k23c4 }
def k23c5 : Code := { maxStack := 3, maxLocals := 4, code := jdk_38_method_24_code, exceptionTable := #[], attributes := #[] }
def k23m5 : Method := { name := "add", desc := "(Ljava/lang/Object;[Ljava/lang/Object;I)V", sig := { parameters := [(.object "java/lang/Object"), (.array (.object "java/lang/Object")), .int], returnType := none }, accessFlags := 2, code := some k23c5 }
def k23c6 : Code := { maxStack := 4, maxLocals := 2, code := jdk_38_method_25_code, exceptionTable := #[], attributes := #[] }
def k23m6 : Method := { name := "add", desc := "(Ljava/lang/Object;)Z", sig := { parameters := [(.object "java/lang/Object")], returnType := some .boolean }, accessFlags := 1, code := some k23c6 }
/-- java/util/ArrayList -/
def k23 : Class := { plain "java/util/ArrayList" (some 20) with
  accessFlags := 33
  interfaces := #[19, 21, 22, 6]
  cf := some (fileOf pool23 10 #[.nestMembers #[290, 276, 500, 502, 262, 267]] #[{ accessFlags := 1, nameIndex := 5, descriptorIndex := 6, attributes := #[] }, { accessFlags := 2, nameIndex := 71, descriptorIndex := 72, attributes := #[] }, { accessFlags := 2, nameIndex := 71, descriptorIndex := 47, attributes := #[] }, { accessFlags := 1, nameIndex := 363, descriptorIndex := 173, attributes := #[] }, { accessFlags := 1, nameIndex := 46, descriptorIndex := 47, attributes := #[] }, { accessFlags := 2, nameIndex := 133, descriptorIndex := 134, attributes := #[] }, { accessFlags := 1, nameIndex := 133, descriptorIndex := 96, attributes := #[] }] 33 2 #[148, 329, 331, 333] #[{ accessFlags := 26, nameIndex := 335, descriptorIndex := 336, attributes := #[] }, { accessFlags := 26, nameIndex := 340, descriptorIndex := 51, attributes := #[] }, { accessFlags := 26, nameIndex := 17, descriptorIndex := 14, attributes := #[] }, { accessFlags := 26, nameIndex := 41, descriptorIndex := 14, attributes := #[] }, { accessFlags := 128, nameIndex := 13, descriptorIndex := 14, attributes := #[] }, { accessFlags := 2, nameIndex := 50, descriptorIndex := 51, attributes := #[] }])
  fields := #[{ name := "serialVersionUID", type := .long, accessFlags := 26, slot := 0, constantValue := 0 }, { name := "DEFAULT_CAPACITY", type := .int, accessFlags := 26, slot := 1, constantValue := 0 }, { name := "EMPTY_ELEMENTDATA", type := (.array (.object "java/lang/Object")), accessFlags := 26, slot := 2, constantValue := 0 }, { name := "DEFAULTCAPACITY_EMPTY_ELEMENTDATA", type := (.array (.object "java/lang/Object")), accessFlags := 26, slot := 3, constantValue := 0 }, { name := "elementData", type := (.array (.object "java/lang/Object")), accessFlags := 128, slot := 1, constantValue := 0 }, { name := "size", type := .int, accessFlags := 2, slot := 2, constantValue := 0 }]
  methods := #[k23m0, k23m1, k23m2, k23m3, k23m4, k23m5, k23m6]
  instanceTypes := #[.int, (.array (.object "java/lang/Object")), .int]
  staticTypes := #[.long, .int, (.array (.object "java/lang/Object")), (.array (.object "java/lang/Object"))]
  resolved := Array.replicate 509 none
  statics := some 2 }

def pool24 : Array CpInfo := pool [(1, .class_ 2), (0, u "java/lang/Math"), (1, .class_ 6), (1, u "java/lang/Object"), (0, u "<init>"), (0, u "()V"), (89, .class_ 100), (1, u "java/lang/Math$RandomNumberGeneratorHolder"), (71, u "negativeZeroFloatBits"), (0, u "J"), (2, u "negativeZeroDoubleBits"), (21, u "max"), (2, u "min"), (43, u "$assertionsDisabled"), (0, u "Z"), (88, u "(II)I"), (2, u "twoToTheDoubleScaleDown"), (0, u "D"), (4, u "twoToTheDoubleScaleUp"), (9, u "E"), (3, u "PI"), (2, u "TAU"), (2, u "DEGREES_TO_RADIANS"), (0, u "RADIANS_TO_DEGREES")] 94

def k24m0 : Method := { name := "<init>", desc := "()V", sig := { parameters := [], returnType := none }, accessFlags := 2, code := none }
def k24c1 : Code := { maxStack := 2, maxLocals := 2, code := jdk_29_method_65_code, exceptionTable := #[], attributes := #[] }
def k24m1 : Method := { name := "max", desc := "(II)I", sig := { parameters := [.int, .int], returnType := some .int }, accessFlags := 9, code := some k24c1 }
def k24c2 : Code := { maxStack := 2, maxLocals := 2, code := jdk_29_method_69_code, exceptionTable := #[], attributes := #[] }
def k24m2 : Method := { name := "min", desc := "(II)I", sig := { parameters := [.int, .int], returnType := some .int }, accessFlags := 9, code := some k24c2 }
/-- java/lang/Math -/
def k24 : Class := { plain "java/lang/Math" (some 0) with
  accessFlags := 49
  interfaces := #[]
  cf := some (fileOf pool24 1 #[.nestMembers #[98]] #[{ accessFlags := 2, nameIndex := 7, descriptorIndex := 8, attributes := #[] }, { accessFlags := 9, nameIndex := 198, descriptorIndex := 335, attributes := #[] }, { accessFlags := 9, nameIndex := 201, descriptorIndex := 335, attributes := #[] }] 49 4 #[] #[{ accessFlags := 25, nameIndex := 354, descriptorIndex := 339, attributes := #[] }, { accessFlags := 25, nameIndex := 358, descriptorIndex := 339, attributes := #[] }, { accessFlags := 25, nameIndex := 361, descriptorIndex := 339, attributes := #[] }, { accessFlags := 26, nameIndex := 364, descriptorIndex := 339, attributes := #[] }, { accessFlags := 26, nameIndex := 365, descriptorIndex := 339, attributes := #[] }, { accessFlags := 26, nameIndex := 172, descriptorIndex := 173, attributes := #[] }, { accessFlags := 26, nameIndex := 176, descriptorIndex := 173, attributes := #[] }, { accessFlags := 8, nameIndex := 344, descriptorIndex := 339, attributes := #[] }, { accessFlags := 8, nameIndex := 338, descriptorIndex := 339, attributes := #[] }, { accessFlags := 4120, nameIndex := 245, descriptorIndex := 246, attributes := #[] }])
  fields := #[{ name := "E", type := .double, accessFlags := 25, slot := 0, constantValue := 0 }, { name := "PI", type := .double, accessFlags := 25, slot := 1, constantValue := 0 }, { name := "TAU", type := .double, accessFlags := 25, slot := 2, constantValue := 0 }, { name := "DEGREES_TO_RADIANS", type := .double, accessFlags := 26, slot := 3, constantValue := 0 }, { name := "RADIANS_TO_DEGREES", type := .double, accessFlags := 26, slot := 4, constantValue := 0 }, { name := "negativeZeroFloatBits", type := .long, accessFlags := 26, slot := 5, constantValue := 0 }, { name := "negativeZeroDoubleBits", type := .long, accessFlags := 26, slot := 6, constantValue := 0 }, { name := "twoToTheDoubleScaleUp", type := .double, accessFlags := 8, slot := 7, constantValue := 0 }, { name := "twoToTheDoubleScaleDown", type := .double, accessFlags := 8, slot := 8, constantValue := 0 }, { name := "$assertionsDisabled", type := .boolean, accessFlags := 4120, slot := 9, constantValue := 0 }]
  methods := #[k24m0, k24m1, k24m2]
  instanceTypes := #[]
  staticTypes := #[.double, .double, .double, .double, .double, .long, .long, .double, .double, .boolean]
  resolved := Array.replicate 460 none
  statics := none }

def pool25 : Array CpInfo := pool [(1, .methodref 2 3), (0, .class_ 4), (0, .nameAndType 5 6), (0, u "java/lang/Record"), (0, u "<init>"), (0, u "()V"), (0, .interfaceMethodref 8 9), (0, .class_ 10), (0, .nameAndType 11 12), (0, u "java/util/List"), (0, u "copyOf"), (0, u "(Ljava/util/Collection;)Ljava/util/List;"), (0, .fieldref 14 15), (0, .class_ 16), (0, .nameAndType 17 18), (0, u "com/example/deposita/deposita/formats/Mapped"), (0, u "recordId"), (0, u "Ljava/lang/String;"), (0, .fieldref 14 20), (0, .nameAndType 21 22), (0, u "product"), (0, u "Lcom/example/deposita/deposita/core/Product;"), (0, .fieldref 14 24), (0, .nameAndType 25 26), (0, u "warnings"), (0, u "Ljava/util/List;"), (0, .fieldref 14 28), (0, .nameAndType 29 30), (0, u "refusal"), (0, u "Lcom/example/deposita/deposita/core/Finding;"), (0, .methodref 14 32), (0, .nameAndType 5 33), (0, u "(Ljava/lang/String;Lcom/example/deposita/deposita/core/Product;Ljava/util/List;Lcom/example/deposita/deposita/core/Finding;)V"), (0, .interfaceMethodref 8 35), (0, .nameAndType 36 37), (0, u "of"), (0, u "()Ljava/util/List;"), (18, u "written"), (0, u "(Ljava/lang/String;Lcom/example/deposita/deposita/core/Product;Ljava/util/List;)Lcom/example/deposita/deposita/formats/Mapped;"), (1, u "refused"), (0, u "(Ljava/lang/String;Lcom/example/deposita/deposita/core/Finding;)Lcom/example/deposita/deposita/formats/Mapped;"), (0, u "isRefused"), (0, u "()Z")] 30

def k25c0 : Code := { maxStack := 2, maxLocals := 5, code := prog_44_method_1_code, exceptionTable := #[], attributes := #[] }
def k25m0 : Method := { name := "<init>", desc := "(Ljava/lang/String;Lcom/example/deposita/deposita/core/Product;Ljava/util/List;Lcom/example/deposita/deposita/core/Finding;)V", sig := { parameters := [(.object "java/lang/String"), (.object "com/example/deposita/deposita/core/Product"), (.object "java/util/List"), (.object "com/example/deposita/deposita/core/Finding")], returnType := none }, accessFlags := 1, code := some k25c0 }
def k25c1 : Code := { maxStack := 6, maxLocals := 3, code := prog_44_method_2_code, exceptionTable := #[], attributes := #[] }
def k25m1 : Method := { name := "written", desc := "(Ljava/lang/String;Lcom/example/deposita/deposita/core/Product;Ljava/util/List;)Lcom/example/deposita/deposita/formats/Mapped;", sig := { parameters := [(.object "java/lang/String"), (.object "com/example/deposita/deposita/core/Product"), (.object "java/util/List")], returnType := some (.object "com/example/deposita/deposita/formats/Mapped") }, accessFlags := 9, code := some k25c1 }
def k25c2 : Code := { maxStack := 6, maxLocals := 2, code := prog_44_method_3_code, exceptionTable := #[], attributes := #[] }
def k25m2 : Method := { name := "refused", desc := "(Ljava/lang/String;Lcom/example/deposita/deposita/core/Finding;)Lcom/example/deposita/deposita/formats/Mapped;", sig := { parameters := [(.object "java/lang/String"), (.object "com/example/deposita/deposita/core/Finding")], returnType := some (.object "com/example/deposita/deposita/formats/Mapped") }, accessFlags := 9, code := some k25c2 }
def k25c3 : Code := { maxStack := 1, maxLocals := 1, code := prog_44_method_4_code, exceptionTable := #[], attributes := #[] }
def k25m3 : Method := { name := "isRefused", desc := "()Z", sig := { parameters := [], returnType := some .boolean }, accessFlags := 1, code := some k25c3 }
/-- com/example/deposita/deposita/formats/Mapped -/
def k25 : Class := { plain "com/example/deposita/deposita/formats/Mapped" (some 2) with
  accessFlags := 49
  interfaces := #[]
  cf := some (fileOf pool25 14 #[] #[{ accessFlags := 1, nameIndex := 5, descriptorIndex := 33, attributes := #[] }, { accessFlags := 9, nameIndex := 56, descriptorIndex := 57, attributes := #[] }, { accessFlags := 9, nameIndex := 59, descriptorIndex := 60, attributes := #[] }, { accessFlags := 1, nameIndex := 61, descriptorIndex := 62, attributes := #[] }] 49 2 #[] #[{ accessFlags := 18, nameIndex := 17, descriptorIndex := 18, attributes := #[] }, { accessFlags := 18, nameIndex := 21, descriptorIndex := 22, attributes := #[] }, { accessFlags := 18, nameIndex := 25, descriptorIndex := 26, attributes := #[] }, { accessFlags := 18, nameIndex := 29, descriptorIndex := 30, attributes := #[] }])
  fields := #[{ name := "recordId", type := (.object "java/lang/String"), accessFlags := 18, slot := 0, constantValue := 0 }, { name := "product", type := (.object "com/example/deposita/deposita/core/Product"), accessFlags := 18, slot := 1, constantValue := 0 }, { name := "warnings", type := (.object "java/util/List"), accessFlags := 18, slot := 2, constantValue := 0 }, { name := "refusal", type := (.object "com/example/deposita/deposita/core/Finding"), accessFlags := 18, slot := 3, constantValue := 0 }]
  methods := #[k25m0, k25m1, k25m2, k25m3]
  instanceTypes := #[(.object "java/lang/String"), (.object "com/example/deposita/deposita/core/Product"), (.object "java/util/List"), (.object "com/example/deposita/deposita/core/Finding")]
  staticTypes := #[]
  resolved := Array.replicate 93 none
  statics := none }

def pool26 : Array CpInfo := pool [(2, .class_ 4), (1, u "java/lang/Object"), (0, u "<init>"), (0, u "()V"), (3, .class_ 11), (0, u "java/util/ImmutableCollections$List12"), (0, .class_ 13), (0, u "java/util/ImmutableCollections$ListN"), (0, .fieldref 12 15), (0, .nameAndType 16 17), (0, u "allowNulls"), (0, u "Z"), (0, .class_ 19), (0, u "java/util/List"), (0, .interfaceMethodref 21 22), (0, .class_ 23), (0, .nameAndType 24 25), (0, u "java/util/Collection"), (0, u "isEmpty"), (0, u "()Z"), (0, .interfaceMethodref 18 27), (0, .nameAndType 28 29), (0, u "of"), (0, u "()Ljava/util/List;"), (0, .interfaceMethodref 21 31), (0, .nameAndType 32 33), (0, u "toArray"), (0, u "()[Ljava/lang/Object;"), (0, .interfaceMethodref 18 35), (0, .nameAndType 28 36), (0, u "([Ljava/lang/Object;)Ljava/util/List;"), (10, .class_ 49), (1, u "java/util/ImmutableCollections"), (0, u "$assertionsDisabled"), (5, u "[Ljava/lang/Object;"), (5, u "EMPTY_LIST"), (0, u "Ljava/util/ImmutableCollections$ListN;"), (8, u "EMPTY_LIST_NULLS"), (22, u "SALT32L"), (0, u "J"), (2, u "REVERSE"), (6, u "archivedObjects"), (2, u "EMPTY"), (0, u "Ljava/lang/Object;"), (0, .class_ 112), (0, u "java/util/ImmutableCollections$SetN"), (5, u "EMPTY_SET"), (0, u "Ljava/util/ImmutableCollections$SetN;"), (0, .class_ 121), (0, u "java/util/ImmutableCollections$MapN"), (3, u "EMPTY_MAP"), (0, u "Ljava/util/ImmutableCollections$MapN;"), (4, u "EXPAND_FACTOR"), (0, u "I"), (9, u "listCopy"), (0, u "(Ljava/util/Collection;)Ljava/util/List;"), (25, .class_ 170), (0, u "java/util/ImmutableCollections$MapN$MapNIterator"), (0, .class_ 172), (0, u "java/util/ImmutableCollections$MapN$1"), (0, .class_ 174), (0, u "java/util/ImmutableCollections$Map1"), (0, .class_ 176), (0, u "java/util/ImmutableCollections$AbstractImmutableMap"), (0, .class_ 178), (0, u "java/util/ImmutableCollections$SetN$SetNIterator"), (0, .class_ 180), (0, u "java/util/ImmutableCollections$Set12"), (0, .class_ 182), (0, u "java/util/ImmutableCollections$Set12$1"), (0, .class_ 184), (0, u "java/util/ImmutableCollections$AbstractImmutableSet"), (0, .class_ 186), (0, u "java/util/ImmutableCollections$SubList"), (0, .class_ 188), (0, u "java/util/ImmutableCollections$ListItr"), (0, .class_ 190), (0, u "java/util/ImmutableCollections$AbstractImmutableList"), (0, .class_ 192), (0, u "java/util/ImmutableCollections$AbstractImmutableCollection"), (0, .class_ 194), (0, u "java/util/ImmutableCollections$Access"), (0, .class_ 196), (0, u "java/util/ImmutableCollections$Access$1")] 16

def k26m0 : Method := { name := "<init>", desc := "()V", sig := { parameters := [], returnType := none }, accessFlags := 2, code := none }
def k26c1 : Code := { maxStack := 1, maxLocals := 2, code := jdk_56_method_3_code, exceptionTable := #[], attributes := #[] }
def k26m1 : Method := { name := "listCopy", desc := "(Ljava/util/Collection;)Ljava/util/List;", sig := { parameters := [(.object "java/util/Collection")], returnType := some (.object "java/util/List") }, accessFlags := 8, code := some k26c1 }
/-- java/util/ImmutableCollections -/
def k26 : Class := { plain "java/util/ImmutableCollections" (some 0) with
  accessFlags := 32
  interfaces := #[]
  cf := some (fileOf pool26 47 #[.nestMembers #[120, 169, 171, 173, 175, 111, 177, 179, 181, 183, 12, 10, 185, 187, 189, 191, 193, 195]] #[{ accessFlags := 2, nameIndex := 5, descriptorIndex := 6, attributes := #[] }, { accessFlags := 8, nameIndex := 142, descriptorIndex := 143, attributes := #[] }] 32 2 #[] #[{ accessFlags := 26, nameIndex := 95, descriptorIndex := 96, attributes := #[] }, { accessFlags := 26, nameIndex := 99, descriptorIndex := 17, attributes := #[] }, { accessFlags := 10, nameIndex := 106, descriptorIndex := 56, attributes := #[] }, { accessFlags := 26, nameIndex := 109, descriptorIndex := 110, attributes := #[] }, { accessFlags := 24, nameIndex := 62, descriptorIndex := 63, attributes := #[] }, { accessFlags := 24, nameIndex := 72, descriptorIndex := 63, attributes := #[] }, { accessFlags := 24, nameIndex := 118, descriptorIndex := 119, attributes := #[] }, { accessFlags := 24, nameIndex := 125, descriptorIndex := 126, attributes := #[] }, { accessFlags := 24, nameIndex := 131, descriptorIndex := 132, attributes := #[] }, { accessFlags := 4120, nameIndex := 50, descriptorIndex := 17, attributes := #[] }])
  fields := #[{ name := "SALT32L", type := .long, accessFlags := 26, slot := 0, constantValue := 0 }, { name := "REVERSE", type := .boolean, accessFlags := 26, slot := 1, constantValue := 0 }, { name := "archivedObjects", type := (.array (.object "java/lang/Object")), accessFlags := 10, slot := 2, constantValue := 0 }, { name := "EMPTY", type := (.object "java/lang/Object"), accessFlags := 26, slot := 3, constantValue := 0 }, { name := "EMPTY_LIST", type := (.object "java/util/ImmutableCollections$ListN"), accessFlags := 24, slot := 4, constantValue := 0 }, { name := "EMPTY_LIST_NULLS", type := (.object "java/util/ImmutableCollections$ListN"), accessFlags := 24, slot := 5, constantValue := 0 }, { name := "EMPTY_SET", type := (.object "java/util/ImmutableCollections$SetN"), accessFlags := 24, slot := 6, constantValue := 0 }, { name := "EMPTY_MAP", type := (.object "java/util/ImmutableCollections$MapN"), accessFlags := 24, slot := 7, constantValue := 0 }, { name := "EXPAND_FACTOR", type := .int, accessFlags := 24, slot := 8, constantValue := 0 }, { name := "$assertionsDisabled", type := .boolean, accessFlags := 4120, slot := 9, constantValue := 0 }]
  methods := #[k26m0, k26m1]
  instanceTypes := #[]
  staticTypes := #[.long, .boolean, (.array (.object "java/lang/Object")), (.object "java/lang/Object"), (.object "java/util/ImmutableCollections$ListN"), (.object "java/util/ImmutableCollections$ListN"), (.object "java/util/ImmutableCollections$SetN"), (.object "java/util/ImmutableCollections$MapN"), .int, .boolean]
  resolved := Array.replicate 213 none
  statics := some 3 }

def pool27 : Array CpInfo := pool [(1, .methodref 2 3), (0, .class_ 4), (0, .nameAndType 5 6), (0, u "java/util/AbstractCollection"), (0, u "<init>"), (0, u "()V"), (1, .class_ 10), (1, u "java/util/ImmutableCollections"), (2, .class_ 14), (0, u "java/util/ImmutableCollections$AbstractImmutableCollection")] 41

def k27c0 : Code := { maxStack := 1, maxLocals := 1, code := jdk_47_method_1_code, exceptionTable := #[], attributes := #[] }
def k27m0 : Method := { name := "<init>", desc := "()V", sig := { parameters := [], returnType := none }, accessFlags := 0, code := some k27c0 }
/-- java/util/ImmutableCollections$AbstractImmutableCollection -/
def k27 : Class := { plain "java/util/ImmutableCollections$AbstractImmutableCollection" (some 17) with
  accessFlags := 1056
  interfaces := #[]
  cf := some (fileOf pool27 13 #[.nestHost 8] #[{ accessFlags := 0, nameIndex := 5, descriptorIndex := 6, attributes := #[] }] 1056 2 #[] #[])
  fields := #[]
  methods := #[k27m0]
  instanceTypes := #[]
  staticTypes := #[]
  resolved := Array.replicate 56 none
  statics := none }

def pool28 : Array CpInfo := pool [(1, .methodref 2 3), (0, .class_ 4), (0, .nameAndType 5 6), (0, u "java/util/ImmutableCollections$AbstractImmutableCollection"), (0, u "<init>"), (0, u "()V"), (1, .class_ 10), (1, u "java/util/ImmutableCollections"), (3, .class_ 16), (1, u "java/util/ImmutableCollections$AbstractImmutableList"), (60, .class_ 78), (0, u "java/util/List"), (45, .class_ 125), (0, u "java/util/RandomAccess")] 70

def k28c0 : Code := { maxStack := 1, maxLocals := 1, code := jdk_46_method_1_code, exceptionTable := #[], attributes := #[] }
def k28m0 : Method := { name := "<init>", desc := "()V", sig := { parameters := [], returnType := none }, accessFlags := 0, code := some k28c0 }
/-- java/util/ImmutableCollections$AbstractImmutableList -/
def k28 : Class := { plain "java/util/ImmutableCollections$AbstractImmutableList" (some 27) with
  accessFlags := 1056
  interfaces := #[19, 21]
  cf := some (fileOf pool28 14 #[.nestHost 8] #[{ accessFlags := 0, nameIndex := 5, descriptorIndex := 6, attributes := #[] }] 1056 2 #[77, 124] #[])
  fields := #[]
  methods := #[k28m0]
  instanceTypes := #[]
  staticTypes := #[]
  resolved := Array.replicate 196 none
  statics := none }

def pool29 : Array CpInfo := pool [(1, .methodref 2 3), (0, .class_ 4), (0, .nameAndType 5 6), (0, u "java/util/ImmutableCollections$AbstractImmutableList"), (0, u "<init>"), (0, u "()V"), (0, .methodref 8 9), (0, .class_ 10), (0, .nameAndType 11 12), (0, u "java/util/Objects"), (0, u "requireNonNull"), (0, u "(Ljava/lang/Object;)Ljava/lang/Object;"), (0, .fieldref 14 15), (0, .class_ 16), (0, .nameAndType 17 18), (0, u "java/util/ImmutableCollections$List12"), (0, u "e0"), (0, u "Ljava/lang/Object;"), (0, .fieldref 20 21), (0, .class_ 22), (0, .nameAndType 23 18), (0, u "java/util/ImmutableCollections"), (0, u "EMPTY"), (0, .fieldref 14 25), (0, .nameAndType 26 18), (0, u "e1"), (43, .class_ 71), (0, u "java/io/Serializable"), (4, u "(Ljava/lang/Object;)V")] 48

def k29c0 : Code := { maxStack := 2, maxLocals := 2, code := jdk_44_method_1_code, exceptionTable := #[], attributes := #[] }
def k29m0 : Method := { name := "<init>", desc := "(Ljava/lang/Object;)V", sig := { parameters := [(.object "java/lang/Object")], returnType := none }, accessFlags := 0, code := some k29c0 }
/-- java/util/ImmutableCollections$List12 -/
def k29 : Class := { plain "java/util/ImmutableCollections$List12" (some 28) with
  accessFlags := 48
  interfaces := #[6]
  cf := some (fileOf pool29 14 #[.nestHost 20] #[{ accessFlags := 0, nameIndex := 5, descriptorIndex := 76, attributes := #[] }] 48 2 #[70] #[{ accessFlags := 18, nameIndex := 17, descriptorIndex := 18, attributes := #[] }, { accessFlags := 18, nameIndex := 26, descriptorIndex := 18, attributes := #[] }])
  fields := #[{ name := "e0", type := (.object "java/lang/Object"), accessFlags := 18, slot := 0, constantValue := 0 }, { name := "e1", type := (.object "java/lang/Object"), accessFlags := 18, slot := 1, constantValue := 0 }]
  methods := #[k29m0]
  instanceTypes := #[(.object "java/lang/Object"), (.object "java/lang/Object")]
  staticTypes := #[]
  resolved := Array.replicate 125 none
  statics := none }

def pool30 : Array CpInfo := pool [(2, .class_ 4), (1, u "java/util/ImmutableCollections$AbstractImmutableList"), (3, .class_ 10), (1, u "java/util/ImmutableCollections$ListN"), (0, u "elements"), (0, u "[Ljava/lang/Object;"), (2, u "allowNulls"), (0, u "Z"), (42, .class_ 60), (0, u "java/io/Serializable"), (53, .class_ 115), (0, u "java/util/ImmutableCollections")] 3

/-- java/util/ImmutableCollections$ListN -/
def k30 : Class := { plain "java/util/ImmutableCollections$ListN" (some 28) with
  accessFlags := 48
  interfaces := #[6]
  cf := some (fileOf pool30 8 #[.nestHost 114] #[] 48 2 #[59] #[{ accessFlags := 18, nameIndex := 11, descriptorIndex := 12, attributes := #[] }, { accessFlags := 18, nameIndex := 15, descriptorIndex := 16, attributes := #[] }])
  fields := #[{ name := "elements", type := (.array (.object "java/lang/Object")), accessFlags := 18, slot := 0, constantValue := 0 }, { name := "allowNulls", type := .boolean, accessFlags := 18, slot := 1, constantValue := 0 }]
  methods := #[]
  instanceTypes := #[(.array (.object "java/lang/Object")), .boolean]
  staticTypes := #[]
  resolved := Array.replicate 119 none
  statics := none }

def pool31 : Array CpInfo := pool [(2, .class_ 4), (1, u "java/lang/Object"), (0, u "<init>"), (0, u "()V"), (7, .class_ 16), (1, u "java/util/Arrays"), (57, .class_ 76), (1, u "java/util/Arrays$NaturalOrder"), (9, .methodref 2 87), (0, .nameAndType 88 89), (0, u "getClass"), (0, u "()Ljava/lang/Class;"), (20, .class_ 111), (0, u "[Ljava/lang/Object;"), (1, .class_ 115), (1, u "java/util/Arrays$LegacyMergeSort"), (1, u "Z"), (32, .methodref 151 152), (0, .class_ 153), (0, .nameAndType 154 155), (0, u "java/lang/System"), (0, u "arraycopy"), (0, u "(Ljava/lang/Object;ILjava/lang/Object;II)V"), (144, .methodref 14 301), (0, .nameAndType 302 303), (0, u "copyOf"), (0, u "([Ljava/lang/Object;ILjava/lang/Class;)[Ljava/lang/Object;"), (0, .methodref 305 306), (0, .class_ 307), (0, .nameAndType 308 309), (0, u "java/lang/Math"), (0, u "min"), (0, u "(II)I"), (65, .class_ 376), (0, u "java/util/Arrays$ArrayList"), (68, u "$assertionsDisabled"), (269, u "MIN_ARRAY_SORT_GRAN"), (0, u "I"), (2, u "INSERTIONSORT_THRESHOLD"), (140, u "([Ljava/lang/Object;I)[Ljava/lang/Object;"), (114, .class_ 976), (0, u "java/util/Arrays$ArrayItr")] 52

def k31m0 : Method := { name := "<init>", desc := "()V", sig := { parameters := [], returnType := none }, accessFlags := 2, code := none }
def k31c1 : Code := { maxStack := 3, maxLocals := 2, code := jdk_65_method_119_code, exceptionTable := #[], attributes := #[] }
def k31m1 : Method := { name := "copyOf", desc := "([Ljava/lang/Object;I)[Ljava/lang/Object;", sig := { parameters := [(.array (.object "java/lang/Object")), .int], returnType := some (.array (.object "java/lang/Object")) }, accessFlags := 9, code := some k31c1 }
def k31c2 : Code := { maxStack := 6, maxLocals := 4, code := jdk_65_method_120_code, exceptionTable := #[], attributes := #[] }
def k31m2 : Method := { name := "copyOf", desc := "([Ljava/lang/Object;ILjava/lang/Class;)[Ljava/lang/Object;", sig := { parameters := [(.array (.object "java/lang/Object")), .int, (.object "java/lang/Class")], returnType := some (.array (.object "java/lang/Object")) }, accessFlags := 9, code := some k31c2 }
/-- java/util/Arrays -/
def k31 : Class := { plain "java/util/Arrays" (some 0) with
  accessFlags := 49
  interfaces := #[]
  cf := some (fileOf pool31 14 #[.nestMembers #[975, 375, 113, 74]] #[{ accessFlags := 2, nameIndex := 5, descriptorIndex := 6, attributes := #[] }, { accessFlags := 9, nameIndex := 302, descriptorIndex := 860, attributes := #[] }, { accessFlags := 9, nameIndex := 302, descriptorIndex := 303, attributes := #[] }] 49 2 #[] #[{ accessFlags := 26, nameIndex := 715, descriptorIndex := 716, attributes := #[] }, { accessFlags := 26, nameIndex := 719, descriptorIndex := 716, attributes := #[] }, { accessFlags := 4120, nameIndex := 445, descriptorIndex := 117, attributes := #[] }])
  fields := #[{ name := "MIN_ARRAY_SORT_GRAN", type := .int, accessFlags := 26, slot := 0, constantValue := 0 }, { name := "INSERTIONSORT_THRESHOLD", type := .int, accessFlags := 26, slot := 1, constantValue := 0 }, { name := "$assertionsDisabled", type := .boolean, accessFlags := 4120, slot := 2, constantValue := 0 }]
  methods := #[k31m0, k31m1, k31m2]
  instanceTypes := #[]
  staticTypes := #[.int, .int, .boolean]
  resolved := Array.replicate 1029 none
  statics := none }

def pool32 : Array CpInfo := pool [(2, .class_ 4), (1, u "java/lang/Object"), (0, u "<init>"), (0, u "()V"), (1, .class_ 10), (1, u "java/lang/System"), (0, u "allowSecurityManager"), (0, u "I"), (16, u "cons"), (0, u "Ljava/io/Console;"), (77, .class_ 110), (1, u "java/lang/System$CallersHolder"), (43, u "initialErrStream"), (0, u "Ljava/io/PrintStream;"), (19, u "security"), (0, u "Ljava/lang/SecurityManager;"), (31, .class_ 209), (0, u "java/lang/System$1"), (7, u "props"), (0, u "Ljava/util/Properties;"), (2, u "lineSeparator"), (0, u "Ljava/lang/String;"), (96, .class_ 321), (1, u "java/lang/System$LoggerFinder"), (5, .class_ 328), (0, u "java/lang/System$Logger"), (67, u "err"), (2, u "out"), (91, u "notSupportedJnuEncoding"), (15, u "in"), (17, u "initialIn"), (0, u "Ljava/io/InputStream;"), (35, u "bootLayer"), (0, u "Ljava/lang/ModuleLayer;"), (99, .class_ 664), (0, u "java/lang/System$2"), (9, u "NEVER"), (2, u "MAYBE"), (49, u "arraycopy"), (0, u "(Ljava/lang/Object;ILjava/lang/Object;II)V"), (72, .class_ 802), (0, u "java/lang/System$Logger$Level")] 31

def k32m0 : Method := { name := "<init>", desc := "()V", sig := { parameters := [], returnType := none }, accessFlags := 2, code := none }
def k32m1 : Method := { name := "arraycopy", desc := "(Ljava/lang/Object;ILjava/lang/Object;II)V", sig := { parameters := [(.object "java/lang/Object"), .int, (.object "java/lang/Object"), .int, .int], returnType := none }, accessFlags := 265, code := none }
/-- java/lang/System -/
def k32 : Class := { plain "java/lang/System" (some 0) with
  accessFlags := 49
  interfaces := #[]
  cf := some (fileOf pool32 8 #[.nestMembers #[319, 327, 801, 108, 663, 208]] #[{ accessFlags := 2, nameIndex := 5, descriptorIndex := 6, attributes := #[] }, { accessFlags := 265, nameIndex := 727, descriptorIndex := 728, attributes := #[] }] 49 2 #[] #[{ accessFlags := 25, nameIndex := 507, descriptorIndex := 526, attributes := #[] }, { accessFlags := 25, nameIndex := 399, descriptorIndex := 155, attributes := #[] }, { accessFlags := 25, nameIndex := 396, descriptorIndex := 155, attributes := #[] }, { accessFlags := 10, nameIndex := 525, descriptorIndex := 526, attributes := #[] }, { accessFlags := 26, nameIndex := 674, descriptorIndex := 12, attributes := #[] }, { accessFlags := 26, nameIndex := 677, descriptorIndex := 12, attributes := #[] }, { accessFlags := 10, nameIndex := 11, descriptorIndex := 12, attributes := #[] }, { accessFlags := 74, nameIndex := 175, descriptorIndex := 176, attributes := #[] }, { accessFlags := 10, nameIndex := 491, descriptorIndex := 222, attributes := #[] }, { accessFlags := 74, nameIndex := 29, descriptorIndex := 30, attributes := #[] }, { accessFlags := 74, nameIndex := 154, descriptorIndex := 155, attributes := #[] }, { accessFlags := 10, nameIndex := 217, descriptorIndex := 218, attributes := #[] }, { accessFlags := 10, nameIndex := 221, descriptorIndex := 222, attributes := #[] }, { accessFlags := 8, nameIndex := 562, descriptorIndex := 563, attributes := #[] }])
  fields := #[{ name := "in", type := (.object "java/io/InputStream"), accessFlags := 25, slot := 0, constantValue := 0 }, { name := "out", type := (.object "java/io/PrintStream"), accessFlags := 25, slot := 1, constantValue := 0 }, { name := "err", type := (.object "java/io/PrintStream"), accessFlags := 25, slot := 2, constantValue := 0 }, { name := "initialIn", type := (.object "java/io/InputStream"), accessFlags := 10, slot := 3, constantValue := 0 }, { name := "NEVER", type := .int, accessFlags := 26, slot := 4, constantValue := 0 }, { name := "MAYBE", type := .int, accessFlags := 26, slot := 5, constantValue := 0 }, { name := "allowSecurityManager", type := .int, accessFlags := 10, slot := 6, constantValue := 0 }, { name := "security", type := (.object "java/lang/SecurityManager"), accessFlags := 74, slot := 7, constantValue := 0 }, { name := "notSupportedJnuEncoding", type := (.object "java/lang/String"), accessFlags := 10, slot := 8, constantValue := 0 }, { name := "cons", type := (.object "java/io/Console"), accessFlags := 74, slot := 9, constantValue := 0 }, { name := "initialErrStream", type := (.object "java/io/PrintStream"), accessFlags := 74, slot := 10, constantValue := 0 }, { name := "props", type := (.object "java/util/Properties"), accessFlags := 10, slot := 11, constantValue := 0 }, { name := "lineSeparator", type := (.object "java/lang/String"), accessFlags := 10, slot := 12, constantValue := 0 }, { name := "bootLayer", type := (.object "java/lang/ModuleLayer"), accessFlags := 8, slot := 13, constantValue := 0 }]
  methods := #[k32m0, k32m1]
  instanceTypes := #[]
  staticTypes := #[(.object "java/io/InputStream"), (.object "java/io/PrintStream"), (.object "java/io/PrintStream"), (.object "java/io/InputStream"), .int, .int, .int, (.object "java/lang/SecurityManager"), (.object "java/lang/String"), (.object "java/io/Console"), (.object "java/io/PrintStream"), (.object "java/util/Properties"), (.object "java/lang/String"), (.object "java/lang/ModuleLayer")]
  resolved := Array.replicate 834 none
  statics := none }

def pool33 : Array CpInfo := pool [(2, .class_ 4), (1, u "java/lang/Object"), (0, u "<init>"), (0, u "()V"), (17, .class_ 26), (1, u "jdk/internal/util/Preconditions"), (28, .class_ 56), (0, u "jdk/internal/util/Preconditions$4"), (57, .class_ 115), (0, u "jdk/internal/util/Preconditions$1"), (7, u "SIOOBE_FORMATTER"), (0, u "Ljava/util/function/BiFunction;"), (0, .class_ 126), (0, u "jdk/internal/util/Preconditions$2"), (3, u "AIOOBE_FORMATTER"), (0, .class_ 132), (0, u "jdk/internal/util/Preconditions$3"), (3, u "IOOBE_FORMATTER")] 57

def k33m0 : Method := { name := "<init>", desc := "()V", sig := { parameters := [], returnType := none }, accessFlags := 1, code := none }
/-- jdk/internal/util/Preconditions -/
def k33 : Class := { plain "jdk/internal/util/Preconditions" (some 0) with
  accessFlags := 33
  interfaces := #[]
  cf := some (fileOf pool33 24 #[.nestMembers #[55, 131, 125, 114]] #[{ accessFlags := 1, nameIndex := 5, descriptorIndex := 6, attributes := #[] }] 33 2 #[] #[{ accessFlags := 25, nameIndex := 123, descriptorIndex := 124, attributes := #[] }, { accessFlags := 25, nameIndex := 130, descriptorIndex := 124, attributes := #[] }, { accessFlags := 25, nameIndex := 136, descriptorIndex := 124, attributes := #[] }])
  fields := #[{ name := "SIOOBE_FORMATTER", type := (.object "java/util/function/BiFunction"), accessFlags := 25, slot := 0, constantValue := 0 }, { name := "AIOOBE_FORMATTER", type := (.object "java/util/function/BiFunction"), accessFlags := 25, slot := 1, constantValue := 0 }, { name := "IOOBE_FORMATTER", type := (.object "java/util/function/BiFunction"), accessFlags := 25, slot := 2, constantValue := 0 }]
  methods := #[k33m0]
  instanceTypes := #[]
  staticTypes := #[(.object "java/util/function/BiFunction"), (.object "java/util/function/BiFunction"), (.object "java/util/function/BiFunction")]
  resolved := Array.replicate 194 none
  statics := some 4 }

def pool34 : Array CpInfo := pool [(9, u "<init>"), (6, .class_ 18), (1, u "java/lang/Object"), (0, u "()V"), (1, .class_ 23), (1, u "jdk/internal/util/ArraysSupport"), (0, u "LOG2_ARRAY_LONG_INDEX_SCALE"), (0, u "I"), (2, u "U"), (0, u "Ljdk/internal/misc/Unsafe;"), (8, u "BIG_ENDIAN"), (0, u "Z"), (8, u "LOG2_BYTE_BIT_SIZE"), (4, u "LOG2_ARRAY_INT_INDEX_SCALE"), (54, u "JLA"), (0, u "Ljdk/internal/access/JavaLangAccess;"), (11, u "LOG2_ARRAY_BOOLEAN_INDEX_SCALE"), (9, u "LOG2_ARRAY_BYTE_INDEX_SCALE"), (5, u "LOG2_ARRAY_CHAR_INDEX_SCALE"), (5, u "LOG2_ARRAY_SHORT_INDEX_SCALE"), (18, u "LOG2_ARRAY_FLOAT_INDEX_SCALE"), (24, u "LOG2_ARRAY_DOUBLE_INDEX_SCALE"), (89, u "T_BOOLEAN"), (2, u "T_CHAR"), (1, u "T_FLOAT"), (1, u "T_DOUBLE"), (1, u "T_BYTE"), (1, u "T_SHORT"), (1, u "T_INT"), (1, u "T_LONG"), (1, u "SOFT_MAX_ARRAY_LENGTH")] 83

def k34m0 : Method := { name := "<init>", desc := "()V", sig := { parameters := [], returnType := none }, accessFlags := 2, code := none }
/-- jdk/internal/util/ArraysSupport -/
def k34 : Class := { plain "jdk/internal/util/ArraysSupport" (some 0) with
  accessFlags := 33
  interfaces := #[]
  cf := some (fileOf pool34 21 #[] #[{ accessFlags := 2, nameIndex := 9, descriptorIndex := 19, attributes := #[] }] 33 16 #[] #[{ accessFlags := 24, nameIndex := 28, descriptorIndex := 29, attributes := #[] }, { accessFlags := 26, nameIndex := 38, descriptorIndex := 39, attributes := #[] }, { accessFlags := 25, nameIndex := 121, descriptorIndex := 25, attributes := #[] }, { accessFlags := 25, nameIndex := 131, descriptorIndex := 25, attributes := #[] }, { accessFlags := 25, nameIndex := 137, descriptorIndex := 25, attributes := #[] }, { accessFlags := 25, nameIndex := 143, descriptorIndex := 25, attributes := #[] }, { accessFlags := 25, nameIndex := 53, descriptorIndex := 25, attributes := #[] }, { accessFlags := 25, nameIndex := 24, descriptorIndex := 25, attributes := #[] }, { accessFlags := 25, nameIndex := 162, descriptorIndex := 25, attributes := #[] }, { accessFlags := 25, nameIndex := 187, descriptorIndex := 25, attributes := #[] }, { accessFlags := 26, nameIndex := 48, descriptorIndex := 25, attributes := #[] }, { accessFlags := 25, nameIndex := 277, descriptorIndex := 25, attributes := #[] }, { accessFlags := 25, nameIndex := 280, descriptorIndex := 25, attributes := #[] }, { accessFlags := 25, nameIndex := 282, descriptorIndex := 25, attributes := #[] }, { accessFlags := 25, nameIndex := 284, descriptorIndex := 25, attributes := #[] }, { accessFlags := 25, nameIndex := 286, descriptorIndex := 25, attributes := #[] }, { accessFlags := 25, nameIndex := 288, descriptorIndex := 25, attributes := #[] }, { accessFlags := 25, nameIndex := 290, descriptorIndex := 25, attributes := #[] }, { accessFlags := 25, nameIndex := 292, descriptorIndex := 25, attributes := #[] }, { accessFlags := 26, nameIndex := 108, descriptorIndex := 109, attributes := #[] }, { accessFlags := 25, nameIndex := 294, descriptorIndex := 25, attributes := #[] }])
  fields := #[{ name := "U", type := (.object "jdk/internal/misc/Unsafe"), accessFlags := 24, slot := 0, constantValue := 0 }, { name := "BIG_ENDIAN", type := .boolean, accessFlags := 26, slot := 1, constantValue := 0 }, { name := "LOG2_ARRAY_BOOLEAN_INDEX_SCALE", type := .int, accessFlags := 25, slot := 2, constantValue := 0 }, { name := "LOG2_ARRAY_BYTE_INDEX_SCALE", type := .int, accessFlags := 25, slot := 3, constantValue := 0 }, { name := "LOG2_ARRAY_CHAR_INDEX_SCALE", type := .int, accessFlags := 25, slot := 4, constantValue := 0 }, { name := "LOG2_ARRAY_SHORT_INDEX_SCALE", type := .int, accessFlags := 25, slot := 5, constantValue := 0 }, { name := "LOG2_ARRAY_INT_INDEX_SCALE", type := .int, accessFlags := 25, slot := 6, constantValue := 0 }, { name := "LOG2_ARRAY_LONG_INDEX_SCALE", type := .int, accessFlags := 25, slot := 7, constantValue := 0 }, { name := "LOG2_ARRAY_FLOAT_INDEX_SCALE", type := .int, accessFlags := 25, slot := 8, constantValue := 0 }, { name := "LOG2_ARRAY_DOUBLE_INDEX_SCALE", type := .int, accessFlags := 25, slot := 9, constantValue := 0 }, { name := "LOG2_BYTE_BIT_SIZE", type := .int, accessFlags := 26, slot := 10, constantValue := 0 }, { name := "T_BOOLEAN", type := .int, accessFlags := 25, slot := 11, constantValue := 0 }, { name := "T_CHAR", type := .int, accessFlags := 25, slot := 12, constantValue := 0 }, { name := "T_FLOAT", type := .int, accessFlags := 25, slot := 13, constantValue := 0 }, { name := "T_DOUBLE", type := .int, accessFlags := 25, slot := 14, constantValue := 0 }, { name := "T_BYTE", type := .int, accessFlags := 25, slot := 15, constantValue := 0 }, { name := "T_SHORT", type := .int, accessFlags := 25, slot := 16, constantValue := 0 }, { name := "T_INT", type := .int, accessFlags := 25, slot := 17, constantValue := 0 }, { name := "T_LONG", type := .int, accessFlags := 25, slot := 18, constantValue := 0 }, { name := "JLA", type := (.object "jdk/internal/access/JavaLangAccess"), accessFlags := 26, slot := 19, constantValue := 0 }, { name := "SOFT_MAX_ARRAY_LENGTH", type := .int, accessFlags := 25, slot := 20, constantValue := 0 }]
  methods := #[k34m0]
  instanceTypes := #[]
  staticTypes := #[(.object "jdk/internal/misc/Unsafe"), .boolean, .int, .int, .int, .int, .int, .int, .int, .int, .int, .int, .int, .int, .int, .int, .int, .int, .int, (.object "jdk/internal/access/JavaLangAccess"), .int]
  resolved := Array.replicate 378 none
  statics := none }

def pool35 : Array CpInfo := pool [(1, u "java/lang/Class"), (0, .class_ 1), (0, u "java/lang/Object"), (0, .class_ 3)] 3

/-- java/lang/Class -/
def k35 : Class := { plain "java/lang/Class" (some 0) with
  accessFlags := 49
  interfaces := #[]
  cf := some (fileOf pool35 2 #[] #[] 49 4 #[] #[])
  fields := #[]
  methods := #[]
  instanceTypes := #[]
  staticTypes := #[]
  resolved := Array.replicate 8 none
  statics := none }

/-- the primitive byte -/
def k36 : Class := { plain "byte" none with kind := .primitive 'B', accessFlags := 0x411 }
/-- [B -/
def k37 : Class := { plain "[B" (some 0) with kind := .array 36 .byte, interfaces := #[22, 6], accessFlags := 1041 }

/-- the primitive char -/
def k38 : Class := { plain "char" none with kind := .primitive 'C', accessFlags := 0x411 }
/-- [C -/
def k39 : Class := { plain "[C" (some 0) with kind := .array 38 .char, interfaces := #[22, 6], accessFlags := 1041 }

/-- the primitive int -/
def k40 : Class := { plain "int" none with kind := .primitive 'I', accessFlags := 0x411 }
/-- [I -/
def k41 : Class := { plain "[I" (some 0) with kind := .array 40 .int, interfaces := #[22, 6], accessFlags := 1041 }

/-- [Ljava/lang/Object; -/
def k42 : Class := { plain "[Ljava/lang/Object;" (some 0) with mirror := some 5, kind := .array 0 (.object "java/lang/Object"), interfaces := #[22, 6], accessFlags := 1041 }

def heap : Heap := #[{ cls := 8, slots := #[.null, .null, .null, .null, .null, .null, .null, .null, .null, .null, .null, .null, .null, .null, .null, .ref 7, .null, .ref 9, .null, .null, .null, .null, .null, .ref 8, .null, .null, .null, .null, .null, .null, .null, .null, .null, .null, .null, .ref 10, .null], vm := .statics 8 },
  { cls := 11, slots := #[.long 0, .int 1, .null, .int 0, .null, .int 0, .int 0], vm := .statics 11 },
  { cls := 23, slots := #[.long 0, .int 0, .ref 12, .ref 13], vm := .statics 23 },
  { cls := 26, slots := #[.long 0, .int 0, .null, .ref 14, .ref 11, .null, .null, .null, .int 0, .int 1], vm := .statics 26 },
  { cls := 33, slots := #[.null, .null, .null], vm := .statics 33 },
  { cls := 35, slots := #[], vm := .mirror 42 },
  { cls := 42, slots := #[], vm := .none },
  { cls := 8, slots := #[.null, .int 0, .int 0, .null], vm := .none },
  { cls := 8, slots := #[.null, .int 1, .int 0, .null], vm := .none },
  { cls := 8, slots := #[.null, .int 2, .int 0, .null], vm := .none },
  { cls := 8, slots := #[.null, .int 3, .int 0, .null], vm := .none },
  { cls := 30, slots := #[.ref 6, .int 0], vm := .none },
  { cls := 42, slots := #[], vm := .none },
  { cls := 42, slots := #[], vm := .none },
  { cls := 0, slots := #[], vm := .none }]
def classes : Array Class := #[k0, k1, k2, k3, k4, k5, k6, k7, k8, k9, k10, k11, k12, k13, k14, k15, k16, k17, k18, k19, k20, k21, k22, k23, k24, k25, k26, k27, k28, k29, k30, k31, k32, k33, k34, k35, k36, k37, k38, k39, k40, k41, k42]
def interned : List (Array UInt16 × Addr) := []
def slotsUsed : Nat := 79
def theMethod : MethodId := ⟨1, 2⟩
def args0 : Array Value := #[.int 1, .int 65, .int 0, .int 1]
def aboutOver (below : List Frame) : State where
  vm := { classes := classes, interned := interned.toArray }
  heap := heap
  slotsUsed := slotsUsed
  threads := #[{ frames := .invoking theMethod args0 :: below }]
def below0 : List Frame := [.native { method := ⟨0, 0⟩, args := #[] }]
def about1 : State := aboutOver below0
def p0 : Program := .bare "" "" ""
def e0 : Env := launch0.env 0 0 0
theorem w_frames : about1.frames = Frame.invoking theMethod args0 :: below0 := rfl
set_option maxRecDepth 65536 in
theorem w_args : argsFit about1.vm theMethod args0 = true := by decide +kernel
set_option maxRecDepth 65536 in
theorem w_heap : heapFits about1 = true := by decide +kernel
set_option maxRecDepth 65536 in
theorem w_runnable : about1.curStatus? = some .runnable := by decide +kernel
set_option maxRecDepth 65536 in
theorem w_alone : about1.alone = true := by decide +kernel
set_option maxRecDepth 65536 in
theorem w_named : about1.methodNamed? x = some theMethod := by decide +kernel
set_option maxRecDepth 65536 in
theorem w_hears : about1.hears theMethod below0 = true := by decide +kernel
set_option maxRecDepth 65536 in
theorem w_ripe : about1.ripe theMethod args0 below0 = true := by decide +kernel
theorem w_running : about1.status = .running := rfl
set_option maxRecDepth 65536 in
theorem w_room : about1.hasRoom e0.platform room_1 = true :=
  launch0.hasRoom_least _ room_1 (by decide +kernel) (by decide +kernel) (by decide +kernel) (by decide +kernel) (by decide +kernel) (by decide +kernel)
theorem allAtoms_all (ts : List Jvm.Cond) (a : Array Jvm.Value) (st : Jvm.State) : (allAtoms ts).before a st = ts.all (fun c => c.before a st) := by
  induction ts with
  | nil => rfl
  | cons c t ih =>
    show (Jvm.Cond.and c (allAtoms t)).before a st = _
    rw [Jvm.Cond.before_and, ih, List.all_cons]
def words1 : List Jvm.Cond := Jvm.Cond.code x code maxLocals ret :: tables_1
/-- a 'code' word, met by the world's own term for the bytes: nothing is compared byte by byte -/
theorem code_word {y : MethodName} {bytes : ByteArray} {mx : Nat} {rt : Option FieldType} {a : Array Value} {s : State} {m : MethodId} {meth : Method} {c : Code} (h1 : s.methodNamed? y = some m) (h2 : s.vm.method? m = some meth) (h3 : meth.code = some c) (h4 : c.code = bytes)
    (h5 : (c.maxLocals == mx && c.exceptionTable.isEmpty && decide (c.maxStack ≤ mostOperands) && decide (meth.sig.returnType = rt) && !meth.locks && decide (parseMethodDescriptor y.desc = some meth.sig)) = true) : (Jvm.Cond.code y bytes mx rt).before a s = true := by
  simp only [Bool.and_eq_true, beq_iff_eq, Bool.not_eq_true', decide_eq_true_eq] at h5
  obtain ⟨⟨⟨⟨⟨g1, g2⟩, g3⟩, g4⟩, g5⟩, g6⟩ := h5
  simp [Cond.before, Cond.holds, Cond.value, h1, h2, h3, h4, g1, g2, g3, g4, g5, g6]
def isCode : Jvm.Cond → Bool
  | .code _ _ _ _ => true
  | _ => false
theorem all_split {L : List Jvm.Cond} {P : Jvm.Cond → Bool} (h1 : L.all (fun c => isCode c || P c) = true) (h2 : ∀ c ∈ L.filter isCode, P c = true) : L.all P = true := by
  refine List.all_eq_true.mpr fun c hc => ?_
  have h := List.all_eq_true.mp h1 c hc
  rcases Bool.eq_false_or_eq_true (isCode c) with hi | hi
  · exact h2 c (List.mem_filter.mpr ⟨hc, hi⟩)
  · simpa [hi] using h
set_option maxRecDepth 65536 in
theorem w_c0 : (Jvm.Cond.code x code maxLocals ret).before args0 about1 = true := code_word (m := ⟨1, 2⟩) (meth := k1m2) (c := k1c2) (by decide +kernel) rfl rfl rfl (by decide +kernel)
set_option maxRecDepth 65536 in
theorem w_c1 : (Jvm.Cond.code ({ cls := "com/example/deposita/deposita/formats/MappedIsRefusedPinLaw", name := "pick", desc := "(I)Lcom/example/deposita/deposita/core/Rule;" } : Jvm.MethodName) method_2_code (2 : Nat) (Option.some (Jvm.ClassFile.FieldType.object "com/example/deposita/deposita/core/Rule"))).before args0 about1 = true := code_word (m := ⟨1, 1⟩) (meth := k1m1) (c := k1c1) (by decide +kernel) rfl rfl rfl (by decide +kernel)
set_option maxRecDepth 65536 in
theorem w_c2 : (Jvm.Cond.code ({ cls := "java/lang/String", name := "valueOf", desc := "(C)Ljava/lang/String;" } : Jvm.MethodName) jdk_42_method_139_code (1 : Nat) (Option.some (Jvm.ClassFile.FieldType.object "java/lang/String"))).before args0 about1 = true := code_word (m := ⟨11, 2⟩) (meth := k11m2) (c := k11c2) (by decide +kernel) rfl rfl rfl (by decide +kernel)
set_option maxRecDepth 65536 in
theorem w_c3 : (Jvm.Cond.code ({ cls := "java/lang/StringLatin1", name := "canEncode", desc := "(C)Z" } : Jvm.MethodName) jdk_43_method_3_code (1 : Nat) (Option.some Jvm.ClassFile.FieldType.boolean)).before args0 about1 = true := code_word (m := ⟨12, 1⟩) (meth := k12m1) (c := k12c1) (by decide +kernel) rfl rfl rfl (by decide +kernel)
set_option maxRecDepth 65536 in
theorem w_c4 : (Jvm.Cond.code ({ cls := "java/lang/StringLatin1", name := "toBytes", desc := "(C)[B" } : Jvm.MethodName) jdk_43_method_46_code (1 : Nat) (Option.some (Jvm.ClassFile.FieldType.array Jvm.ClassFile.FieldType.byte))).before args0 about1 = true := code_word (m := ⟨12, 2⟩) (meth := k12m2) (c := k12c2) (by decide +kernel) rfl rfl rfl (by decide +kernel)
set_option maxRecDepth 65536 in
theorem w_c5 : (Jvm.Cond.code ({ cls := "java/lang/String", name := "<init>", desc := "([BB)V" } : Jvm.MethodName) jdk_42_method_151_code (3 : Nat) (Option.none : Option Jvm.ClassFile.FieldType)).before args0 about1 = true := code_word (m := ⟨11, 4⟩) (meth := k11m4) (c := k11c4) (by decide +kernel) rfl rfl rfl (by decide +kernel)
set_option maxRecDepth 65536 in
theorem w_c6 : (Jvm.Cond.code ({ cls := "java/lang/Object", name := "<init>", desc := "()V" } : Jvm.MethodName) object_method_1_code (1 : Nat) (Option.none : Option Jvm.ClassFile.FieldType)).before args0 about1 = true := code_word (m := ⟨0, 0⟩) (meth := k0m0) (c := k0c0) (by decide +kernel) rfl rfl rfl (by decide +kernel)
set_option maxRecDepth 65536 in
theorem w_c7 : (Jvm.Cond.code ({ cls := "com/example/deposita/deposita/core/Finding", name := "<init>", desc := "(Lcom/example/deposita/deposita/core/Rule;Ljava/lang/String;)V" } : Jvm.MethodName) prog_10_method_1_code (3 : Nat) (Option.none : Option Jvm.ClassFile.FieldType)).before args0 about1 = true := code_word (m := ⟨3, 0⟩) (meth := k3m0) (c := k3c0) (by decide +kernel) rfl rfl rfl (by decide +kernel)
set_option maxRecDepth 65536 in
theorem w_c8 : (Jvm.Cond.code ({ cls := "java/lang/Record", name := "<init>", desc := "()V" } : Jvm.MethodName) jdk_30_method_1_code (1 : Nat) (Option.none : Option Jvm.ClassFile.FieldType)).before args0 about1 = true := code_word (m := ⟨2, 0⟩) (meth := k2m0) (c := k2c0) (by decide +kernel) rfl rfl rfl (by decide +kernel)
set_option maxRecDepth 65536 in
theorem w_c9 : (Jvm.Cond.code ({ cls := "java/util/Objects", name := "requireNonNull", desc := "(Ljava/lang/Object;Ljava/lang/String;)Ljava/lang/Object;" } : Jvm.MethodName) jdk_31_method_11_code (2 : Nat) (Option.some (Jvm.ClassFile.FieldType.object "java/lang/Object"))).before args0 about1 = true := code_word (m := ⟨13, 2⟩) (meth := k13m2) (c := k13c2) (by decide +kernel) rfl rfl rfl (by decide +kernel)
set_option maxRecDepth 65536 in
theorem w_c10 : (Jvm.Cond.code ({ cls := "java/lang/String", name := "<init>", desc := "([C)V" } : Jvm.MethodName) jdk_42_method_3_code (2 : Nat) (Option.none : Option Jvm.ClassFile.FieldType)).before args0 about1 = true := code_word (m := ⟨11, 1⟩) (meth := k11m1) (c := k11c1) (by decide +kernel) rfl rfl rfl (by decide +kernel)
set_option maxRecDepth 65536 in
theorem w_c11 : (Jvm.Cond.code ({ cls := "java/lang/String", name := "<init>", desc := "([CIILjava/lang/Void;)V" } : Jvm.MethodName) jdk_42_method_149_code (6 : Nat) (Option.none : Option Jvm.ClassFile.FieldType)).before args0 about1 = true := code_word (m := ⟨11, 3⟩) (meth := k11m3) (c := k11c3) (by decide +kernel) rfl rfl rfl (by decide +kernel)
set_option maxRecDepth 65536 in
theorem w_c12 : (Jvm.Cond.code ({ cls := "java/lang/StringUTF16", name := "compress", desc := "([CII)[B" } : Jvm.MethodName) jdk_52_method_16_code (6 : Nat) (Option.some (Jvm.ClassFile.FieldType.array Jvm.ClassFile.FieldType.byte))).before args0 about1 = true := code_word (m := ⟨14, 2⟩) (meth := k14m2) (c := k14c2) (by decide +kernel) rfl rfl rfl (by decide +kernel)
set_option maxRecDepth 65536 in
theorem w_c13 : (Jvm.Cond.code ({ cls := "java/lang/StringUTF16", name := "compress", desc := "([CI[BII)I" } : Jvm.MethodName) jdk_52_method_21_code (7 : Nat) (Option.some Jvm.ClassFile.FieldType.int)).before args0 about1 = true := code_word (m := ⟨14, 3⟩) (meth := k14m3) (c := k14c3) (by decide +kernel) rfl rfl rfl (by decide +kernel)
set_option maxRecDepth 65536 in
theorem w_c14 : (Jvm.Cond.code ({ cls := "java/lang/StringUTF16", name := "coderFromArrayLen", desc := "([BI)B" } : Jvm.MethodName) jdk_52_method_15_code (2 : Nat) (Option.some Jvm.ClassFile.FieldType.byte)).before args0 about1 = true := code_word (m := ⟨14, 1⟩) (meth := k14m1) (c := k14c1) (by decide +kernel) rfl rfl rfl (by decide +kernel)
set_option maxRecDepth 65536 in
theorem w_c15 : (Jvm.Cond.code ({ cls := "java/util/ArrayList", name := "<init>", desc := "()V" } : Jvm.MethodName) jdk_38_method_2_code (1 : Nat) (Option.none : Option Jvm.ClassFile.FieldType)).before args0 about1 = true := code_word (m := ⟨23, 0⟩) (meth := k23m0) (c := k23c0) (by decide +kernel) rfl rfl rfl (by decide +kernel)
set_option maxRecDepth 65536 in
theorem w_c16 : (Jvm.Cond.code ({ cls := "java/util/AbstractList", name := "<init>", desc := "()V" } : Jvm.MethodName) jdk_39_method_1_code (1 : Nat) (Option.none : Option Jvm.ClassFile.FieldType)).before args0 about1 = true := code_word (m := ⟨20, 0⟩) (meth := k20m0) (c := k20c0) (by decide +kernel) rfl rfl rfl (by decide +kernel)
set_option maxRecDepth 65536 in
theorem w_c17 : (Jvm.Cond.code ({ cls := "java/util/AbstractCollection", name := "<init>", desc := "()V" } : Jvm.MethodName) jdk_22_method_1_code (1 : Nat) (Option.none : Option Jvm.ClassFile.FieldType)).before args0 about1 = true := code_word (m := ⟨17, 0⟩) (meth := k17m0) (c := k17c0) (by decide +kernel) rfl rfl rfl (by decide +kernel)
set_option maxRecDepth 65536 in
theorem w_c18 : (Jvm.Cond.code ({ cls := "java/util/ArrayList", name := "add", desc := "(Ljava/lang/Object;)Z" } : Jvm.MethodName) jdk_38_method_25_code (2 : Nat) (Option.some Jvm.ClassFile.FieldType.boolean)).before args0 about1 = true := code_word (m := ⟨23, 6⟩) (meth := k23m6) (c := k23c6) (by decide +kernel) rfl rfl rfl (by decide +kernel)
set_option maxRecDepth 65536 in
theorem w_c19 : (Jvm.Cond.code ({ cls := "java/util/ArrayList", name := "add", desc := "(Ljava/lang/Object;[Ljava/lang/Object;I)V" } : Jvm.MethodName) jdk_38_method_24_code (4 : Nat) (Option.none : Option Jvm.ClassFile.FieldType)).before args0 about1 = true := code_word (m := ⟨23, 5⟩) (meth := k23m5) (c := k23c5) (by decide +kernel) rfl rfl rfl (by decide +kernel)
set_option maxRecDepth 65536 in
theorem w_c20 : (Jvm.Cond.code ({ cls := "java/util/ArrayList", name := "grow", desc := "()[Ljava/lang/Object;" } : Jvm.MethodName) jdk_38_method_7_code (1 : Nat) (Option.some (Jvm.ClassFile.FieldType.array (Jvm.ClassFile.FieldType.object "java/lang/Object")))).before args0 about1 = true := code_word (m := ⟨23, 2⟩) (meth := k23m2) (c := k23c2) (by decide +kernel) rfl rfl rfl (by decide +kernel)
set_option maxRecDepth 65536 in
theorem w_c21 : (Jvm.Cond.code ({ cls := "java/util/ArrayList", name := "grow", desc := "(I)[Ljava/lang/Object;" } : Jvm.MethodName) jdk_38_method_6_code (4 : Nat) (Option.some (Jvm.ClassFile.FieldType.array (Jvm.ClassFile.FieldType.object "java/lang/Object")))).before args0 about1 = true := code_word (m := ⟨23, 1⟩) (meth := k23m1) (c := k23c1) (by decide +kernel) rfl rfl rfl (by decide +kernel)
set_option maxRecDepth 65536 in
theorem w_c22 : (Jvm.Cond.code ({ cls := "java/lang/Math", name := "max", desc := "(II)I" } : Jvm.MethodName) jdk_29_method_65_code (2 : Nat) (Option.some Jvm.ClassFile.FieldType.int)).before args0 about1 = true := code_word (m := ⟨24, 1⟩) (meth := k24m1) (c := k24c1) (by decide +kernel) rfl rfl rfl (by decide +kernel)
set_option maxRecDepth 65536 in
theorem w_c23 : (Jvm.Cond.code ({ cls := "com/example/deposita/deposita/formats/Mapped", name := "<init>", desc := "(Ljava/lang/String;Lcom/example/deposita/deposita/core/Product;Ljava/util/List;Lcom/example/deposita/deposita/core/Finding;)V" } : Jvm.MethodName) prog_44_method_1_code (5 : Nat) (Option.none : Option Jvm.ClassFile.FieldType)).before args0 about1 = true := code_word (m := ⟨25, 0⟩) (meth := k25m0) (c := k25c0) (by decide +kernel) rfl rfl rfl (by decide +kernel)
set_option maxRecDepth 65536 in
theorem w_c24 : (Jvm.Cond.code ({ cls := "java/util/List", name := "copyOf", desc := "(Ljava/util/Collection;)Ljava/util/List;" } : Jvm.MethodName) jdk_40_method_48_code (1 : Nat) (Option.some (Jvm.ClassFile.FieldType.object "java/util/List"))).before args0 about1 = true := code_word (m := ⟨19, 2⟩) (meth := k19m2) (c := k19c2) (by decide +kernel) rfl rfl rfl (by decide +kernel)
set_option maxRecDepth 65536 in
theorem w_c25 : (Jvm.Cond.code ({ cls := "java/util/ImmutableCollections", name := "listCopy", desc := "(Ljava/util/Collection;)Ljava/util/List;" } : Jvm.MethodName) jdk_56_method_3_code (2 : Nat) (Option.some (Jvm.ClassFile.FieldType.object "java/util/List"))).before args0 about1 = true := code_word (m := ⟨26, 1⟩) (meth := k26m1) (c := k26c1) (by decide +kernel) rfl rfl rfl (by decide +kernel)
set_option maxRecDepth 65536 in
theorem w_c26 : (Jvm.Cond.code ({ cls := "java/util/ArrayList", name := "isEmpty", desc := "()Z" } : Jvm.MethodName) jdk_38_method_9_code (1 : Nat) (Option.some Jvm.ClassFile.FieldType.boolean)).before args0 about1 = true := code_word (m := ⟨23, 3⟩) (meth := k23m3) (c := k23c3) (by decide +kernel) rfl rfl rfl (by decide +kernel)
set_option maxRecDepth 65536 in
theorem w_c27 : (Jvm.Cond.code ({ cls := "java/util/ArrayList", name := "toArray", desc := "()[Ljava/lang/Object;" } : Jvm.MethodName) jdk_38_method_16_code (1 : Nat) (Option.some (Jvm.ClassFile.FieldType.array (Jvm.ClassFile.FieldType.object "java/lang/Object")))).before args0 about1 = true := code_word (m := ⟨23, 4⟩) (meth := k23m4) (c := k23c4) (by decide +kernel) rfl rfl rfl (by decide +kernel)
set_option maxRecDepth 65536 in
theorem w_c28 : (Jvm.Cond.code ({ cls := "java/util/Arrays", name := "copyOf", desc := "([Ljava/lang/Object;I)[Ljava/lang/Object;" } : Jvm.MethodName) jdk_65_method_119_code (2 : Nat) (Option.some (Jvm.ClassFile.FieldType.array (Jvm.ClassFile.FieldType.object "java/lang/Object")))).before args0 about1 = true := code_word (m := ⟨31, 1⟩) (meth := k31m1) (c := k31c1) (by decide +kernel) rfl rfl rfl (by decide +kernel)
set_option maxRecDepth 65536 in
theorem w_c29 : (Jvm.Cond.code ({ cls := "java/util/Arrays", name := "copyOf", desc := "([Ljava/lang/Object;ILjava/lang/Class;)[Ljava/lang/Object;" } : Jvm.MethodName) jdk_65_method_120_code (4 : Nat) (Option.some (Jvm.ClassFile.FieldType.array (Jvm.ClassFile.FieldType.object "java/lang/Object")))).before args0 about1 = true := code_word (m := ⟨31, 2⟩) (meth := k31m2) (c := k31c2) (by decide +kernel) rfl rfl rfl (by decide +kernel)
set_option maxRecDepth 65536 in
theorem w_c30 : (Jvm.Cond.code ({ cls := "java/lang/Math", name := "min", desc := "(II)I" } : Jvm.MethodName) jdk_29_method_69_code (2 : Nat) (Option.some Jvm.ClassFile.FieldType.int)).before args0 about1 = true := code_word (m := ⟨24, 2⟩) (meth := k24m2) (c := k24c2) (by decide +kernel) rfl rfl rfl (by decide +kernel)
set_option maxRecDepth 65536 in
theorem w_c31 : (Jvm.Cond.code ({ cls := "java/util/List", name := "of", desc := "([Ljava/lang/Object;)Ljava/util/List;" } : Jvm.MethodName) jdk_40_method_47_code (2 : Nat) (Option.some (Jvm.ClassFile.FieldType.object "java/util/List"))).before args0 about1 = true := code_word (m := ⟨19, 1⟩) (meth := k19m1) (c := k19c1) (by decide +kernel) rfl rfl rfl (by decide +kernel)
set_option maxRecDepth 65536 in
theorem w_c32 : (Jvm.Cond.code ({ cls := "java/util/ImmutableCollections$List12", name := "<init>", desc := "(Ljava/lang/Object;)V" } : Jvm.MethodName) jdk_44_method_1_code (2 : Nat) (Option.none : Option Jvm.ClassFile.FieldType)).before args0 about1 = true := code_word (m := ⟨29, 0⟩) (meth := k29m0) (c := k29c0) (by decide +kernel) rfl rfl rfl (by decide +kernel)
set_option maxRecDepth 65536 in
theorem w_c33 : (Jvm.Cond.code ({ cls := "java/util/ImmutableCollections$AbstractImmutableList", name := "<init>", desc := "()V" } : Jvm.MethodName) jdk_46_method_1_code (1 : Nat) (Option.none : Option Jvm.ClassFile.FieldType)).before args0 about1 = true := code_word (m := ⟨28, 0⟩) (meth := k28m0) (c := k28c0) (by decide +kernel) rfl rfl rfl (by decide +kernel)
set_option maxRecDepth 65536 in
theorem w_c34 : (Jvm.Cond.code ({ cls := "java/util/ImmutableCollections$AbstractImmutableCollection", name := "<init>", desc := "()V" } : Jvm.MethodName) jdk_47_method_1_code (1 : Nat) (Option.none : Option Jvm.ClassFile.FieldType)).before args0 about1 = true := code_word (m := ⟨27, 0⟩) (meth := k27m0) (c := k27c0) (by decide +kernel) rfl rfl rfl (by decide +kernel)
set_option maxRecDepth 65536 in
theorem w_c35 : (Jvm.Cond.code ({ cls := "java/util/Objects", name := "requireNonNull", desc := "(Ljava/lang/Object;)Ljava/lang/Object;" } : Jvm.MethodName) jdk_31_method_10_code (1 : Nat) (Option.some (Jvm.ClassFile.FieldType.object "java/lang/Object"))).before args0 about1 = true := code_word (m := ⟨13, 1⟩) (meth := k13m1) (c := k13c1) (by decide +kernel) rfl rfl rfl (by decide +kernel)
set_option maxRecDepth 65536 in
theorem w_c36 : (Jvm.Cond.code ({ cls := "com/example/deposita/deposita/formats/Mapped", name := "isRefused", desc := "()Z" } : Jvm.MethodName) prog_44_method_4_code (1 : Nat) (Option.some Jvm.ClassFile.FieldType.boolean)).before args0 about1 = true := code_word (m := ⟨25, 3⟩) (meth := k25m3) (c := k25c3) (by decide +kernel) rfl rfl rfl (by decide +kernel)
set_option maxRecDepth 65536 in
theorem w_c37 : (Jvm.Cond.code ({ cls := "java/util/List", name := "of", desc := "()Ljava/util/List;" } : Jvm.MethodName) jdk_40_method_36_code (0 : Nat) (Option.some (Jvm.ClassFile.FieldType.object "java/util/List"))).before args0 about1 = true := code_word (m := ⟨19, 0⟩) (meth := k19m0) (c := k19c0) (by decide +kernel) rfl rfl rfl (by decide +kernel)
set_option maxRecDepth 65536 in
theorem w_c38 : (Jvm.Cond.code ({ cls := "com/example/deposita/deposita/formats/Mapped", name := "refused", desc := "(Ljava/lang/String;Lcom/example/deposita/deposita/core/Finding;)Lcom/example/deposita/deposita/formats/Mapped;" } : Jvm.MethodName) prog_44_method_3_code (2 : Nat) (Option.some (Jvm.ClassFile.FieldType.object "com/example/deposita/deposita/formats/Mapped"))).before args0 about1 = true := code_word (m := ⟨25, 2⟩) (meth := k25m2) (c := k25c2) (by decide +kernel) rfl rfl rfl (by decide +kernel)
set_option maxRecDepth 65536 in
theorem w_c39 : (Jvm.Cond.code ({ cls := "com/example/deposita/deposita/formats/Mapped", name := "written", desc := "(Ljava/lang/String;Lcom/example/deposita/deposita/core/Product;Ljava/util/List;)Lcom/example/deposita/deposita/formats/Mapped;" } : Jvm.MethodName) prog_44_method_2_code (3 : Nat) (Option.some (Jvm.ClassFile.FieldType.object "com/example/deposita/deposita/formats/Mapped"))).before args0 about1 = true := code_word (m := ⟨25, 1⟩) (meth := k25m1) (c := k25c1) (by decide +kernel) rfl rfl rfl (by decide +kernel)
def codes1 : List Jvm.Cond := [Jvm.Cond.code x code maxLocals ret, Jvm.Cond.code ({ cls := "com/example/deposita/deposita/formats/MappedIsRefusedPinLaw", name := "pick", desc := "(I)Lcom/example/deposita/deposita/core/Rule;" } : Jvm.MethodName) method_2_code (2 : Nat) (Option.some (Jvm.ClassFile.FieldType.object "com/example/deposita/deposita/core/Rule")), Jvm.Cond.code ({ cls := "java/lang/String", name := "valueOf", desc := "(C)Ljava/lang/String;" } : Jvm.MethodName) jdk_42_method_139_code (1 : Nat) (Option.some (Jvm.ClassFile.FieldType.object "java/lang/String")), Jvm.Cond.code ({ cls := "java/lang/StringLatin1", name := "canEncode", desc := "(C)Z" } : Jvm.MethodName) jdk_43_method_3_code (1 : Nat) (Option.some Jvm.ClassFile.FieldType.boolean), Jvm.Cond.code ({ cls := "java/lang/StringLatin1", name := "toBytes", desc := "(C)[B" } : Jvm.MethodName) jdk_43_method_46_code (1 : Nat) (Option.some (Jvm.ClassFile.FieldType.array Jvm.ClassFile.FieldType.byte)), Jvm.Cond.code ({ cls := "java/lang/String", name := "<init>", desc := "([BB)V" } : Jvm.MethodName) jdk_42_method_151_code (3 : Nat) (Option.none : Option Jvm.ClassFile.FieldType), Jvm.Cond.code ({ cls := "java/lang/Object", name := "<init>", desc := "()V" } : Jvm.MethodName) object_method_1_code (1 : Nat) (Option.none : Option Jvm.ClassFile.FieldType), Jvm.Cond.code ({ cls := "com/example/deposita/deposita/core/Finding", name := "<init>", desc := "(Lcom/example/deposita/deposita/core/Rule;Ljava/lang/String;)V" } : Jvm.MethodName) prog_10_method_1_code (3 : Nat) (Option.none : Option Jvm.ClassFile.FieldType), Jvm.Cond.code ({ cls := "java/lang/Record", name := "<init>", desc := "()V" } : Jvm.MethodName) jdk_30_method_1_code (1 : Nat) (Option.none : Option Jvm.ClassFile.FieldType), Jvm.Cond.code ({ cls := "java/util/Objects", name := "requireNonNull", desc := "(Ljava/lang/Object;Ljava/lang/String;)Ljava/lang/Object;" } : Jvm.MethodName) jdk_31_method_11_code (2 : Nat) (Option.some (Jvm.ClassFile.FieldType.object "java/lang/Object")), Jvm.Cond.code ({ cls := "java/lang/String", name := "<init>", desc := "([C)V" } : Jvm.MethodName) jdk_42_method_3_code (2 : Nat) (Option.none : Option Jvm.ClassFile.FieldType), Jvm.Cond.code ({ cls := "java/lang/String", name := "<init>", desc := "([CIILjava/lang/Void;)V" } : Jvm.MethodName) jdk_42_method_149_code (6 : Nat) (Option.none : Option Jvm.ClassFile.FieldType), Jvm.Cond.code ({ cls := "java/lang/StringUTF16", name := "compress", desc := "([CII)[B" } : Jvm.MethodName) jdk_52_method_16_code (6 : Nat) (Option.some (Jvm.ClassFile.FieldType.array Jvm.ClassFile.FieldType.byte)), Jvm.Cond.code ({ cls := "java/lang/StringUTF16", name := "compress", desc := "([CI[BII)I" } : Jvm.MethodName) jdk_52_method_21_code (7 : Nat) (Option.some Jvm.ClassFile.FieldType.int), Jvm.Cond.code ({ cls := "java/lang/StringUTF16", name := "coderFromArrayLen", desc := "([BI)B" } : Jvm.MethodName) jdk_52_method_15_code (2 : Nat) (Option.some Jvm.ClassFile.FieldType.byte), Jvm.Cond.code ({ cls := "java/util/ArrayList", name := "<init>", desc := "()V" } : Jvm.MethodName) jdk_38_method_2_code (1 : Nat) (Option.none : Option Jvm.ClassFile.FieldType), Jvm.Cond.code ({ cls := "java/util/AbstractList", name := "<init>", desc := "()V" } : Jvm.MethodName) jdk_39_method_1_code (1 : Nat) (Option.none : Option Jvm.ClassFile.FieldType), Jvm.Cond.code ({ cls := "java/util/AbstractCollection", name := "<init>", desc := "()V" } : Jvm.MethodName) jdk_22_method_1_code (1 : Nat) (Option.none : Option Jvm.ClassFile.FieldType), Jvm.Cond.code ({ cls := "java/util/ArrayList", name := "add", desc := "(Ljava/lang/Object;)Z" } : Jvm.MethodName) jdk_38_method_25_code (2 : Nat) (Option.some Jvm.ClassFile.FieldType.boolean), Jvm.Cond.code ({ cls := "java/util/ArrayList", name := "add", desc := "(Ljava/lang/Object;[Ljava/lang/Object;I)V" } : Jvm.MethodName) jdk_38_method_24_code (4 : Nat) (Option.none : Option Jvm.ClassFile.FieldType), Jvm.Cond.code ({ cls := "java/util/ArrayList", name := "grow", desc := "()[Ljava/lang/Object;" } : Jvm.MethodName) jdk_38_method_7_code (1 : Nat) (Option.some (Jvm.ClassFile.FieldType.array (Jvm.ClassFile.FieldType.object "java/lang/Object"))), Jvm.Cond.code ({ cls := "java/util/ArrayList", name := "grow", desc := "(I)[Ljava/lang/Object;" } : Jvm.MethodName) jdk_38_method_6_code (4 : Nat) (Option.some (Jvm.ClassFile.FieldType.array (Jvm.ClassFile.FieldType.object "java/lang/Object"))), Jvm.Cond.code ({ cls := "java/lang/Math", name := "max", desc := "(II)I" } : Jvm.MethodName) jdk_29_method_65_code (2 : Nat) (Option.some Jvm.ClassFile.FieldType.int), Jvm.Cond.code ({ cls := "com/example/deposita/deposita/formats/Mapped", name := "<init>", desc := "(Ljava/lang/String;Lcom/example/deposita/deposita/core/Product;Ljava/util/List;Lcom/example/deposita/deposita/core/Finding;)V" } : Jvm.MethodName) prog_44_method_1_code (5 : Nat) (Option.none : Option Jvm.ClassFile.FieldType), Jvm.Cond.code ({ cls := "java/util/List", name := "copyOf", desc := "(Ljava/util/Collection;)Ljava/util/List;" } : Jvm.MethodName) jdk_40_method_48_code (1 : Nat) (Option.some (Jvm.ClassFile.FieldType.object "java/util/List")), Jvm.Cond.code ({ cls := "java/util/ImmutableCollections", name := "listCopy", desc := "(Ljava/util/Collection;)Ljava/util/List;" } : Jvm.MethodName) jdk_56_method_3_code (2 : Nat) (Option.some (Jvm.ClassFile.FieldType.object "java/util/List")), Jvm.Cond.code ({ cls := "java/util/ArrayList", name := "isEmpty", desc := "()Z" } : Jvm.MethodName) jdk_38_method_9_code (1 : Nat) (Option.some Jvm.ClassFile.FieldType.boolean), Jvm.Cond.code ({ cls := "java/util/ArrayList", name := "toArray", desc := "()[Ljava/lang/Object;" } : Jvm.MethodName) jdk_38_method_16_code (1 : Nat) (Option.some (Jvm.ClassFile.FieldType.array (Jvm.ClassFile.FieldType.object "java/lang/Object"))), Jvm.Cond.code ({ cls := "java/util/Arrays", name := "copyOf", desc := "([Ljava/lang/Object;I)[Ljava/lang/Object;" } : Jvm.MethodName) jdk_65_method_119_code (2 : Nat) (Option.some (Jvm.ClassFile.FieldType.array (Jvm.ClassFile.FieldType.object "java/lang/Object"))), Jvm.Cond.code ({ cls := "java/util/Arrays", name := "copyOf", desc := "([Ljava/lang/Object;ILjava/lang/Class;)[Ljava/lang/Object;" } : Jvm.MethodName) jdk_65_method_120_code (4 : Nat) (Option.some (Jvm.ClassFile.FieldType.array (Jvm.ClassFile.FieldType.object "java/lang/Object"))), Jvm.Cond.code ({ cls := "java/lang/Math", name := "min", desc := "(II)I" } : Jvm.MethodName) jdk_29_method_69_code (2 : Nat) (Option.some Jvm.ClassFile.FieldType.int), Jvm.Cond.code ({ cls := "java/util/List", name := "of", desc := "([Ljava/lang/Object;)Ljava/util/List;" } : Jvm.MethodName) jdk_40_method_47_code (2 : Nat) (Option.some (Jvm.ClassFile.FieldType.object "java/util/List")), Jvm.Cond.code ({ cls := "java/util/ImmutableCollections$List12", name := "<init>", desc := "(Ljava/lang/Object;)V" } : Jvm.MethodName) jdk_44_method_1_code (2 : Nat) (Option.none : Option Jvm.ClassFile.FieldType), Jvm.Cond.code ({ cls := "java/util/ImmutableCollections$AbstractImmutableList", name := "<init>", desc := "()V" } : Jvm.MethodName) jdk_46_method_1_code (1 : Nat) (Option.none : Option Jvm.ClassFile.FieldType), Jvm.Cond.code ({ cls := "java/util/ImmutableCollections$AbstractImmutableCollection", name := "<init>", desc := "()V" } : Jvm.MethodName) jdk_47_method_1_code (1 : Nat) (Option.none : Option Jvm.ClassFile.FieldType), Jvm.Cond.code ({ cls := "java/util/Objects", name := "requireNonNull", desc := "(Ljava/lang/Object;)Ljava/lang/Object;" } : Jvm.MethodName) jdk_31_method_10_code (1 : Nat) (Option.some (Jvm.ClassFile.FieldType.object "java/lang/Object")), Jvm.Cond.code ({ cls := "com/example/deposita/deposita/formats/Mapped", name := "isRefused", desc := "()Z" } : Jvm.MethodName) prog_44_method_4_code (1 : Nat) (Option.some Jvm.ClassFile.FieldType.boolean), Jvm.Cond.code ({ cls := "java/util/List", name := "of", desc := "()Ljava/util/List;" } : Jvm.MethodName) jdk_40_method_36_code (0 : Nat) (Option.some (Jvm.ClassFile.FieldType.object "java/util/List")), Jvm.Cond.code ({ cls := "com/example/deposita/deposita/formats/Mapped", name := "refused", desc := "(Ljava/lang/String;Lcom/example/deposita/deposita/core/Finding;)Lcom/example/deposita/deposita/formats/Mapped;" } : Jvm.MethodName) prog_44_method_3_code (2 : Nat) (Option.some (Jvm.ClassFile.FieldType.object "com/example/deposita/deposita/formats/Mapped")), Jvm.Cond.code ({ cls := "com/example/deposita/deposita/formats/Mapped", name := "written", desc := "(Ljava/lang/String;Lcom/example/deposita/deposita/core/Product;Ljava/util/List;)Lcom/example/deposita/deposita/formats/Mapped;" } : Jvm.MethodName) prog_44_method_2_code (3 : Nat) (Option.some (Jvm.ClassFile.FieldType.object "com/example/deposita/deposita/formats/Mapped"))]
set_option maxRecDepth 65536 in
theorem codes_eq : words1.filter isCode = codes1 := rfl
theorem w_codes : ∀ c ∈ words1.filter isCode, c.before args0 about1 = true := by
  rw [codes_eq]
  intro c hc
  simp only [codes1, List.mem_cons, List.not_mem_nil, or_false] at hc
  rcases hc with rfl | rfl | rfl | rfl | rfl | rfl | rfl | rfl | rfl | rfl | rfl | rfl | rfl | rfl | rfl | rfl | rfl | rfl | rfl | rfl | rfl | rfl | rfl | rfl | rfl | rfl | rfl | rfl | rfl | rfl | rfl | rfl | rfl | rfl | rfl | rfl | rfl | rfl | rfl | rfl
  · exact w_c0
  · exact w_c1
  · exact w_c2
  · exact w_c3
  · exact w_c4
  · exact w_c5
  · exact w_c6
  · exact w_c7
  · exact w_c8
  · exact w_c9
  · exact w_c10
  · exact w_c11
  · exact w_c12
  · exact w_c13
  · exact w_c14
  · exact w_c15
  · exact w_c16
  · exact w_c17
  · exact w_c18
  · exact w_c19
  · exact w_c20
  · exact w_c21
  · exact w_c22
  · exact w_c23
  · exact w_c24
  · exact w_c25
  · exact w_c26
  · exact w_c27
  · exact w_c28
  · exact w_c29
  · exact w_c30
  · exact w_c31
  · exact w_c32
  · exact w_c33
  · exact w_c34
  · exact w_c35
  · exact w_c36
  · exact w_c37
  · exact w_c38
  · exact w_c39
set_option maxRecDepth 65536 in
theorem w_t1 : (words1.take 24).all (fun c => isCode c || c.before args0 about1) = true := by decide +kernel
set_option maxRecDepth 65536 in
theorem w_t2 : ((words1.drop 24).take 24).all (fun c => isCode c || c.before args0 about1) = true := by decide +kernel
set_option maxRecDepth 65536 in
theorem w_t3 : (((words1.drop 24).drop 24).take 24).all (fun c => isCode c || c.before args0 about1) = true := by decide +kernel
set_option maxRecDepth 65536 in
theorem w_t4 : ((((words1.drop 24).drop 24).drop 24).take 24).all (fun c => isCode c || c.before args0 about1) = true := by decide +kernel
set_option maxRecDepth 65536 in
theorem w_t5 : (((((words1.drop 24).drop 24).drop 24).drop 24).take 24).all (fun c => isCode c || c.before args0 about1) = true := by decide +kernel
set_option maxRecDepth 65536 in
theorem w_t6 : ((((((words1.drop 24).drop 24).drop 24).drop 24).drop 24).take 24).all (fun c => isCode c || c.before args0 about1) = true := by decide +kernel
set_option maxRecDepth 65536 in
theorem w_t7 : (((((((words1.drop 24).drop 24).drop 24).drop 24).drop 24).drop 24).take 24).all (fun c => isCode c || c.before args0 about1) = true := by decide +kernel
set_option maxRecDepth 65536 in
theorem w_t8 : ((((((((words1.drop 24).drop 24).drop 24).drop 24).drop 24).drop 24).drop 24).take 24).all (fun c => isCode c || c.before args0 about1) = true := by decide +kernel
set_option maxRecDepth 65536 in
theorem w_t9 : (((((((((words1.drop 24).drop 24).drop 24).drop 24).drop 24).drop 24).drop 24).drop 24).take 24).all (fun c => isCode c || c.before args0 about1) = true := by decide +kernel
set_option maxRecDepth 65536 in
theorem w_t10 : ((((((((((words1.drop 24).drop 24).drop 24).drop 24).drop 24).drop 24).drop 24).drop 24).drop 24).take 24).all (fun c => isCode c || c.before args0 about1) = true := by decide +kernel
set_option maxRecDepth 65536 in
theorem w_t11 : ((((((((((words1.drop 24).drop 24).drop 24).drop 24).drop 24).drop 24).drop 24).drop 24).drop 24).drop 24).all (fun c => isCode c || c.before args0 about1) = true := by decide +kernel
theorem w_tables : (allAtoms (Jvm.Cond.code x code maxLocals ret :: tables_1)).before args0 about1 = true := by
  rw [allAtoms_all]
  show words1.all (fun c => c.before args0 about1) = true
  refine all_split ?_ w_codes
  rw [← List.take_append_drop 24 words1, List.all_append, w_t1, ← List.take_append_drop 24 (words1.drop 24), List.all_append, w_t2, ← List.take_append_drop 24 ((words1.drop 24).drop 24), List.all_append, w_t3, ← List.take_append_drop 24 (((words1.drop 24).drop 24).drop 24), List.all_append, w_t4, ← List.take_append_drop 24 ((((words1.drop 24).drop 24).drop 24).drop 24), List.all_append, w_t5, ← List.take_append_drop 24 (((((words1.drop 24).drop 24).drop 24).drop 24).drop 24), List.all_append, w_t6, ← List.take_append_drop 24 ((((((words1.drop 24).drop 24).drop 24).drop 24).drop 24).drop 24), List.all_append, w_t7, ← List.take_append_drop 24 (((((((words1.drop 24).drop 24).drop 24).drop 24).drop 24).drop 24).drop 24), List.all_append, w_t8, ← List.take_append_drop 24 ((((((((words1.drop 24).drop 24).drop 24).drop 24).drop 24).drop 24).drop 24).drop 24), List.all_append, w_t9, ← List.take_append_drop 24 (((((((((words1.drop 24).drop 24).drop 24).drop 24).drop 24).drop 24).drop 24).drop 24).drop 24), List.all_append, w_t10, w_t11]
  rfl
set_option maxRecDepth 65536 in
theorem w_rest : rest_1_c.before args0 about1 = true := by decide +kernel
set_option maxRecDepth 65536 in
theorem w_case : (Jvm.Cond.and given_1 narrow_1).before args0 about1 = true := by decide +kernel
theorem w_applies : (headSpec (Jvm.Cond.code x code maxLocals ret :: tables_1) room_1).applies x e0.platform about1 = true :=
  (Spec.applies_iff w_frames).mpr ⟨w_running, w_runnable, w_alone, w_named, w_hears, w_ripe, w_room, w_tables⟩
theorem atStart : AtStart classFile x code maxLocals ret World_1 tables_1 room_1 Calls_1 rest_1 Pre_1 launch0 p0 e0 about1 theMethod args0 below0 :=
  ⟨lists_1, trivial, launch0.admits_env _ _ _, launch0.least_env, fairChoices_fair.cas, fairChoices_fair.clock, w_frames, w_args, w_heap, w_applies, ⟨⟨42, k42, 5, by decide +kernel, rfl, rfl, _, rfl, rfl⟩, trivial⟩, w_rest, w_case⟩
end start1
theorem witness_1 : WitnessClaimed_1 := ⟨start1.p0, start1.e0, start1.about1, start1.theMethod, start1.args0, start1.below0, start1.atStart⟩
end Jvm.Pilot.@@N@@
