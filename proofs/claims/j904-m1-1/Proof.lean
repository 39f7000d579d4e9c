import JvmDerived
import JvmDerived.Pilot.@@N@@Statement
import JvmDerived.Pilot.@@N@@Code
set_option linter.unusedVariables false
set_option linter.unusedSimpArgs false
@@BLOCK:NumsL.lean.txt@@
namespace Jvm.RoadKit
open Sem ClassFile Op Lib Jvm.Stand Jvm.Free Jvm.LawKit
section New
variable {p : Program} {l : Launch} {e : Env} {R : Room} {s : State} {m : MethodId} {args : Array Value} {below : List Frame} {meth : Method} {c : Code} {T : State} {locs : List Loc} {cells slots : Nat}
theorem retI (X : Stand p l e R s m args below meth c T locs cells slots) (hx : p.tables.exec = Jvm.exec) {pc : Nat} {Ls : Array Slot} {z : Int32} {rest : List Value} (hret : meth.sig.returnType = some .int) (hd : decode c.code pc = .ok (.ireturn, 1)) {fs : List Frame}
    (hl : ∀ (f : JFrame) (acts : List Action), f.method = m → f.locked = none → f.entered = [] → (doReturn e (T.setTop f) acts (some (.int z))).1 = T.setFrames fs) : Steps p.tables e below (T.setTop (mkF m pc Ls (.int z :: rest))) (T.setFrames fs) := by
  have hm' : T.vm.method? m = some meth := X.method'
  have hn : narrow .int (.int z) = .int z := rfl
  show Steps p.tables e below (T.setTop { method := m, pc := pc, locals := Ls, stack := _ :: rest, locked := none }) _
  jvm_step X.here [X.here.top, hx, hd, hm', hret, hn]
  first | (intro acts; rw [hl _ acts rfl rfl rfl]) | rw [hl _ _ rfl rfl rfl]
  exact Steps.refl _
end New
end Jvm.RoadKit
namespace Jvm.Pilot.@@N@@
open Jvm Jvm.ClassFile Sem Op Lib Jvm.Free Jvm.Stand Jvm.LawKit Jvm.RoadKit Bundle Jvm.Pilot.@@N@@.Jvm.D
theorem own_ge {Z : State} {n0 : Nat} {h : Heap} {b : Addr} (X : Old Z n0 h) (q : h.size ≤ b) : n0 ≤ b := Nat.le_trans (X.1 ▸ X.2.1) q
theorem own_irr (x : Int32) : ¬ (x < x) := by rw [Int32.lt_iff_toInt_lt]; exact Int.lt_irrefl _
theorem own_fld {s : State} {args : Array Value} {t : Term} {C n d : String} {k : Int32} {w : Addr} (ht : t.eval args s none [] s = some (.ref w)) (h : (Jvm.Cond.eq (Term.field t C n d) (Term.int k)).value args s none s [] = some true) : Fld s s.heap w C n d (.int k) := by
  have q := eqv_i (Term.int_eval (k)) h
  rw [fld_at ht] at q
  exact Fld.start q
theorem own_fldN {s : State} {args : Array Value} {t : Term} {C n d : String} {w : Addr} (ht : t.eval args s none [] s = some (.ref w)) (h : (Jvm.Cond.eq (Term.field t C n d) Term.null).value args s none s [] = some true) : Fld s s.heap w C n d .null := by
  have q := null_v h
  rw [fld_at ht] at q
  exact Fld.start q
theorem own_fldR {s : State} {args : Array Value} {t : Term} {C n d : String} {w x : Addr} (ht : t.eval args s none [] s = some (.ref w)) (h : (Term.field t C n d).eval args s none [] s = some (.ref x)) : Fld s s.heap w C n d (.ref x) := by
  rw [fld_at ht] at h
  exact Fld.start h
theorem d2_0 : decode jdk_37_method_2_code 0 = .ok (.aload_n 0, 1) := by decide +kernel
theorem d2_1 : decode jdk_37_method_2_code 1 = .ok (.getfield 7, 3) := by decide +kernel
theorem d2_4 : decode jdk_37_method_2_code 4 = .ok (.ireturn, 1) := by decide +kernel
theorem pn_java_lang_Enum : plainName "java/lang/Enum" = true := by first | (simp [plainName, overriddenIn]; done) | decide +kernel
theorem ef_2 (m : MethodId) (x0 : Addr) : entryFrame m #[(.ref x0)] 1 = mkF m 0 #[.val (.ref x0)] [] := by first | (simp [entryFrame, mkF, argsToLocals, Value.category]; done) | rfl
def Q2 (Z : State) (a0 : Addr) (w_ordinal_a0 : Int32) (h0 : Heap) (n0 : Nat) (v : Option Value) (h : Heap) (L : List Loc) : Prop := v = some (.int w_ordinal_a0) ∧ Fr n0 L ∧ h = h0
set_option maxRecDepth 65536 in
set_option maxHeartbeats 40000000 in
theorem rm2 (l : Launch) (Z : State) (A0 : Array Value) (hw : ∀ d ∈ tables_1, d.before A0 Z = true) (ws : List Jvm.Cond) (a0 : Addr) (w_ordinal_a0 : Int32) (h0 : Heap) (n0 : Nat) (OLD : Old Z n0 h0) (f_1 : Fld Z h0 a0 "java/lang/Enum" "ordinal" "I" (.int w_ordinal_a0)) :
    MetFree l (⟨"java/lang/Enum", "ordinal", "()I"⟩ : MethodName) (head1 (Jvm.Cond.code (⟨"java/lang/Enum", "ordinal", "()I"⟩ : MethodName) jdk_37_method_2_code 1 (some .int) :: ws) ({ frames := 0, cells := 0, slots := 0, locals := 0 } : Room)) (fun a U => a = #[(.ref a0)] ∧ Z.Warmed39 U.vm ∧ U.heap = h0) (fun _ _ _ _ _ => True) (fun _ U o U' => ∃ v L, o = .returned v ∧ Q2 Z a0 w_ordinal_a0 h0 n0 v U'.heap L ∧ FrameEnd U o U' L ({ frames := 0, cells := 0, slots := 0, locals := 0 } : Room).cells ({ frames := 0, cells := 0, slots := 0, locals := 0 } : Room).slots) := by
  refine MetFree.of_bodySF (plainFor_of_name pn_java_lang_Enum) hisR ?_
  intro p e s m args below meth c s₁ Bd hml0 hP hK
  obtain ⟨rfl, hZ, hh⟩ := hP
  have hx := Bd.exec
  have hby := Bd.bytes
  have hml : c.maxLocals = 1 := hml0
  have hown : s.vm.findClass "java/lang/Enum" = some m.cls := findClass_of_methodNamed Bd.named
  have hnm := (name_of_methodNamed Bd.named Bd.method).1
  have X0 : Stand p l e ({ frames := 0, cells := 0, slots := 0, locals := 0 } : Room) s m #[(.ref a0)] below meth c s₁ [] 0 0 := Stand.of_body Bd
  have e0 : s₁.heap = h0 := by rw [← hh, Bd.state]; rfl
  have N0 := Fr.nil n0
  have pre0 : ∀ t, Steps p.tables e below (s₁.setTop (mkF m 0 #[.val (.ref a0)] [])) t → Steps p.tables e below (s₁.setTop (entryFrame m #[(.ref a0)] 1)) t := fun t k => castTop (ef_2 m a0) k
  obtain ⟨T2, X2, e2, st2⟩ := getF X0 hx hZ hown (host := "") (Or.inl (hw _ (List.mem_of_getElem? (i := 43) rfl))) Via.refl e0 f_1 (g := (mkF m 1 #[.val (.ref a0)] [(.ref a0)])) rfl rfl (hb hby d2_1)
  obtain ⟨fs, hr, hrun, hended, hW, hsame⟩ := X2.leave (v := some (.int w_ordinal_a0)) (fun h => by rw [Bd.returns] at h; cases h)
  refine ⟨_, _, pre0 _ ?_, hrun, hended, _, _, rfl, ?_, ⟨_, rfl⟩, hW, hsame.mono (by decide) (by decide)⟩
  · show Steps p.tables e below (s₁.setTop (mkF m 0 #[.val (.ref a0)] [])) _
    refine XS.aloadN X0.here hx rfl (hb hby d2_0) rfl rfl ?_
    show Steps p.tables e below (s₁.setTop (mkF m 1 #[.val (.ref a0)] [(.ref a0)])) _
    refine st2 _ ?_
    show Steps p.tables e below (T2.setTop (mkF m 4 #[.val (.ref a0)] [(.int w_ordinal_a0)])) _
    exact retI X2 hx Bd.returns (hb hby d2_4) hr
  · show Q2 Z a0 w_ordinal_a0 h0 n0 _ T2.heap _
    rw [e2]
    exact ⟨rfl, N0, rfl⟩
theorem d3_0 : decode prog_31_method_5_code 0 = .ok (.aload_n 0, 1) := by decide +kernel
theorem d3_1 : decode prog_31_method_5_code 1 = .ok (.getfield 70, 3) := by decide +kernel
theorem d3_4 : decode prog_31_method_5_code 4 = .ok (.ireturn, 1) := by decide +kernel
theorem pn_com_example_abstractor_abstractor_c_CType : plainName "com/example/abstractor/abstractor/c/CType" = true := by first | (simp [plainName, overriddenIn]; done) | decide +kernel
theorem ef_3 (m : MethodId) (x0 : Addr) : entryFrame m #[(.ref x0)] 1 = mkF m 0 #[.val (.ref x0)] [] := by first | (simp [entryFrame, mkF, argsToLocals, Value.category]; done) | rfl
def Q3 (Z : State) (a0 : Addr) (w_signed_a0 : Int32) (h0 : Heap) (n0 : Nat) (v : Option Value) (h : Heap) (L : List Loc) : Prop := v = some (.int (nar .boolean w_signed_a0)) ∧ Fr n0 L ∧ h = h0
set_option maxRecDepth 65536 in
set_option maxHeartbeats 40000000 in
theorem rm3 (l : Launch) (Z : State) (A0 : Array Value) (hw : ∀ d ∈ tables_1, d.before A0 Z = true) (ws : List Jvm.Cond) (a0 : Addr) (w_signed_a0 : Int32) (h0 : Heap) (n0 : Nat) (OLD : Old Z n0 h0) (f_1 : Fld Z h0 a0 "com/example/abstractor/abstractor/c/CType" "signed" "Z" (.int w_signed_a0)) :
    MetFree l (⟨"com/example/abstractor/abstractor/c/CType", "isSigned", "()Z"⟩ : MethodName) (head1 (Jvm.Cond.code (⟨"com/example/abstractor/abstractor/c/CType", "isSigned", "()Z"⟩ : MethodName) prog_31_method_5_code 1 (some .boolean) :: ws) ({ frames := 0, cells := 0, slots := 0, locals := 0 } : Room)) (fun a U => a = #[(.ref a0)] ∧ Z.Warmed39 U.vm ∧ U.heap = h0) (fun _ _ _ _ _ => True) (fun _ U o U' => ∃ v L, o = .returned v ∧ Q3 Z a0 w_signed_a0 h0 n0 v U'.heap L ∧ FrameEnd U o U' L ({ frames := 0, cells := 0, slots := 0, locals := 0 } : Room).cells ({ frames := 0, cells := 0, slots := 0, locals := 0 } : Room).slots) := by
  refine MetFree.of_bodySF (plainFor_of_name pn_com_example_abstractor_abstractor_c_CType) hisR ?_
  intro p e s m args below meth c s₁ Bd hml0 hP hK
  obtain ⟨rfl, hZ, hh⟩ := hP
  have hx := Bd.exec
  have hby := Bd.bytes
  have hml : c.maxLocals = 1 := hml0
  have hown : s.vm.findClass "com/example/abstractor/abstractor/c/CType" = some m.cls := findClass_of_methodNamed Bd.named
  have hnm := (name_of_methodNamed Bd.named Bd.method).1
  have X0 : Stand p l e ({ frames := 0, cells := 0, slots := 0, locals := 0 } : Room) s m #[(.ref a0)] below meth c s₁ [] 0 0 := Stand.of_body Bd
  have e0 : s₁.heap = h0 := by rw [← hh, Bd.state]; rfl
  have N0 := Fr.nil n0
  have pre0 : ∀ t, Steps p.tables e below (s₁.setTop (mkF m 0 #[.val (.ref a0)] [])) t → Steps p.tables e below (s₁.setTop (entryFrame m #[(.ref a0)] 1)) t := fun t k => castTop (ef_3 m a0) k
  obtain ⟨T2, X2, e2, st2⟩ := getF X0 hx hZ hown (host := "") (Or.inl (hw _ (List.mem_of_getElem? (i := 50) rfl))) Via.refl e0 f_1 (g := (mkF m 1 #[.val (.ref a0)] [(.ref a0)])) rfl rfl (hb hby d3_1)
  obtain ⟨fs, hr, hrun, hended, hW, hsame⟩ := X2.leave (v := some (.int (nar .boolean w_signed_a0))) (fun h => by rw [Bd.returns] at h; cases h)
  refine ⟨_, _, pre0 _ ?_, hrun, hended, _, _, rfl, ?_, ⟨_, rfl⟩, hW, hsame.mono (by decide) (by decide)⟩
  · show Steps p.tables e below (s₁.setTop (mkF m 0 #[.val (.ref a0)] [])) _
    refine XS.aloadN X0.here hx rfl (hb hby d3_0) rfl rfl ?_
    show Steps p.tables e below (s₁.setTop (mkF m 1 #[.val (.ref a0)] [(.ref a0)])) _
    refine st2 _ ?_
    show Steps p.tables e below (T2.setTop (mkF m 4 #[.val (.ref a0)] [(.int w_signed_a0)])) _
    exact retN X2 hx (t := .boolean) Bd.returns (by simp) (hb hby d3_4) hr
  · show Q3 Z a0 w_signed_a0 h0 n0 _ T2.heap _
    rw [e2]
    exact ⟨rfl, N0, rfl⟩
theorem d4_0 : decode prog_31_method_4_code 0 = .ok (.aload_n 0, 1) := by decide +kernel
theorem d4_1 : decode prog_31_method_4_code 1 = .ok (.getfield 66, 3) := by decide +kernel
theorem d4_4 : decode prog_31_method_4_code 4 = .ok (.ireturn, 1) := by decide +kernel
theorem ef_4 (m : MethodId) (x0 : Addr) : entryFrame m #[(.ref x0)] 1 = mkF m 0 #[.val (.ref x0)] [] := by first | (simp [entryFrame, mkF, argsToLocals, Value.category]; done) | rfl
def Q4 (Z : State) (a0 : Addr) (w_rank_a0 : Int32) (h0 : Heap) (n0 : Nat) (v : Option Value) (h : Heap) (L : List Loc) : Prop := v = some (.int w_rank_a0) ∧ Fr n0 L ∧ h = h0
set_option maxRecDepth 65536 in
set_option maxHeartbeats 40000000 in
theorem rm4 (l : Launch) (Z : State) (A0 : Array Value) (hw : ∀ d ∈ tables_1, d.before A0 Z = true) (ws : List Jvm.Cond) (a0 : Addr) (w_rank_a0 : Int32) (h0 : Heap) (n0 : Nat) (OLD : Old Z n0 h0) (f_1 : Fld Z h0 a0 "com/example/abstractor/abstractor/c/CType" "rank" "I" (.int w_rank_a0)) :
    MetFree l (⟨"com/example/abstractor/abstractor/c/CType", "getRank", "()I"⟩ : MethodName) (head1 (Jvm.Cond.code (⟨"com/example/abstractor/abstractor/c/CType", "getRank", "()I"⟩ : MethodName) prog_31_method_4_code 1 (some .int) :: ws) ({ frames := 0, cells := 0, slots := 0, locals := 0 } : Room)) (fun a U => a = #[(.ref a0)] ∧ Z.Warmed39 U.vm ∧ U.heap = h0) (fun _ _ _ _ _ => True) (fun _ U o U' => ∃ v L, o = .returned v ∧ Q4 Z a0 w_rank_a0 h0 n0 v U'.heap L ∧ FrameEnd U o U' L ({ frames := 0, cells := 0, slots := 0, locals := 0 } : Room).cells ({ frames := 0, cells := 0, slots := 0, locals := 0 } : Room).slots) := by
  refine MetFree.of_bodySF (plainFor_of_name pn_com_example_abstractor_abstractor_c_CType) hisR ?_
  intro p e s m args below meth c s₁ Bd hml0 hP hK
  obtain ⟨rfl, hZ, hh⟩ := hP
  have hx := Bd.exec
  have hby := Bd.bytes
  have hml : c.maxLocals = 1 := hml0
  have hown : s.vm.findClass "com/example/abstractor/abstractor/c/CType" = some m.cls := findClass_of_methodNamed Bd.named
  have hnm := (name_of_methodNamed Bd.named Bd.method).1
  have X0 : Stand p l e ({ frames := 0, cells := 0, slots := 0, locals := 0 } : Room) s m #[(.ref a0)] below meth c s₁ [] 0 0 := Stand.of_body Bd
  have e0 : s₁.heap = h0 := by rw [← hh, Bd.state]; rfl
  have N0 := Fr.nil n0
  have pre0 : ∀ t, Steps p.tables e below (s₁.setTop (mkF m 0 #[.val (.ref a0)] [])) t → Steps p.tables e below (s₁.setTop (entryFrame m #[(.ref a0)] 1)) t := fun t k => castTop (ef_4 m a0) k
  obtain ⟨T2, X2, e2, st2⟩ := getF X0 hx hZ hown (host := "") (Or.inl (hw _ (List.mem_of_getElem? (i := 57) rfl))) Via.refl e0 f_1 (g := (mkF m 1 #[.val (.ref a0)] [(.ref a0)])) rfl rfl (hb hby d4_1)
  obtain ⟨fs, hr, hrun, hended, hW, hsame⟩ := X2.leave (v := some (.int w_rank_a0)) (fun h => by rw [Bd.returns] at h; cases h)
  refine ⟨_, _, pre0 _ ?_, hrun, hended, _, _, rfl, ?_, ⟨_, rfl⟩, hW, hsame.mono (by decide) (by decide)⟩
  · show Steps p.tables e below (s₁.setTop (mkF m 0 #[.val (.ref a0)] [])) _
    refine XS.aloadN X0.here hx rfl (hb hby d4_0) rfl rfl ?_
    show Steps p.tables e below (s₁.setTop (mkF m 1 #[.val (.ref a0)] [(.ref a0)])) _
    refine st2 _ ?_
    show Steps p.tables e below (T2.setTop (mkF m 4 #[.val (.ref a0)] [(.int w_rank_a0)])) _
    exact retI X2 hx Bd.returns (hb hby d4_4) hr
  · show Q4 Z a0 w_rank_a0 h0 n0 _ T2.heap _
    rw [e2]
    exact ⟨rfl, N0, rfl⟩
theorem pd_0 : parseMethodDescriptor "()I" = some ⟨[], some .int⟩ := by decide +kernel
theorem d1_0 : decode prog_31_method_6_code 0 = .ok (.aload_n 0, 1) := by decide +kernel
theorem d1_1 : decode prog_31_method_6_code 1 = .ok (.invokevirtual 74, 3) := by decide +kernel
theorem d1_4 : decode prog_31_method_6_code 4 = .ok (.tableswitch 86 2 11 #[56, 56, 86, 62, 86, 68, 86, 74, 86, 80], 56) := by decide +kernel
theorem d1_90 : decode prog_31_method_6_code 90 = .ok (.aload_n 0, 1) := by decide +kernel
theorem d1_91 : decode prog_31_method_6_code 91 = .ok (.areturn, 1) := by decide +kernel
theorem ef_1 (m : MethodId) (x0 : Addr) : entryFrame m #[(.ref x0)] 1 = mkF m 0 #[.val (.ref x0)] [] := by first | (simp [entryFrame, mkF, argsToLocals, Value.category]; done) | rfl
def Q1o0 (Z : State) (a0 : Addr) (h0 : Heap) (n0 : Nat) (v : Option Value) (h : Heap) (L : List Loc) : Prop := v = some (.ref a0) ∧ Fr n0 L ∧ h = h0
set_option maxRecDepth 65536 in
set_option maxHeartbeats 40000000 in
theorem rm1o0 (l : Launch) (Z : State) (A0 : Array Value) (hw : ∀ d ∈ tables_1, d.before A0 Z = true) (ws : List Jvm.Cond) (a0 : Addr) (h0 : Heap) (n0 : Nat) (OLD : Old Z n0 h0) (f_1 : Fld Z h0 a0 "java/lang/Enum" "ordinal" "I" (.int (0 : Int32))) (f_2 : Exa Z h0 a0 "com/example/abstractor/abstractor/c/CType") :
    MetFree l (⟨"com/example/abstractor/abstractor/c/CType", "toUnsigned", "()Lcom/example/abstractor/abstractor/c/CType;"⟩ : MethodName) (head1 (Jvm.Cond.code (⟨"com/example/abstractor/abstractor/c/CType", "toUnsigned", "()Lcom/example/abstractor/abstractor/c/CType;"⟩ : MethodName) prog_31_method_6_code 1 (some (.object "com/example/abstractor/abstractor/c/CType")) :: ws) ({ frames := 1, cells := 0, slots := 0, locals := 12 } : Room)) (fun a U => a = #[(.ref a0)] ∧ Z.Warmed39 U.vm ∧ U.heap = h0) (fun _ _ _ _ _ => True) (fun _ U o U' => ∃ v L, o = .returned v ∧ Q1o0 Z a0 h0 n0 v U'.heap L ∧ FrameEnd U o U' L ({ frames := 1, cells := 0, slots := 0, locals := 12 } : Room).cells ({ frames := 1, cells := 0, slots := 0, locals := 12 } : Room).slots) := by
  refine MetFree.of_bodySF (plainFor_of_name pn_com_example_abstractor_abstractor_c_CType) hisR ?_
  intro p e s m args below meth c s₁ Bd hml0 hP hK
  obtain ⟨rfl, hZ, hh⟩ := hP
  have hx := Bd.exec
  have hby := Bd.bytes
  have hml : c.maxLocals = 1 := hml0
  have hown : s.vm.findClass "com/example/abstractor/abstractor/c/CType" = some m.cls := findClass_of_methodNamed Bd.named
  have hnm := (name_of_methodNamed Bd.named Bd.method).1
  have X0 : Stand p l e ({ frames := 1, cells := 0, slots := 0, locals := 12 } : Room) s m #[(.ref a0)] below meth c s₁ [] 0 0 := Stand.of_body Bd
  have e0 : s₁.heap = h0 := by rw [← hh, Bd.state]; rfl
  have N0 := Fr.nil n0
  have pre0 : ∀ t, Steps p.tables e below (s₁.setTop (mkF m 0 #[.val (.ref a0)] [])) t → Steps p.tables e below (s₁.setTop (entryFrame m #[(.ref a0)] 1)) t := fun t k => castTop (ef_1 m a0) k
  obtain ⟨cq3, kq3, q3a, q3b, q3c⟩ := isOf hZ e0 f_2
  obtain ⟨_, _, ⟨T3, L3, k3, n3⟩, -, X3, ⟨Lc3, hQ3, l3, y3, z3⟩, st3⟩ := X0.virtualBackUp hx (owner := "java/lang/Enum") (x := (⟨"com/example/abstractor/abstractor/c/CType", "ordinal", "()I"⟩ : MethodName)) (y := (⟨"java/lang/Enum", "ordinal", "()I"⟩ : MethodName)) hown (mvT hZ (hw _ (List.mem_of_getElem? (i := 36) rfl))) (mvT hZ (hw _ (List.mem_of_getElem? (i := 37) rfl))) (mvT hZ (hw _ (List.mem_of_getElem? (i := 38) rfl))) (by decide) (mvT hZ (hw _ (List.mem_of_getElem? (i := 40) rfl))) (mvT hZ (hw _ (List.mem_of_getElem? (i := 39) rfl))) (backOf (W := 0) (rm2 l Z A0 hw [] a0 (0 : Int32) h0 n0 OLD f_1) hZ (hw _ (List.mem_of_getElem? (i := 42) rfl)) (hw _ (List.mem_of_getElem? (i := 41) rfl)) (by decide) (by decide)) q3a q3c (g := (mkF m 1 #[.val (.ref a0)] [(.ref a0)])) rfl (by rw [hml]; rfl) (Steps.refl _) (argsL := []) (rest := []) (lenOf pd_0 rfl) rfl (by show 2 * 0 + _ ≤ _; exact Nat.le_of_eq rfl) (hb hby d1_1) (fun _ _ => ⟨rfl, e0, (by decide : 0 + 0 ≤ _), (by decide : 0 + 0 ≤ _)⟩)
  dsimp only [Pt.U, Pt.locs, Pt.cells, Pt.slots] at X3 l3 y3 z3 st3 hQ3
  subst l3 y3 z3
  obtain ⟨rfl, N3q, e3⟩ := hQ3
  have N3 := Fr.app N0 N3q
  obtain ⟨fs, hr, hrun, hended, hW, hsame⟩ := X3.leave (v := some (.ref a0)) (fun h => by rw [Bd.returns] at h; cases h)
  refine ⟨_, _, pre0 _ ?_, hrun, hended, _, _, rfl, ?_, ⟨_, rfl⟩, hW, hsame.mono (by decide) (by decide)⟩
  · show Steps p.tables e below (s₁.setTop (mkF m 0 #[.val (.ref a0)] [])) _
    refine XS.aloadN X0.here hx rfl (hb hby d1_0) rfl rfl ?_
    show Steps p.tables e below (s₁.setTop (mkF m 1 #[.val (.ref a0)] [(.ref a0)])) _
    refine st3.trans ?_
    show Steps p.tables e below (T3.setTop (mkF m 4 #[.val (.ref a0)] [(.int (0 : Int32))])) _
    refine XS.tswOut X3.here hx rfl (pc0 := 4) (pc' := 90) rfl (hb hby d1_4) rfl (by decide) (by decide) (by decide) ?_
    show Steps p.tables e below (T3.setTop (mkF m 90 #[.val (.ref a0)] [])) _
    refine XS.aloadN X3.here hx rfl (hb hby d1_90) rfl rfl ?_
    show Steps p.tables e below (T3.setTop (mkF m 91 #[.val (.ref a0)] [(.ref a0)])) _
    jvm_step X3.here [X3.here.top, hx, (hb hby d1_91), X3.method', Bd.returns, Value.isRef, FieldType.isReference]
    first | (intro acts; rw [hr _ acts rfl rfl rfl]) | rw [hr _ _ rfl rfl rfl]
    exact Steps.refl _
  · show Q1o0 Z a0 h0 n0 _ T3.heap _
    rw [e3]
    exact ⟨rfl, N3, rfl⟩
def Q1o1 (Z : State) (a0 : Addr) (h0 : Heap) (n0 : Nat) (v : Option Value) (h : Heap) (L : List Loc) : Prop := v = some (.ref a0) ∧ Fr n0 L ∧ h = h0
set_option maxRecDepth 65536 in
set_option maxHeartbeats 40000000 in
theorem rm1o1 (l : Launch) (Z : State) (A0 : Array Value) (hw : ∀ d ∈ tables_1, d.before A0 Z = true) (ws : List Jvm.Cond) (a0 : Addr) (h0 : Heap) (n0 : Nat) (OLD : Old Z n0 h0) (f_1 : Fld Z h0 a0 "java/lang/Enum" "ordinal" "I" (.int (1 : Int32))) (f_2 : Exa Z h0 a0 "com/example/abstractor/abstractor/c/CType") :
    MetFree l (⟨"com/example/abstractor/abstractor/c/CType", "toUnsigned", "()Lcom/example/abstractor/abstractor/c/CType;"⟩ : MethodName) (head1 (Jvm.Cond.code (⟨"com/example/abstractor/abstractor/c/CType", "toUnsigned", "()Lcom/example/abstractor/abstractor/c/CType;"⟩ : MethodName) prog_31_method_6_code 1 (some (.object "com/example/abstractor/abstractor/c/CType")) :: ws) ({ frames := 1, cells := 0, slots := 0, locals := 12 } : Room)) (fun a U => a = #[(.ref a0)] ∧ Z.Warmed39 U.vm ∧ U.heap = h0) (fun _ _ _ _ _ => True) (fun _ U o U' => ∃ v L, o = .returned v ∧ Q1o1 Z a0 h0 n0 v U'.heap L ∧ FrameEnd U o U' L ({ frames := 1, cells := 0, slots := 0, locals := 12 } : Room).cells ({ frames := 1, cells := 0, slots := 0, locals := 12 } : Room).slots) := by
  refine MetFree.of_bodySF (plainFor_of_name pn_com_example_abstractor_abstractor_c_CType) hisR ?_
  intro p e s m args below meth c s₁ Bd hml0 hP hK
  obtain ⟨rfl, hZ, hh⟩ := hP
  have hx := Bd.exec
  have hby := Bd.bytes
  have hml : c.maxLocals = 1 := hml0
  have hown : s.vm.findClass "com/example/abstractor/abstractor/c/CType" = some m.cls := findClass_of_methodNamed Bd.named
  have hnm := (name_of_methodNamed Bd.named Bd.method).1
  have X0 : Stand p l e ({ frames := 1, cells := 0, slots := 0, locals := 12 } : Room) s m #[(.ref a0)] below meth c s₁ [] 0 0 := Stand.of_body Bd
  have e0 : s₁.heap = h0 := by rw [← hh, Bd.state]; rfl
  have N0 := Fr.nil n0
  have pre0 : ∀ t, Steps p.tables e below (s₁.setTop (mkF m 0 #[.val (.ref a0)] [])) t → Steps p.tables e below (s₁.setTop (entryFrame m #[(.ref a0)] 1)) t := fun t k => castTop (ef_1 m a0) k
  obtain ⟨cq3, kq3, q3a, q3b, q3c⟩ := isOf hZ e0 f_2
  obtain ⟨_, _, ⟨T3, L3, k3, n3⟩, -, X3, ⟨Lc3, hQ3, l3, y3, z3⟩, st3⟩ := X0.virtualBackUp hx (owner := "java/lang/Enum") (x := (⟨"com/example/abstractor/abstractor/c/CType", "ordinal", "()I"⟩ : MethodName)) (y := (⟨"java/lang/Enum", "ordinal", "()I"⟩ : MethodName)) hown (mvT hZ (hw _ (List.mem_of_getElem? (i := 36) rfl))) (mvT hZ (hw _ (List.mem_of_getElem? (i := 37) rfl))) (mvT hZ (hw _ (List.mem_of_getElem? (i := 38) rfl))) (by decide) (mvT hZ (hw _ (List.mem_of_getElem? (i := 40) rfl))) (mvT hZ (hw _ (List.mem_of_getElem? (i := 39) rfl))) (backOf (W := 0) (rm2 l Z A0 hw [] a0 (1 : Int32) h0 n0 OLD f_1) hZ (hw _ (List.mem_of_getElem? (i := 42) rfl)) (hw _ (List.mem_of_getElem? (i := 41) rfl)) (by decide) (by decide)) q3a q3c (g := (mkF m 1 #[.val (.ref a0)] [(.ref a0)])) rfl (by rw [hml]; rfl) (Steps.refl _) (argsL := []) (rest := []) (lenOf pd_0 rfl) rfl (by show 2 * 0 + _ ≤ _; exact Nat.le_of_eq rfl) (hb hby d1_1) (fun _ _ => ⟨rfl, e0, (by decide : 0 + 0 ≤ _), (by decide : 0 + 0 ≤ _)⟩)
  dsimp only [Pt.U, Pt.locs, Pt.cells, Pt.slots] at X3 l3 y3 z3 st3 hQ3
  subst l3 y3 z3
  obtain ⟨rfl, N3q, e3⟩ := hQ3
  have N3 := Fr.app N0 N3q
  obtain ⟨fs, hr, hrun, hended, hW, hsame⟩ := X3.leave (v := some (.ref a0)) (fun h => by rw [Bd.returns] at h; cases h)
  refine ⟨_, _, pre0 _ ?_, hrun, hended, _, _, rfl, ?_, ⟨_, rfl⟩, hW, hsame.mono (by decide) (by decide)⟩
  · show Steps p.tables e below (s₁.setTop (mkF m 0 #[.val (.ref a0)] [])) _
    refine XS.aloadN X0.here hx rfl (hb hby d1_0) rfl rfl ?_
    show Steps p.tables e below (s₁.setTop (mkF m 1 #[.val (.ref a0)] [(.ref a0)])) _
    refine st3.trans ?_
    show Steps p.tables e below (T3.setTop (mkF m 4 #[.val (.ref a0)] [(.int (1 : Int32))])) _
    refine XS.tswOut X3.here hx rfl (pc0 := 4) (pc' := 90) rfl (hb hby d1_4) rfl (by decide) (by decide) (by decide) ?_
    show Steps p.tables e below (T3.setTop (mkF m 90 #[.val (.ref a0)] [])) _
    refine XS.aloadN X3.here hx rfl (hb hby d1_90) rfl rfl ?_
    show Steps p.tables e below (T3.setTop (mkF m 91 #[.val (.ref a0)] [(.ref a0)])) _
    jvm_step X3.here [X3.here.top, hx, (hb hby d1_91), X3.method', Bd.returns, Value.isRef, FieldType.isReference]
    first | (intro acts; rw [hr _ acts rfl rfl rfl]) | rw [hr _ _ rfl rfl rfl]
    exact Steps.refl _
  · show Q1o1 Z a0 h0 n0 _ T3.heap _
    rw [e3]
    exact ⟨rfl, N3, rfl⟩
theorem d1_60 : decode prog_31_method_6_code 60 = .ok (.getstatic 16, 3) := by decide +kernel
theorem d1_63 : decode prog_31_method_6_code 63 = .ok (.goto 28, 3) := by decide +kernel
def Q1o2 (Z : State) (a0 : Addr) (w_UNSIGNED_CHAR : Addr) (h0 : Heap) (n0 : Nat) (v : Option Value) (h : Heap) (L : List Loc) : Prop := v = some (.ref w_UNSIGNED_CHAR) ∧ Fr n0 L ∧ h = h0
set_option maxRecDepth 65536 in
set_option maxHeartbeats 40000000 in
theorem rm1o2 (l : Launch) (Z : State) (A0 : Array Value) (hw : ∀ d ∈ tables_1, d.before A0 Z = true) (ws : List Jvm.Cond) (a0 : Addr) (w_UNSIGNED_CHAR : Addr) (h0 : Heap) (n0 : Nat) (OLD : Old Z n0 h0) (f_1 : Fld Z h0 a0 "java/lang/Enum" "ordinal" "I" (.int (2 : Int32))) (f_2 : Exa Z h0 a0 "com/example/abstractor/abstractor/c/CType") (f_4 : Sta Z Z.heap "com/example/abstractor/abstractor/c/CType" "UNSIGNED_CHAR" "Lcom/example/abstractor/abstractor/c/CType;" (.ref w_UNSIGNED_CHAR)) :
    MetFree l (⟨"com/example/abstractor/abstractor/c/CType", "toUnsigned", "()Lcom/example/abstractor/abstractor/c/CType;"⟩ : MethodName) (head1 (Jvm.Cond.code (⟨"com/example/abstractor/abstractor/c/CType", "toUnsigned", "()Lcom/example/abstractor/abstractor/c/CType;"⟩ : MethodName) prog_31_method_6_code 1 (some (.object "com/example/abstractor/abstractor/c/CType")) :: ws) ({ frames := 1, cells := 0, slots := 0, locals := 12 } : Room)) (fun a U => a = #[(.ref a0)] ∧ Z.Warmed39 U.vm ∧ U.heap = h0) (fun _ _ _ _ _ => True) (fun _ U o U' => ∃ v L, o = .returned v ∧ Q1o2 Z a0 w_UNSIGNED_CHAR h0 n0 v U'.heap L ∧ FrameEnd U o U' L ({ frames := 1, cells := 0, slots := 0, locals := 12 } : Room).cells ({ frames := 1, cells := 0, slots := 0, locals := 12 } : Room).slots) := by
  refine MetFree.of_bodySF (plainFor_of_name pn_com_example_abstractor_abstractor_c_CType) hisR ?_
  intro p e s m args below meth c s₁ Bd hml0 hP hK
  obtain ⟨rfl, hZ, hh⟩ := hP
  have hx := Bd.exec
  have hby := Bd.bytes
  have hml : c.maxLocals = 1 := hml0
  have hown : s.vm.findClass "com/example/abstractor/abstractor/c/CType" = some m.cls := findClass_of_methodNamed Bd.named
  have hnm := (name_of_methodNamed Bd.named Bd.method).1
  have X0 : Stand p l e ({ frames := 1, cells := 0, slots := 0, locals := 12 } : Room) s m #[(.ref a0)] below meth c s₁ [] 0 0 := Stand.of_body Bd
  have e0 : s₁.heap = h0 := by rw [← hh, Bd.state]; rfl
  have N0 := Fr.nil n0
  have pre0 : ∀ t, Steps p.tables e below (s₁.setTop (mkF m 0 #[.val (.ref a0)] [])) t → Steps p.tables e below (s₁.setTop (entryFrame m #[(.ref a0)] 1)) t := fun t k => castTop (ef_1 m a0) k
  obtain ⟨cq3, kq3, q3a, q3b, q3c⟩ := isOf hZ e0 f_2
  obtain ⟨_, _, ⟨T3, L3, k3, n3⟩, -, X3, ⟨Lc3, hQ3, l3, y3, z3⟩, st3⟩ := X0.virtualBackUp hx (owner := "java/lang/Enum") (x := (⟨"com/example/abstractor/abstractor/c/CType", "ordinal", "()I"⟩ : MethodName)) (y := (⟨"java/lang/Enum", "ordinal", "()I"⟩ : MethodName)) hown (mvT hZ (hw _ (List.mem_of_getElem? (i := 36) rfl))) (mvT hZ (hw _ (List.mem_of_getElem? (i := 37) rfl))) (mvT hZ (hw _ (List.mem_of_getElem? (i := 38) rfl))) (by decide) (mvT hZ (hw _ (List.mem_of_getElem? (i := 40) rfl))) (mvT hZ (hw _ (List.mem_of_getElem? (i := 39) rfl))) (backOf (W := 0) (rm2 l Z A0 hw [] a0 (2 : Int32) h0 n0 OLD f_1) hZ (hw _ (List.mem_of_getElem? (i := 42) rfl)) (hw _ (List.mem_of_getElem? (i := 41) rfl)) (by decide) (by decide)) q3a q3c (g := (mkF m 1 #[.val (.ref a0)] [(.ref a0)])) rfl (by rw [hml]; rfl) (Steps.refl _) (argsL := []) (rest := []) (lenOf pd_0 rfl) rfl (by show 2 * 0 + _ ≤ _; exact Nat.le_of_eq rfl) (hb hby d1_1) (fun _ _ => ⟨rfl, e0, (by decide : 0 + 0 ≤ _), (by decide : 0 + 0 ≤ _)⟩)
  dsimp only [Pt.U, Pt.locs, Pt.cells, Pt.slots] at X3 l3 y3 z3 st3 hQ3
  subst l3 y3 z3
  obtain ⟨rfl, N3q, e3⟩ := hQ3
  have N3 := Fr.app N0 N3q
  obtain ⟨T5, X5, e5, st5⟩ := getS2 X3 hx hZ hown (host := "") (Or.inl (hw _ (List.mem_of_getElem? (i := 59) rfl))) Via.refl e3 (f_4.ext OLD.2) (g := (mkF m 60 #[.val (.ref a0)] [])) rfl (hb hby d1_60)
  obtain ⟨fs, hr, hrun, hended, hW, hsame⟩ := X5.leave (v := some (.ref w_UNSIGNED_CHAR)) (fun h => by rw [Bd.returns] at h; cases h)
  refine ⟨_, _, pre0 _ ?_, hrun, hended, _, _, rfl, ?_, ⟨_, rfl⟩, hW, hsame.mono (by decide) (by decide)⟩
  · show Steps p.tables e below (s₁.setTop (mkF m 0 #[.val (.ref a0)] [])) _
    refine XS.aloadN X0.here hx rfl (hb hby d1_0) rfl rfl ?_
    show Steps p.tables e below (s₁.setTop (mkF m 1 #[.val (.ref a0)] [(.ref a0)])) _
    refine st3.trans ?_
    show Steps p.tables e below (T3.setTop (mkF m 4 #[.val (.ref a0)] [(.int (2 : Int32))])) _
    refine XS.tswIn X3.here hx rfl (pc0 := 4) (pc' := 60) (o := 56) rfl (hb hby d1_4) rfl (by decide) (by decide) (by decide) (by decide) ?_
    show Steps p.tables e below (T3.setTop (mkF m 60 #[.val (.ref a0)] [])) _
    refine st5 _ ?_
    show Steps p.tables e below (T5.setTop (mkF m 63 #[.val (.ref a0)] [(.ref w_UNSIGNED_CHAR)])) _
    refine XS.goto X5.here hx rfl (pc0 := 63) (pc' := 91) rfl (hb hby d1_63) (by decide) (by decide) ?_
    show Steps p.tables e below (T5.setTop (mkF m 91 #[.val (.ref a0)] [(.ref w_UNSIGNED_CHAR)])) _
    jvm_step X5.here [X5.here.top, hx, (hb hby d1_91), X5.method', Bd.returns, Value.isRef, FieldType.isReference]
    first | (intro acts; rw [hr _ acts rfl rfl rfl]) | rw [hr _ _ rfl rfl rfl]
    exact Steps.refl _
  · show Q1o2 Z a0 w_UNSIGNED_CHAR h0 n0 _ T5.heap _
    rw [e5]
    exact ⟨rfl, N3, rfl⟩
def Q1o3 (Z : State) (a0 : Addr) (w_UNSIGNED_CHAR : Addr) (h0 : Heap) (n0 : Nat) (v : Option Value) (h : Heap) (L : List Loc) : Prop := v = some (.ref w_UNSIGNED_CHAR) ∧ Fr n0 L ∧ h = h0
set_option maxRecDepth 65536 in
set_option maxHeartbeats 40000000 in
theorem rm1o3 (l : Launch) (Z : State) (A0 : Array Value) (hw : ∀ d ∈ tables_1, d.before A0 Z = true) (ws : List Jvm.Cond) (a0 : Addr) (w_UNSIGNED_CHAR : Addr) (h0 : Heap) (n0 : Nat) (OLD : Old Z n0 h0) (f_1 : Fld Z h0 a0 "java/lang/Enum" "ordinal" "I" (.int (3 : Int32))) (f_2 : Exa Z h0 a0 "com/example/abstractor/abstractor/c/CType") (f_4 : Sta Z Z.heap "com/example/abstractor/abstractor/c/CType" "UNSIGNED_CHAR" "Lcom/example/abstractor/abstractor/c/CType;" (.ref w_UNSIGNED_CHAR)) :
    MetFree l (⟨"com/example/abstractor/abstractor/c/CType", "toUnsigned", "()Lcom/example/abstractor/abstractor/c/CType;"⟩ : MethodName) (head1 (Jvm.Cond.code (⟨"com/example/abstractor/abstractor/c/CType", "toUnsigned", "()Lcom/example/abstractor/abstractor/c/CType;"⟩ : MethodName) prog_31_method_6_code 1 (some (.object "com/example/abstractor/abstractor/c/CType")) :: ws) ({ frames := 1, cells := 0, slots := 0, locals := 12 } : Room)) (fun a U => a = #[(.ref a0)] ∧ Z.Warmed39 U.vm ∧ U.heap = h0) (fun _ _ _ _ _ => True) (fun _ U o U' => ∃ v L, o = .returned v ∧ Q1o3 Z a0 w_UNSIGNED_CHAR h0 n0 v U'.heap L ∧ FrameEnd U o U' L ({ frames := 1, cells := 0, slots := 0, locals := 12 } : Room).cells ({ frames := 1, cells := 0, slots := 0, locals := 12 } : Room).slots) := by
  refine MetFree.of_bodySF (plainFor_of_name pn_com_example_abstractor_abstractor_c_CType) hisR ?_
  intro p e s m args below meth c s₁ Bd hml0 hP hK
  obtain ⟨rfl, hZ, hh⟩ := hP
  have hx := Bd.exec
  have hby := Bd.bytes
  have hml : c.maxLocals = 1 := hml0
  have hown : s.vm.findClass "com/example/abstractor/abstractor/c/CType" = some m.cls := findClass_of_methodNamed Bd.named
  have hnm := (name_of_methodNamed Bd.named Bd.method).1
  have X0 : Stand p l e ({ frames := 1, cells := 0, slots := 0, locals := 12 } : Room) s m #[(.ref a0)] below meth c s₁ [] 0 0 := Stand.of_body Bd
  have e0 : s₁.heap = h0 := by rw [← hh, Bd.state]; rfl
  have N0 := Fr.nil n0
  have pre0 : ∀ t, Steps p.tables e below (s₁.setTop (mkF m 0 #[.val (.ref a0)] [])) t → Steps p.tables e below (s₁.setTop (entryFrame m #[(.ref a0)] 1)) t := fun t k => castTop (ef_1 m a0) k
  obtain ⟨cq3, kq3, q3a, q3b, q3c⟩ := isOf hZ e0 f_2
  obtain ⟨_, _, ⟨T3, L3, k3, n3⟩, -, X3, ⟨Lc3, hQ3, l3, y3, z3⟩, st3⟩ := X0.virtualBackUp hx (owner := "java/lang/Enum") (x := (⟨"com/example/abstractor/abstractor/c/CType", "ordinal", "()I"⟩ : MethodName)) (y := (⟨"java/lang/Enum", "ordinal", "()I"⟩ : MethodName)) hown (mvT hZ (hw _ (List.mem_of_getElem? (i := 36) rfl))) (mvT hZ (hw _ (List.mem_of_getElem? (i := 37) rfl))) (mvT hZ (hw _ (List.mem_of_getElem? (i := 38) rfl))) (by decide) (mvT hZ (hw _ (List.mem_of_getElem? (i := 40) rfl))) (mvT hZ (hw _ (List.mem_of_getElem? (i := 39) rfl))) (backOf (W := 0) (rm2 l Z A0 hw [] a0 (3 : Int32) h0 n0 OLD f_1) hZ (hw _ (List.mem_of_getElem? (i := 42) rfl)) (hw _ (List.mem_of_getElem? (i := 41) rfl)) (by decide) (by decide)) q3a q3c (g := (mkF m 1 #[.val (.ref a0)] [(.ref a0)])) rfl (by rw [hml]; rfl) (Steps.refl _) (argsL := []) (rest := []) (lenOf pd_0 rfl) rfl (by show 2 * 0 + _ ≤ _; exact Nat.le_of_eq rfl) (hb hby d1_1) (fun _ _ => ⟨rfl, e0, (by decide : 0 + 0 ≤ _), (by decide : 0 + 0 ≤ _)⟩)
  dsimp only [Pt.U, Pt.locs, Pt.cells, Pt.slots] at X3 l3 y3 z3 st3 hQ3
  subst l3 y3 z3
  obtain ⟨rfl, N3q, e3⟩ := hQ3
  have N3 := Fr.app N0 N3q
  obtain ⟨T5, X5, e5, st5⟩ := getS2 X3 hx hZ hown (host := "") (Or.inl (hw _ (List.mem_of_getElem? (i := 59) rfl))) Via.refl e3 (f_4.ext OLD.2) (g := (mkF m 60 #[.val (.ref a0)] [])) rfl (hb hby d1_60)
  obtain ⟨fs, hr, hrun, hended, hW, hsame⟩ := X5.leave (v := some (.ref w_UNSIGNED_CHAR)) (fun h => by rw [Bd.returns] at h; cases h)
  refine ⟨_, _, pre0 _ ?_, hrun, hended, _, _, rfl, ?_, ⟨_, rfl⟩, hW, hsame.mono (by decide) (by decide)⟩
  · show Steps p.tables e below (s₁.setTop (mkF m 0 #[.val (.ref a0)] [])) _
    refine XS.aloadN X0.here hx rfl (hb hby d1_0) rfl rfl ?_
    show Steps p.tables e below (s₁.setTop (mkF m 1 #[.val (.ref a0)] [(.ref a0)])) _
    refine st3.trans ?_
    show Steps p.tables e below (T3.setTop (mkF m 4 #[.val (.ref a0)] [(.int (3 : Int32))])) _
    refine XS.tswIn X3.here hx rfl (pc0 := 4) (pc' := 60) (o := 56) rfl (hb hby d1_4) rfl (by decide) (by decide) (by decide) (by decide) ?_
    show Steps p.tables e below (T3.setTop (mkF m 60 #[.val (.ref a0)] [])) _
    refine st5 _ ?_
    show Steps p.tables e below (T5.setTop (mkF m 63 #[.val (.ref a0)] [(.ref w_UNSIGNED_CHAR)])) _
    refine XS.goto X5.here hx rfl (pc0 := 63) (pc' := 91) rfl (hb hby d1_63) (by decide) (by decide) ?_
    show Steps p.tables e below (T5.setTop (mkF m 91 #[.val (.ref a0)] [(.ref w_UNSIGNED_CHAR)])) _
    jvm_step X5.here [X5.here.top, hx, (hb hby d1_91), X5.method', Bd.returns, Value.isRef, FieldType.isReference]
    first | (intro acts; rw [hr _ acts rfl rfl rfl]) | rw [hr _ _ rfl rfl rfl]
    exact Steps.refl _
  · show Q1o3 Z a0 w_UNSIGNED_CHAR h0 n0 _ T5.heap _
    rw [e5]
    exact ⟨rfl, N3, rfl⟩
def Q1o4 (Z : State) (a0 : Addr) (h0 : Heap) (n0 : Nat) (v : Option Value) (h : Heap) (L : List Loc) : Prop := v = some (.ref a0) ∧ Fr n0 L ∧ h = h0
set_option maxRecDepth 65536 in
set_option maxHeartbeats 40000000 in
theorem rm1o4 (l : Launch) (Z : State) (A0 : Array Value) (hw : ∀ d ∈ tables_1, d.before A0 Z = true) (ws : List Jvm.Cond) (a0 : Addr) (h0 : Heap) (n0 : Nat) (OLD : Old Z n0 h0) (f_1 : Fld Z h0 a0 "java/lang/Enum" "ordinal" "I" (.int (4 : Int32))) (f_2 : Exa Z h0 a0 "com/example/abstractor/abstractor/c/CType") :
    MetFree l (⟨"com/example/abstractor/abstractor/c/CType", "toUnsigned", "()Lcom/example/abstractor/abstractor/c/CType;"⟩ : MethodName) (head1 (Jvm.Cond.code (⟨"com/example/abstractor/abstractor/c/CType", "toUnsigned", "()Lcom/example/abstractor/abstractor/c/CType;"⟩ : MethodName) prog_31_method_6_code 1 (some (.object "com/example/abstractor/abstractor/c/CType")) :: ws) ({ frames := 1, cells := 0, slots := 0, locals := 12 } : Room)) (fun a U => a = #[(.ref a0)] ∧ Z.Warmed39 U.vm ∧ U.heap = h0) (fun _ _ _ _ _ => True) (fun _ U o U' => ∃ v L, o = .returned v ∧ Q1o4 Z a0 h0 n0 v U'.heap L ∧ FrameEnd U o U' L ({ frames := 1, cells := 0, slots := 0, locals := 12 } : Room).cells ({ frames := 1, cells := 0, slots := 0, locals := 12 } : Room).slots) := by
  refine MetFree.of_bodySF (plainFor_of_name pn_com_example_abstractor_abstractor_c_CType) hisR ?_
  intro p e s m args below meth c s₁ Bd hml0 hP hK
  obtain ⟨rfl, hZ, hh⟩ := hP
  have hx := Bd.exec
  have hby := Bd.bytes
  have hml : c.maxLocals = 1 := hml0
  have hown : s.vm.findClass "com/example/abstractor/abstractor/c/CType" = some m.cls := findClass_of_methodNamed Bd.named
  have hnm := (name_of_methodNamed Bd.named Bd.method).1
  have X0 : Stand p l e ({ frames := 1, cells := 0, slots := 0, locals := 12 } : Room) s m #[(.ref a0)] below meth c s₁ [] 0 0 := Stand.of_body Bd
  have e0 : s₁.heap = h0 := by rw [← hh, Bd.state]; rfl
  have N0 := Fr.nil n0
  have pre0 : ∀ t, Steps p.tables e below (s₁.setTop (mkF m 0 #[.val (.ref a0)] [])) t → Steps p.tables e below (s₁.setTop (entryFrame m #[(.ref a0)] 1)) t := fun t k => castTop (ef_1 m a0) k
  obtain ⟨cq3, kq3, q3a, q3b, q3c⟩ := isOf hZ e0 f_2
  obtain ⟨_, _, ⟨T3, L3, k3, n3⟩, -, X3, ⟨Lc3, hQ3, l3, y3, z3⟩, st3⟩ := X0.virtualBackUp hx (owner := "java/lang/Enum") (x := (⟨"com/example/abstractor/abstractor/c/CType", "ordinal", "()I"⟩ : MethodName)) (y := (⟨"java/lang/Enum", "ordinal", "()I"⟩ : MethodName)) hown (mvT hZ (hw _ (List.mem_of_getElem? (i := 36) rfl))) (mvT hZ (hw _ (List.mem_of_getElem? (i := 37) rfl))) (mvT hZ (hw _ (List.mem_of_getElem? (i := 38) rfl))) (by decide) (mvT hZ (hw _ (List.mem_of_getElem? (i := 40) rfl))) (mvT hZ (hw _ (List.mem_of_getElem? (i := 39) rfl))) (backOf (W := 0) (rm2 l Z A0 hw [] a0 (4 : Int32) h0 n0 OLD f_1) hZ (hw _ (List.mem_of_getElem? (i := 42) rfl)) (hw _ (List.mem_of_getElem? (i := 41) rfl)) (by decide) (by decide)) q3a q3c (g := (mkF m 1 #[.val (.ref a0)] [(.ref a0)])) rfl (by rw [hml]; rfl) (Steps.refl _) (argsL := []) (rest := []) (lenOf pd_0 rfl) rfl (by show 2 * 0 + _ ≤ _; exact Nat.le_of_eq rfl) (hb hby d1_1) (fun _ _ => ⟨rfl, e0, (by decide : 0 + 0 ≤ _), (by decide : 0 + 0 ≤ _)⟩)
  dsimp only [Pt.U, Pt.locs, Pt.cells, Pt.slots] at X3 l3 y3 z3 st3 hQ3
  subst l3 y3 z3
  obtain ⟨rfl, N3q, e3⟩ := hQ3
  have N3 := Fr.app N0 N3q
  obtain ⟨fs, hr, hrun, hended, hW, hsame⟩ := X3.leave (v := some (.ref a0)) (fun h => by rw [Bd.returns] at h; cases h)
  refine ⟨_, _, pre0 _ ?_, hrun, hended, _, _, rfl, ?_, ⟨_, rfl⟩, hW, hsame.mono (by decide) (by decide)⟩
  · show Steps p.tables e below (s₁.setTop (mkF m 0 #[.val (.ref a0)] [])) _
    refine XS.aloadN X0.here hx rfl (hb hby d1_0) rfl rfl ?_
    show Steps p.tables e below (s₁.setTop (mkF m 1 #[.val (.ref a0)] [(.ref a0)])) _
    refine st3.trans ?_
    show Steps p.tables e below (T3.setTop (mkF m 4 #[.val (.ref a0)] [(.int (4 : Int32))])) _
    refine XS.tswIn X3.here hx rfl (pc0 := 4) (pc' := 90) (o := 86) rfl (hb hby d1_4) rfl (by decide) (by decide) (by decide) (by decide) ?_
    show Steps p.tables e below (T3.setTop (mkF m 90 #[.val (.ref a0)] [])) _
    refine XS.aloadN X3.here hx rfl (hb hby d1_90) rfl rfl ?_
    show Steps p.tables e below (T3.setTop (mkF m 91 #[.val (.ref a0)] [(.ref a0)])) _
    jvm_step X3.here [X3.here.top, hx, (hb hby d1_91), X3.method', Bd.returns, Value.isRef, FieldType.isReference]
    first | (intro acts; rw [hr _ acts rfl rfl rfl]) | rw [hr _ _ rfl rfl rfl]
    exact Steps.refl _
  · show Q1o4 Z a0 h0 n0 _ T3.heap _
    rw [e3]
    exact ⟨rfl, N3, rfl⟩
theorem d1_66 : decode prog_31_method_6_code 66 = .ok (.getstatic 22, 3) := by decide +kernel
theorem d1_69 : decode prog_31_method_6_code 69 = .ok (.goto 22, 3) := by decide +kernel
def Q1o5 (Z : State) (a0 : Addr) (w_UNSIGNED_SHORT : Addr) (h0 : Heap) (n0 : Nat) (v : Option Value) (h : Heap) (L : List Loc) : Prop := v = some (.ref w_UNSIGNED_SHORT) ∧ Fr n0 L ∧ h = h0
set_option maxRecDepth 65536 in
set_option maxHeartbeats 40000000 in
theorem rm1o5 (l : Launch) (Z : State) (A0 : Array Value) (hw : ∀ d ∈ tables_1, d.before A0 Z = true) (ws : List Jvm.Cond) (a0 : Addr) (w_UNSIGNED_SHORT : Addr) (h0 : Heap) (n0 : Nat) (OLD : Old Z n0 h0) (f_1 : Fld Z h0 a0 "java/lang/Enum" "ordinal" "I" (.int (5 : Int32))) (f_2 : Exa Z h0 a0 "com/example/abstractor/abstractor/c/CType") (f_4 : Sta Z Z.heap "com/example/abstractor/abstractor/c/CType" "UNSIGNED_SHORT" "Lcom/example/abstractor/abstractor/c/CType;" (.ref w_UNSIGNED_SHORT)) :
    MetFree l (⟨"com/example/abstractor/abstractor/c/CType", "toUnsigned", "()Lcom/example/abstractor/abstractor/c/CType;"⟩ : MethodName) (head1 (Jvm.Cond.code (⟨"com/example/abstractor/abstractor/c/CType", "toUnsigned", "()Lcom/example/abstractor/abstractor/c/CType;"⟩ : MethodName) prog_31_method_6_code 1 (some (.object "com/example/abstractor/abstractor/c/CType")) :: ws) ({ frames := 1, cells := 0, slots := 0, locals := 12 } : Room)) (fun a U => a = #[(.ref a0)] ∧ Z.Warmed39 U.vm ∧ U.heap = h0) (fun _ _ _ _ _ => True) (fun _ U o U' => ∃ v L, o = .returned v ∧ Q1o5 Z a0 w_UNSIGNED_SHORT h0 n0 v U'.heap L ∧ FrameEnd U o U' L ({ frames := 1, cells := 0, slots := 0, locals := 12 } : Room).cells ({ frames := 1, cells := 0, slots := 0, locals := 12 } : Room).slots) := by
  refine MetFree.of_bodySF (plainFor_of_name pn_com_example_abstractor_abstractor_c_CType) hisR ?_
  intro p e s m args below meth c s₁ Bd hml0 hP hK
  obtain ⟨rfl, hZ, hh⟩ := hP
  have hx := Bd.exec
  have hby := Bd.bytes
  have hml : c.maxLocals = 1 := hml0
  have hown : s.vm.findClass "com/example/abstractor/abstractor/c/CType" = some m.cls := findClass_of_methodNamed Bd.named
  have hnm := (name_of_methodNamed Bd.named Bd.method).1
  have X0 : Stand p l e ({ frames := 1, cells := 0, slots := 0, locals := 12 } : Room) s m #[(.ref a0)] below meth c s₁ [] 0 0 := Stand.of_body Bd
  have e0 : s₁.heap = h0 := by rw [← hh, Bd.state]; rfl
  have N0 := Fr.nil n0
  have pre0 : ∀ t, Steps p.tables e below (s₁.setTop (mkF m 0 #[.val (.ref a0)] [])) t → Steps p.tables e below (s₁.setTop (entryFrame m #[(.ref a0)] 1)) t := fun t k => castTop (ef_1 m a0) k
  obtain ⟨cq3, kq3, q3a, q3b, q3c⟩ := isOf hZ e0 f_2
  obtain ⟨_, _, ⟨T3, L3, k3, n3⟩, -, X3, ⟨Lc3, hQ3, l3, y3, z3⟩, st3⟩ := X0.virtualBackUp hx (owner := "java/lang/Enum") (x := (⟨"com/example/abstractor/abstractor/c/CType", "ordinal", "()I"⟩ : MethodName)) (y := (⟨"java/lang/Enum", "ordinal", "()I"⟩ : MethodName)) hown (mvT hZ (hw _ (List.mem_of_getElem? (i := 36) rfl))) (mvT hZ (hw _ (List.mem_of_getElem? (i := 37) rfl))) (mvT hZ (hw _ (List.mem_of_getElem? (i := 38) rfl))) (by decide) (mvT hZ (hw _ (List.mem_of_getElem? (i := 40) rfl))) (mvT hZ (hw _ (List.mem_of_getElem? (i := 39) rfl))) (backOf (W := 0) (rm2 l Z A0 hw [] a0 (5 : Int32) h0 n0 OLD f_1) hZ (hw _ (List.mem_of_getElem? (i := 42) rfl)) (hw _ (List.mem_of_getElem? (i := 41) rfl)) (by decide) (by decide)) q3a q3c (g := (mkF m 1 #[.val (.ref a0)] [(.ref a0)])) rfl (by rw [hml]; rfl) (Steps.refl _) (argsL := []) (rest := []) (lenOf pd_0 rfl) rfl (by show 2 * 0 + _ ≤ _; exact Nat.le_of_eq rfl) (hb hby d1_1) (fun _ _ => ⟨rfl, e0, (by decide : 0 + 0 ≤ _), (by decide : 0 + 0 ≤ _)⟩)
  dsimp only [Pt.U, Pt.locs, Pt.cells, Pt.slots] at X3 l3 y3 z3 st3 hQ3
  subst l3 y3 z3
  obtain ⟨rfl, N3q, e3⟩ := hQ3
  have N3 := Fr.app N0 N3q
  obtain ⟨T5, X5, e5, st5⟩ := getS2 X3 hx hZ hown (host := "") (Or.inl (hw _ (List.mem_of_getElem? (i := 60) rfl))) Via.refl e3 (f_4.ext OLD.2) (g := (mkF m 66 #[.val (.ref a0)] [])) rfl (hb hby d1_66)
  obtain ⟨fs, hr, hrun, hended, hW, hsame⟩ := X5.leave (v := some (.ref w_UNSIGNED_SHORT)) (fun h => by rw [Bd.returns] at h; cases h)
  refine ⟨_, _, pre0 _ ?_, hrun, hended, _, _, rfl, ?_, ⟨_, rfl⟩, hW, hsame.mono (by decide) (by decide)⟩
  · show Steps p.tables e below (s₁.setTop (mkF m 0 #[.val (.ref a0)] [])) _
    refine XS.aloadN X0.here hx rfl (hb hby d1_0) rfl rfl ?_
    show Steps p.tables e below (s₁.setTop (mkF m 1 #[.val (.ref a0)] [(.ref a0)])) _
    refine st3.trans ?_
    show Steps p.tables e below (T3.setTop (mkF m 4 #[.val (.ref a0)] [(.int (5 : Int32))])) _
    refine XS.tswIn X3.here hx rfl (pc0 := 4) (pc' := 66) (o := 62) rfl (hb hby d1_4) rfl (by decide) (by decide) (by decide) (by decide) ?_
    show Steps p.tables e below (T3.setTop (mkF m 66 #[.val (.ref a0)] [])) _
    refine st5 _ ?_
    show Steps p.tables e below (T5.setTop (mkF m 69 #[.val (.ref a0)] [(.ref w_UNSIGNED_SHORT)])) _
    refine XS.goto X5.here hx rfl (pc0 := 69) (pc' := 91) rfl (hb hby d1_69) (by decide) (by decide) ?_
    show Steps p.tables e below (T5.setTop (mkF m 91 #[.val (.ref a0)] [(.ref w_UNSIGNED_SHORT)])) _
    jvm_step X5.here [X5.here.top, hx, (hb hby d1_91), X5.method', Bd.returns, Value.isRef, FieldType.isReference]
    first | (intro acts; rw [hr _ acts rfl rfl rfl]) | rw [hr _ _ rfl rfl rfl]
    exact Steps.refl _
  · show Q1o5 Z a0 w_UNSIGNED_SHORT h0 n0 _ T5.heap _
    rw [e5]
    exact ⟨rfl, N3, rfl⟩
def Q1o6 (Z : State) (a0 : Addr) (h0 : Heap) (n0 : Nat) (v : Option Value) (h : Heap) (L : List Loc) : Prop := v = some (.ref a0) ∧ Fr n0 L ∧ h = h0
set_option maxRecDepth 65536 in
set_option maxHeartbeats 40000000 in
theorem rm1o6 (l : Launch) (Z : State) (A0 : Array Value) (hw : ∀ d ∈ tables_1, d.before A0 Z = true) (ws : List Jvm.Cond) (a0 : Addr) (h0 : Heap) (n0 : Nat) (OLD : Old Z n0 h0) (f_1 : Fld Z h0 a0 "java/lang/Enum" "ordinal" "I" (.int (6 : Int32))) (f_2 : Exa Z h0 a0 "com/example/abstractor/abstractor/c/CType") :
    MetFree l (⟨"com/example/abstractor/abstractor/c/CType", "toUnsigned", "()Lcom/example/abstractor/abstractor/c/CType;"⟩ : MethodName) (head1 (Jvm.Cond.code (⟨"com/example/abstractor/abstractor/c/CType", "toUnsigned", "()Lcom/example/abstractor/abstractor/c/CType;"⟩ : MethodName) prog_31_method_6_code 1 (some (.object "com/example/abstractor/abstractor/c/CType")) :: ws) ({ frames := 1, cells := 0, slots := 0, locals := 12 } : Room)) (fun a U => a = #[(.ref a0)] ∧ Z.Warmed39 U.vm ∧ U.heap = h0) (fun _ _ _ _ _ => True) (fun _ U o U' => ∃ v L, o = .returned v ∧ Q1o6 Z a0 h0 n0 v U'.heap L ∧ FrameEnd U o U' L ({ frames := 1, cells := 0, slots := 0, locals := 12 } : Room).cells ({ frames := 1, cells := 0, slots := 0, locals := 12 } : Room).slots) := by
  refine MetFree.of_bodySF (plainFor_of_name pn_com_example_abstractor_abstractor_c_CType) hisR ?_
  intro p e s m args below meth c s₁ Bd hml0 hP hK
  obtain ⟨rfl, hZ, hh⟩ := hP
  have hx := Bd.exec
  have hby := Bd.bytes
  have hml : c.maxLocals = 1 := hml0
  have hown : s.vm.findClass "com/example/abstractor/abstractor/c/CType" = some m.cls := findClass_of_methodNamed Bd.named
  have hnm := (name_of_methodNamed Bd.named Bd.method).1
  have X0 : Stand p l e ({ frames := 1, cells := 0, slots := 0, locals := 12 } : Room) s m #[(.ref a0)] below meth c s₁ [] 0 0 := Stand.of_body Bd
  have e0 : s₁.heap = h0 := by rw [← hh, Bd.state]; rfl
  have N0 := Fr.nil n0
  have pre0 : ∀ t, Steps p.tables e below (s₁.setTop (mkF m 0 #[.val (.ref a0)] [])) t → Steps p.tables e below (s₁.setTop (entryFrame m #[(.ref a0)] 1)) t := fun t k => castTop (ef_1 m a0) k
  obtain ⟨cq3, kq3, q3a, q3b, q3c⟩ := isOf hZ e0 f_2
  obtain ⟨_, _, ⟨T3, L3, k3, n3⟩, -, X3, ⟨Lc3, hQ3, l3, y3, z3⟩, st3⟩ := X0.virtualBackUp hx (owner := "java/lang/Enum") (x := (⟨"com/example/abstractor/abstractor/c/CType", "ordinal", "()I"⟩ : MethodName)) (y := (⟨"java/lang/Enum", "ordinal", "()I"⟩ : MethodName)) hown (mvT hZ (hw _ (List.mem_of_getElem? (i := 36) rfl))) (mvT hZ (hw _ (List.mem_of_getElem? (i := 37) rfl))) (mvT hZ (hw _ (List.mem_of_getElem? (i := 38) rfl))) (by decide) (mvT hZ (hw _ (List.mem_of_getElem? (i := 40) rfl))) (mvT hZ (hw _ (List.mem_of_getElem? (i := 39) rfl))) (backOf (W := 0) (rm2 l Z A0 hw [] a0 (6 : Int32) h0 n0 OLD f_1) hZ (hw _ (List.mem_of_getElem? (i := 42) rfl)) (hw _ (List.mem_of_getElem? (i := 41) rfl)) (by decide) (by decide)) q3a q3c (g := (mkF m 1 #[.val (.ref a0)] [(.ref a0)])) rfl (by rw [hml]; rfl) (Steps.refl _) (argsL := []) (rest := []) (lenOf pd_0 rfl) rfl (by show 2 * 0 + _ ≤ _; exact Nat.le_of_eq rfl) (hb hby d1_1) (fun _ _ => ⟨rfl, e0, (by decide : 0 + 0 ≤ _), (by decide : 0 + 0 ≤ _)⟩)
  dsimp only [Pt.U, Pt.locs, Pt.cells, Pt.slots] at X3 l3 y3 z3 st3 hQ3
  subst l3 y3 z3
  obtain ⟨rfl, N3q, e3⟩ := hQ3
  have N3 := Fr.app N0 N3q
  obtain ⟨fs, hr, hrun, hended, hW, hsame⟩ := X3.leave (v := some (.ref a0)) (fun h => by rw [Bd.returns] at h; cases h)
  refine ⟨_, _, pre0 _ ?_, hrun, hended, _, _, rfl, ?_, ⟨_, rfl⟩, hW, hsame.mono (by decide) (by decide)⟩
  · show Steps p.tables e below (s₁.setTop (mkF m 0 #[.val (.ref a0)] [])) _
    refine XS.aloadN X0.here hx rfl (hb hby d1_0) rfl rfl ?_
    show Steps p.tables e below (s₁.setTop (mkF m 1 #[.val (.ref a0)] [(.ref a0)])) _
    refine st3.trans ?_
    show Steps p.tables e below (T3.setTop (mkF m 4 #[.val (.ref a0)] [(.int (6 : Int32))])) _
    refine XS.tswIn X3.here hx rfl (pc0 := 4) (pc' := 90) (o := 86) rfl (hb hby d1_4) rfl (by decide) (by decide) (by decide) (by decide) ?_
    show Steps p.tables e below (T3.setTop (mkF m 90 #[.val (.ref a0)] [])) _
    refine XS.aloadN X3.here hx rfl (hb hby d1_90) rfl rfl ?_
    show Steps p.tables e below (T3.setTop (mkF m 91 #[.val (.ref a0)] [(.ref a0)])) _
    jvm_step X3.here [X3.here.top, hx, (hb hby d1_91), X3.method', Bd.returns, Value.isRef, FieldType.isReference]
    first | (intro acts; rw [hr _ acts rfl rfl rfl]) | rw [hr _ _ rfl rfl rfl]
    exact Steps.refl _
  · show Q1o6 Z a0 h0 n0 _ T3.heap _
    rw [e3]
    exact ⟨rfl, N3, rfl⟩
theorem d1_72 : decode prog_31_method_6_code 72 = .ok (.getstatic 28, 3) := by decide +kernel
theorem d1_75 : decode prog_31_method_6_code 75 = .ok (.goto 16, 3) := by decide +kernel
def Q1o7 (Z : State) (a0 : Addr) (w_UNSIGNED_INT : Addr) (h0 : Heap) (n0 : Nat) (v : Option Value) (h : Heap) (L : List Loc) : Prop := v = some (.ref w_UNSIGNED_INT) ∧ Fr n0 L ∧ h = h0
set_option maxRecDepth 65536 in
set_option maxHeartbeats 40000000 in
theorem rm1o7 (l : Launch) (Z : State) (A0 : Array Value) (hw : ∀ d ∈ tables_1, d.before A0 Z = true) (ws : List Jvm.Cond) (a0 : Addr) (w_UNSIGNED_INT : Addr) (h0 : Heap) (n0 : Nat) (OLD : Old Z n0 h0) (f_1 : Fld Z h0 a0 "java/lang/Enum" "ordinal" "I" (.int (7 : Int32))) (f_2 : Exa Z h0 a0 "com/example/abstractor/abstractor/c/CType") (f_4 : Sta Z Z.heap "com/example/abstractor/abstractor/c/CType" "UNSIGNED_INT" "Lcom/example/abstractor/abstractor/c/CType;" (.ref w_UNSIGNED_INT)) :
    MetFree l (⟨"com/example/abstractor/abstractor/c/CType", "toUnsigned", "()Lcom/example/abstractor/abstractor/c/CType;"⟩ : MethodName) (head1 (Jvm.Cond.code (⟨"com/example/abstractor/abstractor/c/CType", "toUnsigned", "()Lcom/example/abstractor/abstractor/c/CType;"⟩ : MethodName) prog_31_method_6_code 1 (some (.object "com/example/abstractor/abstractor/c/CType")) :: ws) ({ frames := 1, cells := 0, slots := 0, locals := 12 } : Room)) (fun a U => a = #[(.ref a0)] ∧ Z.Warmed39 U.vm ∧ U.heap = h0) (fun _ _ _ _ _ => True) (fun _ U o U' => ∃ v L, o = .returned v ∧ Q1o7 Z a0 w_UNSIGNED_INT h0 n0 v U'.heap L ∧ FrameEnd U o U' L ({ frames := 1, cells := 0, slots := 0, locals := 12 } : Room).cells ({ frames := 1, cells := 0, slots := 0, locals := 12 } : Room).slots) := by
  refine MetFree.of_bodySF (plainFor_of_name pn_com_example_abstractor_abstractor_c_CType) hisR ?_
  intro p e s m args below meth c s₁ Bd hml0 hP hK
  obtain ⟨rfl, hZ, hh⟩ := hP
  have hx := Bd.exec
  have hby := Bd.bytes
  have hml : c.maxLocals = 1 := hml0
  have hown : s.vm.findClass "com/example/abstractor/abstractor/c/CType" = some m.cls := findClass_of_methodNamed Bd.named
  have hnm := (name_of_methodNamed Bd.named Bd.method).1
  have X0 : Stand p l e ({ frames := 1, cells := 0, slots := 0, locals := 12 } : Room) s m #[(.ref a0)] below meth c s₁ [] 0 0 := Stand.of_body Bd
  have e0 : s₁.heap = h0 := by rw [← hh, Bd.state]; rfl
  have N0 := Fr.nil n0
  have pre0 : ∀ t, Steps p.tables e below (s₁.setTop (mkF m 0 #[.val (.ref a0)] [])) t → Steps p.tables e below (s₁.setTop (entryFrame m #[(.ref a0)] 1)) t := fun t k => castTop (ef_1 m a0) k
  obtain ⟨cq3, kq3, q3a, q3b, q3c⟩ := isOf hZ e0 f_2
  obtain ⟨_, _, ⟨T3, L3, k3, n3⟩, -, X3, ⟨Lc3, hQ3, l3, y3, z3⟩, st3⟩ := X0.virtualBackUp hx (owner := "java/lang/Enum") (x := (⟨"com/example/abstractor/abstractor/c/CType", "ordinal", "()I"⟩ : MethodName)) (y := (⟨"java/lang/Enum", "ordinal", "()I"⟩ : MethodName)) hown (mvT hZ (hw _ (List.mem_of_getElem? (i := 36) rfl))) (mvT hZ (hw _ (List.mem_of_getElem? (i := 37) rfl))) (mvT hZ (hw _ (List.mem_of_getElem? (i := 38) rfl))) (by decide) (mvT hZ (hw _ (List.mem_of_getElem? (i := 40) rfl))) (mvT hZ (hw _ (List.mem_of_getElem? (i := 39) rfl))) (backOf (W := 0) (rm2 l Z A0 hw [] a0 (7 : Int32) h0 n0 OLD f_1) hZ (hw _ (List.mem_of_getElem? (i := 42) rfl)) (hw _ (List.mem_of_getElem? (i := 41) rfl)) (by decide) (by decide)) q3a q3c (g := (mkF m 1 #[.val (.ref a0)] [(.ref a0)])) rfl (by rw [hml]; rfl) (Steps.refl _) (argsL := []) (rest := []) (lenOf pd_0 rfl) rfl (by show 2 * 0 + _ ≤ _; exact Nat.le_of_eq rfl) (hb hby d1_1) (fun _ _ => ⟨rfl, e0, (by decide : 0 + 0 ≤ _), (by decide : 0 + 0 ≤ _)⟩)
  dsimp only [Pt.U, Pt.locs, Pt.cells, Pt.slots] at X3 l3 y3 z3 st3 hQ3
  subst l3 y3 z3
  obtain ⟨rfl, N3q, e3⟩ := hQ3
  have N3 := Fr.app N0 N3q
  obtain ⟨T5, X5, e5, st5⟩ := getS2 X3 hx hZ hown (host := "") (Or.inl (hw _ (List.mem_of_getElem? (i := 61) rfl))) Via.refl e3 (f_4.ext OLD.2) (g := (mkF m 72 #[.val (.ref a0)] [])) rfl (hb hby d1_72)
  obtain ⟨fs, hr, hrun, hended, hW, hsame⟩ := X5.leave (v := some (.ref w_UNSIGNED_INT)) (fun h => by rw [Bd.returns] at h; cases h)
  refine ⟨_, _, pre0 _ ?_, hrun, hended, _, _, rfl, ?_, ⟨_, rfl⟩, hW, hsame.mono (by decide) (by decide)⟩
  · show Steps p.tables e below (s₁.setTop (mkF m 0 #[.val (.ref a0)] [])) _
    refine XS.aloadN X0.here hx rfl (hb hby d1_0) rfl rfl ?_
    show Steps p.tables e below (s₁.setTop (mkF m 1 #[.val (.ref a0)] [(.ref a0)])) _
    refine st3.trans ?_
    show Steps p.tables e below (T3.setTop (mkF m 4 #[.val (.ref a0)] [(.int (7 : Int32))])) _
    refine XS.tswIn X3.here hx rfl (pc0 := 4) (pc' := 72) (o := 68) rfl (hb hby d1_4) rfl (by decide) (by decide) (by decide) (by decide) ?_
    show Steps p.tables e below (T3.setTop (mkF m 72 #[.val (.ref a0)] [])) _
    refine st5 _ ?_
    show Steps p.tables e below (T5.setTop (mkF m 75 #[.val (.ref a0)] [(.ref w_UNSIGNED_INT)])) _
    refine XS.goto X5.here hx rfl (pc0 := 75) (pc' := 91) rfl (hb hby d1_75) (by decide) (by decide) ?_
    show Steps p.tables e below (T5.setTop (mkF m 91 #[.val (.ref a0)] [(.ref w_UNSIGNED_INT)])) _
    jvm_step X5.here [X5.here.top, hx, (hb hby d1_91), X5.method', Bd.returns, Value.isRef, FieldType.isReference]
    first | (intro acts; rw [hr _ acts rfl rfl rfl]) | rw [hr _ _ rfl rfl rfl]
    exact Steps.refl _
  · show Q1o7 Z a0 w_UNSIGNED_INT h0 n0 _ T5.heap _
    rw [e5]
    exact ⟨rfl, N3, rfl⟩
def Q1o8 (Z : State) (a0 : Addr) (h0 : Heap) (n0 : Nat) (v : Option Value) (h : Heap) (L : List Loc) : Prop := v = some (.ref a0) ∧ Fr n0 L ∧ h = h0
set_option maxRecDepth 65536 in
set_option maxHeartbeats 40000000 in
theorem rm1o8 (l : Launch) (Z : State) (A0 : Array Value) (hw : ∀ d ∈ tables_1, d.before A0 Z = true) (ws : List Jvm.Cond) (a0 : Addr) (h0 : Heap) (n0 : Nat) (OLD : Old Z n0 h0) (f_1 : Fld Z h0 a0 "java/lang/Enum" "ordinal" "I" (.int (8 : Int32))) (f_2 : Exa Z h0 a0 "com/example/abstractor/abstractor/c/CType") :
    MetFree l (⟨"com/example/abstractor/abstractor/c/CType", "toUnsigned", "()Lcom/example/abstractor/abstractor/c/CType;"⟩ : MethodName) (head1 (Jvm.Cond.code (⟨"com/example/abstractor/abstractor/c/CType", "toUnsigned", "()Lcom/example/abstractor/abstractor/c/CType;"⟩ : MethodName) prog_31_method_6_code 1 (some (.object "com/example/abstractor/abstractor/c/CType")) :: ws) ({ frames := 1, cells := 0, slots := 0, locals := 12 } : Room)) (fun a U => a = #[(.ref a0)] ∧ Z.Warmed39 U.vm ∧ U.heap = h0) (fun _ _ _ _ _ => True) (fun _ U o U' => ∃ v L, o = .returned v ∧ Q1o8 Z a0 h0 n0 v U'.heap L ∧ FrameEnd U o U' L ({ frames := 1, cells := 0, slots := 0, locals := 12 } : Room).cells ({ frames := 1, cells := 0, slots := 0, locals := 12 } : Room).slots) := by
  refine MetFree.of_bodySF (plainFor_of_name pn_com_example_abstractor_abstractor_c_CType) hisR ?_
  intro p e s m args below meth c s₁ Bd hml0 hP hK
  obtain ⟨rfl, hZ, hh⟩ := hP
  have hx := Bd.exec
  have hby := Bd.bytes
  have hml : c.maxLocals = 1 := hml0
  have hown : s.vm.findClass "com/example/abstractor/abstractor/c/CType" = some m.cls := findClass_of_methodNamed Bd.named
  have hnm := (name_of_methodNamed Bd.named Bd.method).1
  have X0 : Stand p l e ({ frames := 1, cells := 0, slots := 0, locals := 12 } : Room) s m #[(.ref a0)] below meth c s₁ [] 0 0 := Stand.of_body Bd
  have e0 : s₁.heap = h0 := by rw [← hh, Bd.state]; rfl
  have N0 := Fr.nil n0
  have pre0 : ∀ t, Steps p.tables e below (s₁.setTop (mkF m 0 #[.val (.ref a0)] [])) t → Steps p.tables e below (s₁.setTop (entryFrame m #[(.ref a0)] 1)) t := fun t k => castTop (ef_1 m a0) k
  obtain ⟨cq3, kq3, q3a, q3b, q3c⟩ := isOf hZ e0 f_2
  obtain ⟨_, _, ⟨T3, L3, k3, n3⟩, -, X3, ⟨Lc3, hQ3, l3, y3, z3⟩, st3⟩ := X0.virtualBackUp hx (owner := "java/lang/Enum") (x := (⟨"com/example/abstractor/abstractor/c/CType", "ordinal", "()I"⟩ : MethodName)) (y := (⟨"java/lang/Enum", "ordinal", "()I"⟩ : MethodName)) hown (mvT hZ (hw _ (List.mem_of_getElem? (i := 36) rfl))) (mvT hZ (hw _ (List.mem_of_getElem? (i := 37) rfl))) (mvT hZ (hw _ (List.mem_of_getElem? (i := 38) rfl))) (by decide) (mvT hZ (hw _ (List.mem_of_getElem? (i := 40) rfl))) (mvT hZ (hw _ (List.mem_of_getElem? (i := 39) rfl))) (backOf (W := 0) (rm2 l Z A0 hw [] a0 (8 : Int32) h0 n0 OLD f_1) hZ (hw _ (List.mem_of_getElem? (i := 42) rfl)) (hw _ (List.mem_of_getElem? (i := 41) rfl)) (by decide) (by decide)) q3a q3c (g := (mkF m 1 #[.val (.ref a0)] [(.ref a0)])) rfl (by rw [hml]; rfl) (Steps.refl _) (argsL := []) (rest := []) (lenOf pd_0 rfl) rfl (by show 2 * 0 + _ ≤ _; exact Nat.le_of_eq rfl) (hb hby d1_1) (fun _ _ => ⟨rfl, e0, (by decide : 0 + 0 ≤ _), (by decide : 0 + 0 ≤ _)⟩)
  dsimp only [Pt.U, Pt.locs, Pt.cells, Pt.slots] at X3 l3 y3 z3 st3 hQ3
  subst l3 y3 z3
  obtain ⟨rfl, N3q, e3⟩ := hQ3
  have N3 := Fr.app N0 N3q
  obtain ⟨fs, hr, hrun, hended, hW, hsame⟩ := X3.leave (v := some (.ref a0)) (fun h => by rw [Bd.returns] at h; cases h)
  refine ⟨_, _, pre0 _ ?_, hrun, hended, _, _, rfl, ?_, ⟨_, rfl⟩, hW, hsame.mono (by decide) (by decide)⟩
  · show Steps p.tables e below (s₁.setTop (mkF m 0 #[.val (.ref a0)] [])) _
    refine XS.aloadN X0.here hx rfl (hb hby d1_0) rfl rfl ?_
    show Steps p.tables e below (s₁.setTop (mkF m 1 #[.val (.ref a0)] [(.ref a0)])) _
    refine st3.trans ?_
    show Steps p.tables e below (T3.setTop (mkF m 4 #[.val (.ref a0)] [(.int (8 : Int32))])) _
    refine XS.tswIn X3.here hx rfl (pc0 := 4) (pc' := 90) (o := 86) rfl (hb hby d1_4) rfl (by decide) (by decide) (by decide) (by decide) ?_
    show Steps p.tables e below (T3.setTop (mkF m 90 #[.val (.ref a0)] [])) _
    refine XS.aloadN X3.here hx rfl (hb hby d1_90) rfl rfl ?_
    show Steps p.tables e below (T3.setTop (mkF m 91 #[.val (.ref a0)] [(.ref a0)])) _
    jvm_step X3.here [X3.here.top, hx, (hb hby d1_91), X3.method', Bd.returns, Value.isRef, FieldType.isReference]
    first | (intro acts; rw [hr _ acts rfl rfl rfl]) | rw [hr _ _ rfl rfl rfl]
    exact Steps.refl _
  · show Q1o8 Z a0 h0 n0 _ T3.heap _
    rw [e3]
    exact ⟨rfl, N3, rfl⟩
theorem d1_78 : decode prog_31_method_6_code 78 = .ok (.getstatic 34, 3) := by decide +kernel
theorem d1_81 : decode prog_31_method_6_code 81 = .ok (.goto 10, 3) := by decide +kernel
def Q1o9 (Z : State) (a0 : Addr) (w_UNSIGNED_LONG : Addr) (h0 : Heap) (n0 : Nat) (v : Option Value) (h : Heap) (L : List Loc) : Prop := v = some (.ref w_UNSIGNED_LONG) ∧ Fr n0 L ∧ h = h0
set_option maxRecDepth 65536 in
set_option maxHeartbeats 40000000 in
theorem rm1o9 (l : Launch) (Z : State) (A0 : Array Value) (hw : ∀ d ∈ tables_1, d.before A0 Z = true) (ws : List Jvm.Cond) (a0 : Addr) (w_UNSIGNED_LONG : Addr) (h0 : Heap) (n0 : Nat) (OLD : Old Z n0 h0) (f_1 : Fld Z h0 a0 "java/lang/Enum" "ordinal" "I" (.int (9 : Int32))) (f_2 : Exa Z h0 a0 "com/example/abstractor/abstractor/c/CType") (f_4 : Sta Z Z.heap "com/example/abstractor/abstractor/c/CType" "UNSIGNED_LONG" "Lcom/example/abstractor/abstractor/c/CType;" (.ref w_UNSIGNED_LONG)) :
    MetFree l (⟨"com/example/abstractor/abstractor/c/CType", "toUnsigned", "()Lcom/example/abstractor/abstractor/c/CType;"⟩ : MethodName) (head1 (Jvm.Cond.code (⟨"com/example/abstractor/abstractor/c/CType", "toUnsigned", "()Lcom/example/abstractor/abstractor/c/CType;"⟩ : MethodName) prog_31_method_6_code 1 (some (.object "com/example/abstractor/abstractor/c/CType")) :: ws) ({ frames := 1, cells := 0, slots := 0, locals := 12 } : Room)) (fun a U => a = #[(.ref a0)] ∧ Z.Warmed39 U.vm ∧ U.heap = h0) (fun _ _ _ _ _ => True) (fun _ U o U' => ∃ v L, o = .returned v ∧ Q1o9 Z a0 w_UNSIGNED_LONG h0 n0 v U'.heap L ∧ FrameEnd U o U' L ({ frames := 1, cells := 0, slots := 0, locals := 12 } : Room).cells ({ frames := 1, cells := 0, slots := 0, locals := 12 } : Room).slots) := by
  refine MetFree.of_bodySF (plainFor_of_name pn_com_example_abstractor_abstractor_c_CType) hisR ?_
  intro p e s m args below meth c s₁ Bd hml0 hP hK
  obtain ⟨rfl, hZ, hh⟩ := hP
  have hx := Bd.exec
  have hby := Bd.bytes
  have hml : c.maxLocals = 1 := hml0
  have hown : s.vm.findClass "com/example/abstractor/abstractor/c/CType" = some m.cls := findClass_of_methodNamed Bd.named
  have hnm := (name_of_methodNamed Bd.named Bd.method).1
  have X0 : Stand p l e ({ frames := 1, cells := 0, slots := 0, locals := 12 } : Room) s m #[(.ref a0)] below meth c s₁ [] 0 0 := Stand.of_body Bd
  have e0 : s₁.heap = h0 := by rw [← hh, Bd.state]; rfl
  have N0 := Fr.nil n0
  have pre0 : ∀ t, Steps p.tables e below (s₁.setTop (mkF m 0 #[.val (.ref a0)] [])) t → Steps p.tables e below (s₁.setTop (entryFrame m #[(.ref a0)] 1)) t := fun t k => castTop (ef_1 m a0) k
  obtain ⟨cq3, kq3, q3a, q3b, q3c⟩ := isOf hZ e0 f_2
  obtain ⟨_, _, ⟨T3, L3, k3, n3⟩, -, X3, ⟨Lc3, hQ3, l3, y3, z3⟩, st3⟩ := X0.virtualBackUp hx (owner := "java/lang/Enum") (x := (⟨"com/example/abstractor/abstractor/c/CType", "ordinal", "()I"⟩ : MethodName)) (y := (⟨"java/lang/Enum", "ordinal", "()I"⟩ : MethodName)) hown (mvT hZ (hw _ (List.mem_of_getElem? (i := 36) rfl))) (mvT hZ (hw _ (List.mem_of_getElem? (i := 37) rfl))) (mvT hZ (hw _ (List.mem_of_getElem? (i := 38) rfl))) (by decide) (mvT hZ (hw _ (List.mem_of_getElem? (i := 40) rfl))) (mvT hZ (hw _ (List.mem_of_getElem? (i := 39) rfl))) (backOf (W := 0) (rm2 l Z A0 hw [] a0 (9 : Int32) h0 n0 OLD f_1) hZ (hw _ (List.mem_of_getElem? (i := 42) rfl)) (hw _ (List.mem_of_getElem? (i := 41) rfl)) (by decide) (by decide)) q3a q3c (g := (mkF m 1 #[.val (.ref a0)] [(.ref a0)])) rfl (by rw [hml]; rfl) (Steps.refl _) (argsL := []) (rest := []) (lenOf pd_0 rfl) rfl (by show 2 * 0 + _ ≤ _; exact Nat.le_of_eq rfl) (hb hby d1_1) (fun _ _ => ⟨rfl, e0, (by decide : 0 + 0 ≤ _), (by decide : 0 + 0 ≤ _)⟩)
  dsimp only [Pt.U, Pt.locs, Pt.cells, Pt.slots] at X3 l3 y3 z3 st3 hQ3
  subst l3 y3 z3
  obtain ⟨rfl, N3q, e3⟩ := hQ3
  have N3 := Fr.app N0 N3q
  obtain ⟨T5, X5, e5, st5⟩ := getS2 X3 hx hZ hown (host := "") (Or.inl (hw _ (List.mem_of_getElem? (i := 62) rfl))) Via.refl e3 (f_4.ext OLD.2) (g := (mkF m 78 #[.val (.ref a0)] [])) rfl (hb hby d1_78)
  obtain ⟨fs, hr, hrun, hended, hW, hsame⟩ := X5.leave (v := some (.ref w_UNSIGNED_LONG)) (fun h => by rw [Bd.returns] at h; cases h)
  refine ⟨_, _, pre0 _ ?_, hrun, hended, _, _, rfl, ?_, ⟨_, rfl⟩, hW, hsame.mono (by decide) (by decide)⟩
  · show Steps p.tables e below (s₁.setTop (mkF m 0 #[.val (.ref a0)] [])) _
    refine XS.aloadN X0.here hx rfl (hb hby d1_0) rfl rfl ?_
    show Steps p.tables e below (s₁.setTop (mkF m 1 #[.val (.ref a0)] [(.ref a0)])) _
    refine st3.trans ?_
    show Steps p.tables e below (T3.setTop (mkF m 4 #[.val (.ref a0)] [(.int (9 : Int32))])) _
    refine XS.tswIn X3.here hx rfl (pc0 := 4) (pc' := 78) (o := 74) rfl (hb hby d1_4) rfl (by decide) (by decide) (by decide) (by decide) ?_
    show Steps p.tables e below (T3.setTop (mkF m 78 #[.val (.ref a0)] [])) _
    refine st5 _ ?_
    show Steps p.tables e below (T5.setTop (mkF m 81 #[.val (.ref a0)] [(.ref w_UNSIGNED_LONG)])) _
    refine XS.goto X5.here hx rfl (pc0 := 81) (pc' := 91) rfl (hb hby d1_81) (by decide) (by decide) ?_
    show Steps p.tables e below (T5.setTop (mkF m 91 #[.val (.ref a0)] [(.ref w_UNSIGNED_LONG)])) _
    jvm_step X5.here [X5.here.top, hx, (hb hby d1_91), X5.method', Bd.returns, Value.isRef, FieldType.isReference]
    first | (intro acts; rw [hr _ acts rfl rfl rfl]) | rw [hr _ _ rfl rfl rfl]
    exact Steps.refl _
  · show Q1o9 Z a0 w_UNSIGNED_LONG h0 n0 _ T5.heap _
    rw [e5]
    exact ⟨rfl, N3, rfl⟩
def Q1o10 (Z : State) (a0 : Addr) (h0 : Heap) (n0 : Nat) (v : Option Value) (h : Heap) (L : List Loc) : Prop := v = some (.ref a0) ∧ Fr n0 L ∧ h = h0
set_option maxRecDepth 65536 in
set_option maxHeartbeats 40000000 in
theorem rm1o10 (l : Launch) (Z : State) (A0 : Array Value) (hw : ∀ d ∈ tables_1, d.before A0 Z = true) (ws : List Jvm.Cond) (a0 : Addr) (h0 : Heap) (n0 : Nat) (OLD : Old Z n0 h0) (f_1 : Fld Z h0 a0 "java/lang/Enum" "ordinal" "I" (.int (10 : Int32))) (f_2 : Exa Z h0 a0 "com/example/abstractor/abstractor/c/CType") :
    MetFree l (⟨"com/example/abstractor/abstractor/c/CType", "toUnsigned", "()Lcom/example/abstractor/abstractor/c/CType;"⟩ : MethodName) (head1 (Jvm.Cond.code (⟨"com/example/abstractor/abstractor/c/CType", "toUnsigned", "()Lcom/example/abstractor/abstractor/c/CType;"⟩ : MethodName) prog_31_method_6_code 1 (some (.object "com/example/abstractor/abstractor/c/CType")) :: ws) ({ frames := 1, cells := 0, slots := 0, locals := 12 } : Room)) (fun a U => a = #[(.ref a0)] ∧ Z.Warmed39 U.vm ∧ U.heap = h0) (fun _ _ _ _ _ => True) (fun _ U o U' => ∃ v L, o = .returned v ∧ Q1o10 Z a0 h0 n0 v U'.heap L ∧ FrameEnd U o U' L ({ frames := 1, cells := 0, slots := 0, locals := 12 } : Room).cells ({ frames := 1, cells := 0, slots := 0, locals := 12 } : Room).slots) := by
  refine MetFree.of_bodySF (plainFor_of_name pn_com_example_abstractor_abstractor_c_CType) hisR ?_
  intro p e s m args below meth c s₁ Bd hml0 hP hK
  obtain ⟨rfl, hZ, hh⟩ := hP
  have hx := Bd.exec
  have hby := Bd.bytes
  have hml : c.maxLocals = 1 := hml0
  have hown : s.vm.findClass "com/example/abstractor/abstractor/c/CType" = some m.cls := findClass_of_methodNamed Bd.named
  have hnm := (name_of_methodNamed Bd.named Bd.method).1
  have X0 : Stand p l e ({ frames := 1, cells := 0, slots := 0, locals := 12 } : Room) s m #[(.ref a0)] below meth c s₁ [] 0 0 := Stand.of_body Bd
  have e0 : s₁.heap = h0 := by rw [← hh, Bd.state]; rfl
  have N0 := Fr.nil n0
  have pre0 : ∀ t, Steps p.tables e below (s₁.setTop (mkF m 0 #[.val (.ref a0)] [])) t → Steps p.tables e below (s₁.setTop (entryFrame m #[(.ref a0)] 1)) t := fun t k => castTop (ef_1 m a0) k
  obtain ⟨cq3, kq3, q3a, q3b, q3c⟩ := isOf hZ e0 f_2
  obtain ⟨_, _, ⟨T3, L3, k3, n3⟩, -, X3, ⟨Lc3, hQ3, l3, y3, z3⟩, st3⟩ := X0.virtualBackUp hx (owner := "java/lang/Enum") (x := (⟨"com/example/abstractor/abstractor/c/CType", "ordinal", "()I"⟩ : MethodName)) (y := (⟨"java/lang/Enum", "ordinal", "()I"⟩ : MethodName)) hown (mvT hZ (hw _ (List.mem_of_getElem? (i := 36) rfl))) (mvT hZ (hw _ (List.mem_of_getElem? (i := 37) rfl))) (mvT hZ (hw _ (List.mem_of_getElem? (i := 38) rfl))) (by decide) (mvT hZ (hw _ (List.mem_of_getElem? (i := 40) rfl))) (mvT hZ (hw _ (List.mem_of_getElem? (i := 39) rfl))) (backOf (W := 0) (rm2 l Z A0 hw [] a0 (10 : Int32) h0 n0 OLD f_1) hZ (hw _ (List.mem_of_getElem? (i := 42) rfl)) (hw _ (List.mem_of_getElem? (i := 41) rfl)) (by decide) (by decide)) q3a q3c (g := (mkF m 1 #[.val (.ref a0)] [(.ref a0)])) rfl (by rw [hml]; rfl) (Steps.refl _) (argsL := []) (rest := []) (lenOf pd_0 rfl) rfl (by show 2 * 0 + _ ≤ _; exact Nat.le_of_eq rfl) (hb hby d1_1) (fun _ _ => ⟨rfl, e0, (by decide : 0 + 0 ≤ _), (by decide : 0 + 0 ≤ _)⟩)
  dsimp only [Pt.U, Pt.locs, Pt.cells, Pt.slots] at X3 l3 y3 z3 st3 hQ3
  subst l3 y3 z3
  obtain ⟨rfl, N3q, e3⟩ := hQ3
  have N3 := Fr.app N0 N3q
  obtain ⟨fs, hr, hrun, hended, hW, hsame⟩ := X3.leave (v := some (.ref a0)) (fun h => by rw [Bd.returns] at h; cases h)
  refine ⟨_, _, pre0 _ ?_, hrun, hended, _, _, rfl, ?_, ⟨_, rfl⟩, hW, hsame.mono (by decide) (by decide)⟩
  · show Steps p.tables e below (s₁.setTop (mkF m 0 #[.val (.ref a0)] [])) _
    refine XS.aloadN X0.here hx rfl (hb hby d1_0) rfl rfl ?_
    show Steps p.tables e below (s₁.setTop (mkF m 1 #[.val (.ref a0)] [(.ref a0)])) _
    refine st3.trans ?_
    show Steps p.tables e below (T3.setTop (mkF m 4 #[.val (.ref a0)] [(.int (10 : Int32))])) _
    refine XS.tswIn X3.here hx rfl (pc0 := 4) (pc' := 90) (o := 86) rfl (hb hby d1_4) rfl (by decide) (by decide) (by decide) (by decide) ?_
    show Steps p.tables e below (T3.setTop (mkF m 90 #[.val (.ref a0)] [])) _
    refine XS.aloadN X3.here hx rfl (hb hby d1_90) rfl rfl ?_
    show Steps p.tables e below (T3.setTop (mkF m 91 #[.val (.ref a0)] [(.ref a0)])) _
    jvm_step X3.here [X3.here.top, hx, (hb hby d1_91), X3.method', Bd.returns, Value.isRef, FieldType.isReference]
    first | (intro acts; rw [hr _ acts rfl rfl rfl]) | rw [hr _ _ rfl rfl rfl]
    exact Steps.refl _
  · show Q1o10 Z a0 h0 n0 _ T3.heap _
    rw [e3]
    exact ⟨rfl, N3, rfl⟩
theorem d1_84 : decode prog_31_method_6_code 84 = .ok (.getstatic 40, 3) := by decide +kernel
theorem d1_87 : decode prog_31_method_6_code 87 = .ok (.goto 4, 3) := by decide +kernel
def Q1o11 (Z : State) (a0 : Addr) (w_UNSIGNED_LONG_LONG : Addr) (h0 : Heap) (n0 : Nat) (v : Option Value) (h : Heap) (L : List Loc) : Prop := v = some (.ref w_UNSIGNED_LONG_LONG) ∧ Fr n0 L ∧ h = h0
set_option maxRecDepth 65536 in
set_option maxHeartbeats 40000000 in
theorem rm1o11 (l : Launch) (Z : State) (A0 : Array Value) (hw : ∀ d ∈ tables_1, d.before A0 Z = true) (ws : List Jvm.Cond) (a0 : Addr) (w_UNSIGNED_LONG_LONG : Addr) (h0 : Heap) (n0 : Nat) (OLD : Old Z n0 h0) (f_1 : Fld Z h0 a0 "java/lang/Enum" "ordinal" "I" (.int (11 : Int32))) (f_2 : Exa Z h0 a0 "com/example/abstractor/abstractor/c/CType") (f_4 : Sta Z Z.heap "com/example/abstractor/abstractor/c/CType" "UNSIGNED_LONG_LONG" "Lcom/example/abstractor/abstractor/c/CType;" (.ref w_UNSIGNED_LONG_LONG)) :
    MetFree l (⟨"com/example/abstractor/abstractor/c/CType", "toUnsigned", "()Lcom/example/abstractor/abstractor/c/CType;"⟩ : MethodName) (head1 (Jvm.Cond.code (⟨"com/example/abstractor/abstractor/c/CType", "toUnsigned", "()Lcom/example/abstractor/abstractor/c/CType;"⟩ : MethodName) prog_31_method_6_code 1 (some (.object "com/example/abstractor/abstractor/c/CType")) :: ws) ({ frames := 1, cells := 0, slots := 0, locals := 12 } : Room)) (fun a U => a = #[(.ref a0)] ∧ Z.Warmed39 U.vm ∧ U.heap = h0) (fun _ _ _ _ _ => True) (fun _ U o U' => ∃ v L, o = .returned v ∧ Q1o11 Z a0 w_UNSIGNED_LONG_LONG h0 n0 v U'.heap L ∧ FrameEnd U o U' L ({ frames := 1, cells := 0, slots := 0, locals := 12 } : Room).cells ({ frames := 1, cells := 0, slots := 0, locals := 12 } : Room).slots) := by
  refine MetFree.of_bodySF (plainFor_of_name pn_com_example_abstractor_abstractor_c_CType) hisR ?_
  intro p e s m args below meth c s₁ Bd hml0 hP hK
  obtain ⟨rfl, hZ, hh⟩ := hP
  have hx := Bd.exec
  have hby := Bd.bytes
  have hml : c.maxLocals = 1 := hml0
  have hown : s.vm.findClass "com/example/abstractor/abstractor/c/CType" = some m.cls := findClass_of_methodNamed Bd.named
  have hnm := (name_of_methodNamed Bd.named Bd.method).1
  have X0 : Stand p l e ({ frames := 1, cells := 0, slots := 0, locals := 12 } : Room) s m #[(.ref a0)] below meth c s₁ [] 0 0 := Stand.of_body Bd
  have e0 : s₁.heap = h0 := by rw [← hh, Bd.state]; rfl
  have N0 := Fr.nil n0
  have pre0 : ∀ t, Steps p.tables e below (s₁.setTop (mkF m 0 #[.val (.ref a0)] [])) t → Steps p.tables e below (s₁.setTop (entryFrame m #[(.ref a0)] 1)) t := fun t k => castTop (ef_1 m a0) k
  obtain ⟨cq3, kq3, q3a, q3b, q3c⟩ := isOf hZ e0 f_2
  obtain ⟨_, _, ⟨T3, L3, k3, n3⟩, -, X3, ⟨Lc3, hQ3, l3, y3, z3⟩, st3⟩ := X0.virtualBackUp hx (owner := "java/lang/Enum") (x := (⟨"com/example/abstractor/abstractor/c/CType", "ordinal", "()I"⟩ : MethodName)) (y := (⟨"java/lang/Enum", "ordinal", "()I"⟩ : MethodName)) hown (mvT hZ (hw _ (List.mem_of_getElem? (i := 36) rfl))) (mvT hZ (hw _ (List.mem_of_getElem? (i := 37) rfl))) (mvT hZ (hw _ (List.mem_of_getElem? (i := 38) rfl))) (by decide) (mvT hZ (hw _ (List.mem_of_getElem? (i := 40) rfl))) (mvT hZ (hw _ (List.mem_of_getElem? (i := 39) rfl))) (backOf (W := 0) (rm2 l Z A0 hw [] a0 (11 : Int32) h0 n0 OLD f_1) hZ (hw _ (List.mem_of_getElem? (i := 42) rfl)) (hw _ (List.mem_of_getElem? (i := 41) rfl)) (by decide) (by decide)) q3a q3c (g := (mkF m 1 #[.val (.ref a0)] [(.ref a0)])) rfl (by rw [hml]; rfl) (Steps.refl _) (argsL := []) (rest := []) (lenOf pd_0 rfl) rfl (by show 2 * 0 + _ ≤ _; exact Nat.le_of_eq rfl) (hb hby d1_1) (fun _ _ => ⟨rfl, e0, (by decide : 0 + 0 ≤ _), (by decide : 0 + 0 ≤ _)⟩)
  dsimp only [Pt.U, Pt.locs, Pt.cells, Pt.slots] at X3 l3 y3 z3 st3 hQ3
  subst l3 y3 z3
  obtain ⟨rfl, N3q, e3⟩ := hQ3
  have N3 := Fr.app N0 N3q
  obtain ⟨T5, X5, e5, st5⟩ := getS2 X3 hx hZ hown (host := "") (Or.inl (hw _ (List.mem_of_getElem? (i := 63) rfl))) Via.refl e3 (f_4.ext OLD.2) (g := (mkF m 84 #[.val (.ref a0)] [])) rfl (hb hby d1_84)
  obtain ⟨fs, hr, hrun, hended, hW, hsame⟩ := X5.leave (v := some (.ref w_UNSIGNED_LONG_LONG)) (fun h => by rw [Bd.returns] at h; cases h)
  refine ⟨_, _, pre0 _ ?_, hrun, hended, _, _, rfl, ?_, ⟨_, rfl⟩, hW, hsame.mono (by decide) (by decide)⟩
  · show Steps p.tables e below (s₁.setTop (mkF m 0 #[.val (.ref a0)] [])) _
    refine XS.aloadN X0.here hx rfl (hb hby d1_0) rfl rfl ?_
    show Steps p.tables e below (s₁.setTop (mkF m 1 #[.val (.ref a0)] [(.ref a0)])) _
    refine st3.trans ?_
    show Steps p.tables e below (T3.setTop (mkF m 4 #[.val (.ref a0)] [(.int (11 : Int32))])) _
    refine XS.tswIn X3.here hx rfl (pc0 := 4) (pc' := 84) (o := 80) rfl (hb hby d1_4) rfl (by decide) (by decide) (by decide) (by decide) ?_
    show Steps p.tables e below (T3.setTop (mkF m 84 #[.val (.ref a0)] [])) _
    refine st5 _ ?_
    show Steps p.tables e below (T5.setTop (mkF m 87 #[.val (.ref a0)] [(.ref w_UNSIGNED_LONG_LONG)])) _
    refine XS.goto X5.here hx rfl (pc0 := 87) (pc' := 91) rfl (hb hby d1_87) (by decide) (by decide) ?_
    show Steps p.tables e below (T5.setTop (mkF m 91 #[.val (.ref a0)] [(.ref w_UNSIGNED_LONG_LONG)])) _
    jvm_step X5.here [X5.here.top, hx, (hb hby d1_91), X5.method', Bd.returns, Value.isRef, FieldType.isReference]
    first | (intro acts; rw [hr _ acts rfl rfl rfl]) | rw [hr _ _ rfl rfl rfl]
    exact Steps.refl _
  · show Q1o11 Z a0 w_UNSIGNED_LONG_LONG h0 n0 _ T5.heap _
    rw [e5]
    exact ⟨rfl, N3, rfl⟩
def Q1o12 (Z : State) (a0 : Addr) (h0 : Heap) (n0 : Nat) (v : Option Value) (h : Heap) (L : List Loc) : Prop := v = some (.ref a0) ∧ Fr n0 L ∧ h = h0
set_option maxRecDepth 65536 in
set_option maxHeartbeats 40000000 in
theorem rm1o12 (l : Launch) (Z : State) (A0 : Array Value) (hw : ∀ d ∈ tables_1, d.before A0 Z = true) (ws : List Jvm.Cond) (a0 : Addr) (h0 : Heap) (n0 : Nat) (OLD : Old Z n0 h0) (f_1 : Fld Z h0 a0 "java/lang/Enum" "ordinal" "I" (.int (12 : Int32))) (f_2 : Exa Z h0 a0 "com/example/abstractor/abstractor/c/CType") :
    MetFree l (⟨"com/example/abstractor/abstractor/c/CType", "toUnsigned", "()Lcom/example/abstractor/abstractor/c/CType;"⟩ : MethodName) (head1 (Jvm.Cond.code (⟨"com/example/abstractor/abstractor/c/CType", "toUnsigned", "()Lcom/example/abstractor/abstractor/c/CType;"⟩ : MethodName) prog_31_method_6_code 1 (some (.object "com/example/abstractor/abstractor/c/CType")) :: ws) ({ frames := 1, cells := 0, slots := 0, locals := 12 } : Room)) (fun a U => a = #[(.ref a0)] ∧ Z.Warmed39 U.vm ∧ U.heap = h0) (fun _ _ _ _ _ => True) (fun _ U o U' => ∃ v L, o = .returned v ∧ Q1o12 Z a0 h0 n0 v U'.heap L ∧ FrameEnd U o U' L ({ frames := 1, cells := 0, slots := 0, locals := 12 } : Room).cells ({ frames := 1, cells := 0, slots := 0, locals := 12 } : Room).slots) := by
  refine MetFree.of_bodySF (plainFor_of_name pn_com_example_abstractor_abstractor_c_CType) hisR ?_
  intro p e s m args below meth c s₁ Bd hml0 hP hK
  obtain ⟨rfl, hZ, hh⟩ := hP
  have hx := Bd.exec
  have hby := Bd.bytes
  have hml : c.maxLocals = 1 := hml0
  have hown : s.vm.findClass "com/example/abstractor/abstractor/c/CType" = some m.cls := findClass_of_methodNamed Bd.named
  have hnm := (name_of_methodNamed Bd.named Bd.method).1
  have X0 : Stand p l e ({ frames := 1, cells := 0, slots := 0, locals := 12 } : Room) s m #[(.ref a0)] below meth c s₁ [] 0 0 := Stand.of_body Bd
  have e0 : s₁.heap = h0 := by rw [← hh, Bd.state]; rfl
  have N0 := Fr.nil n0
  have pre0 : ∀ t, Steps p.tables e below (s₁.setTop (mkF m 0 #[.val (.ref a0)] [])) t → Steps p.tables e below (s₁.setTop (entryFrame m #[(.ref a0)] 1)) t := fun t k => castTop (ef_1 m a0) k
  obtain ⟨cq3, kq3, q3a, q3b, q3c⟩ := isOf hZ e0 f_2
  obtain ⟨_, _, ⟨T3, L3, k3, n3⟩, -, X3, ⟨Lc3, hQ3, l3, y3, z3⟩, st3⟩ := X0.virtualBackUp hx (owner := "java/lang/Enum") (x := (⟨"com/example/abstractor/abstractor/c/CType", "ordinal", "()I"⟩ : MethodName)) (y := (⟨"java/lang/Enum", "ordinal", "()I"⟩ : MethodName)) hown (mvT hZ (hw _ (List.mem_of_getElem? (i := 36) rfl))) (mvT hZ (hw _ (List.mem_of_getElem? (i := 37) rfl))) (mvT hZ (hw _ (List.mem_of_getElem? (i := 38) rfl))) (by decide) (mvT hZ (hw _ (List.mem_of_getElem? (i := 40) rfl))) (mvT hZ (hw _ (List.mem_of_getElem? (i := 39) rfl))) (backOf (W := 0) (rm2 l Z A0 hw [] a0 (12 : Int32) h0 n0 OLD f_1) hZ (hw _ (List.mem_of_getElem? (i := 42) rfl)) (hw _ (List.mem_of_getElem? (i := 41) rfl)) (by decide) (by decide)) q3a q3c (g := (mkF m 1 #[.val (.ref a0)] [(.ref a0)])) rfl (by rw [hml]; rfl) (Steps.refl _) (argsL := []) (rest := []) (lenOf pd_0 rfl) rfl (by show 2 * 0 + _ ≤ _; exact Nat.le_of_eq rfl) (hb hby d1_1) (fun _ _ => ⟨rfl, e0, (by decide : 0 + 0 ≤ _), (by decide : 0 + 0 ≤ _)⟩)
  dsimp only [Pt.U, Pt.locs, Pt.cells, Pt.slots] at X3 l3 y3 z3 st3 hQ3
  subst l3 y3 z3
  obtain ⟨rfl, N3q, e3⟩ := hQ3
  have N3 := Fr.app N0 N3q
  obtain ⟨fs, hr, hrun, hended, hW, hsame⟩ := X3.leave (v := some (.ref a0)) (fun h => by rw [Bd.returns] at h; cases h)
  refine ⟨_, _, pre0 _ ?_, hrun, hended, _, _, rfl, ?_, ⟨_, rfl⟩, hW, hsame.mono (by decide) (by decide)⟩
  · show Steps p.tables e below (s₁.setTop (mkF m 0 #[.val (.ref a0)] [])) _
    refine XS.aloadN X0.here hx rfl (hb hby d1_0) rfl rfl ?_
    show Steps p.tables e below (s₁.setTop (mkF m 1 #[.val (.ref a0)] [(.ref a0)])) _
    refine st3.trans ?_
    show Steps p.tables e below (T3.setTop (mkF m 4 #[.val (.ref a0)] [(.int (12 : Int32))])) _
    refine XS.tswOut X3.here hx rfl (pc0 := 4) (pc' := 90) rfl (hb hby d1_4) rfl (by decide) (by decide) (by decide) ?_
    show Steps p.tables e below (T3.setTop (mkF m 90 #[.val (.ref a0)] [])) _
    refine XS.aloadN X3.here hx rfl (hb hby d1_90) rfl rfl ?_
    show Steps p.tables e below (T3.setTop (mkF m 91 #[.val (.ref a0)] [(.ref a0)])) _
    jvm_step X3.here [X3.here.top, hx, (hb hby d1_91), X3.method', Bd.returns, Value.isRef, FieldType.isReference]
    first | (intro acts; rw [hr _ acts rfl rfl rfl]) | rw [hr _ _ rfl rfl rfl]
    exact Steps.refl _
  · show Q1o12 Z a0 h0 n0 _ T3.heap _
    rw [e3]
    exact ⟨rfl, N3, rfl⟩
def Q1s (Z : State) (r0 : Addr) (od : Int32) (u : Addr) (w_UNSIGNED_CHAR : Addr) (w_UNSIGNED_SHORT : Addr) (w_UNSIGNED_INT : Addr) (w_UNSIGNED_LONG : Addr) (w_UNSIGNED_LONG_LONG : Addr) (h0 : Heap) (n0 : Nat) (v : Option Value) (h : Heap) (L : List Loc) : Prop := v = some (.ref u) ∧ Fr n0 L ∧ h = h0
theorem rm1s (l : Launch) (Z : State) (a0 : Array Value) (hw : ∀ d ∈ tables_1, d.before a0 Z = true) (ws : List Jvm.Cond) (r0 : Addr) (od : Int32) (u : Addr) (w_UNSIGNED_CHAR : Addr) (w_UNSIGNED_SHORT : Addr) (w_UNSIGNED_INT : Addr) (w_UNSIGNED_LONG : Addr) (w_UNSIGNED_LONG_LONG : Addr) (h0 : Heap) (n0 : Nat) (OLD : Old Z n0 h0) (fo : Fld Z h0 r0 "java/lang/Enum" "ordinal" "I" (.int od)) (fe : Exa Z h0 r0 "com/example/abstractor/abstractor/c/CType") (S_UNSIGNED_CHAR : Sta Z Z.heap "com/example/abstractor/abstractor/c/CType" "UNSIGNED_CHAR" "Lcom/example/abstractor/abstractor/c/CType;" (.ref w_UNSIGNED_CHAR)) (S_UNSIGNED_SHORT : Sta Z Z.heap "com/example/abstractor/abstractor/c/CType" "UNSIGNED_SHORT" "Lcom/example/abstractor/abstractor/c/CType;" (.ref w_UNSIGNED_SHORT)) (S_UNSIGNED_INT : Sta Z Z.heap "com/example/abstractor/abstractor/c/CType" "UNSIGNED_INT" "Lcom/example/abstractor/abstractor/c/CType;" (.ref w_UNSIGNED_INT)) (S_UNSIGNED_LONG : Sta Z Z.heap "com/example/abstractor/abstractor/c/CType" "UNSIGNED_LONG" "Lcom/example/abstractor/abstractor/c/CType;" (.ref w_UNSIGNED_LONG)) (S_UNSIGNED_LONG_LONG : Sta Z Z.heap "com/example/abstractor/abstractor/c/CType" "UNSIGNED_LONG_LONG" "Lcom/example/abstractor/abstractor/c/CType;" (.ref w_UNSIGNED_LONG_LONG)) (cs : (od = (2 : Int32) ∧ u = w_UNSIGNED_CHAR) ∨ (od = (3 : Int32) ∧ u = w_UNSIGNED_CHAR) ∨ (od = (5 : Int32) ∧ u = w_UNSIGNED_SHORT) ∨ (od = (7 : Int32) ∧ u = w_UNSIGNED_INT) ∨ (od = (9 : Int32) ∧ u = w_UNSIGNED_LONG) ∨ (od = (11 : Int32) ∧ u = w_UNSIGNED_LONG_LONG)) :
    MetFree l (⟨"com/example/abstractor/abstractor/c/CType", "toUnsigned", "()Lcom/example/abstractor/abstractor/c/CType;"⟩ : MethodName) (head1 (Jvm.Cond.code (⟨"com/example/abstractor/abstractor/c/CType", "toUnsigned", "()Lcom/example/abstractor/abstractor/c/CType;"⟩ : MethodName) prog_31_method_6_code 1 (some (.object "com/example/abstractor/abstractor/c/CType")) :: ws) ({ frames := 1, cells := 0, slots := 0, locals := 12 } : Room)) (fun a U => a = #[(.ref r0)] ∧ Z.Warmed39 U.vm ∧ U.heap = h0) (fun _ _ _ _ _ => True) (fun _ U o U' => ∃ v L, o = .returned v ∧ Q1s Z r0 od u w_UNSIGNED_CHAR w_UNSIGNED_SHORT w_UNSIGNED_INT w_UNSIGNED_LONG w_UNSIGNED_LONG_LONG h0 n0 v U'.heap L ∧ FrameEnd U o U' L ({ frames := 1, cells := 0, slots := 0, locals := 12 } : Room).cells ({ frames := 1, cells := 0, slots := 0, locals := 12 } : Room).slots) := by
  rcases cs with ⟨rfl, rfl⟩ | ⟨rfl, rfl⟩ | ⟨rfl, rfl⟩ | ⟨rfl, rfl⟩ | ⟨rfl, rfl⟩ | ⟨rfl, rfl⟩
  · exact rm1o2 l Z a0 hw ws r0 u h0 n0 OLD fo fe S_UNSIGNED_CHAR
  · exact rm1o3 l Z a0 hw ws r0 u h0 n0 OLD fo fe S_UNSIGNED_CHAR
  · exact rm1o5 l Z a0 hw ws r0 u h0 n0 OLD fo fe S_UNSIGNED_SHORT
  · exact rm1o7 l Z a0 hw ws r0 u h0 n0 OLD fo fe S_UNSIGNED_INT
  · exact rm1o9 l Z a0 hw ws r0 u h0 n0 OLD fo fe S_UNSIGNED_LONG
  · exact rm1o11 l Z a0 hw ws r0 u h0 n0 OLD fo fe S_UNSIGNED_LONG_LONG
def Q1u (Z : State) (r0 : Addr) (od : Int32) (h0 : Heap) (n0 : Nat) (v : Option Value) (h : Heap) (L : List Loc) : Prop := v = some (.ref r0) ∧ Fr n0 L ∧ h = h0
theorem rm1u (l : Launch) (Z : State) (a0 : Array Value) (hw : ∀ d ∈ tables_1, d.before a0 Z = true) (ws : List Jvm.Cond) (r0 : Addr) (od : Int32) (h0 : Heap) (n0 : Nat) (OLD : Old Z n0 h0) (fo : Fld Z h0 r0 "java/lang/Enum" "ordinal" "I" (.int od)) (fe : Exa Z h0 r0 "com/example/abstractor/abstractor/c/CType") (cs : od = (0 : Int32) ∨ od = (1 : Int32) ∨ od = (4 : Int32) ∨ od = (6 : Int32) ∨ od = (8 : Int32) ∨ od = (10 : Int32) ∨ od = (12 : Int32)) :
    MetFree l (⟨"com/example/abstractor/abstractor/c/CType", "toUnsigned", "()Lcom/example/abstractor/abstractor/c/CType;"⟩ : MethodName) (head1 (Jvm.Cond.code (⟨"com/example/abstractor/abstractor/c/CType", "toUnsigned", "()Lcom/example/abstractor/abstractor/c/CType;"⟩ : MethodName) prog_31_method_6_code 1 (some (.object "com/example/abstractor/abstractor/c/CType")) :: ws) ({ frames := 1, cells := 0, slots := 0, locals := 12 } : Room)) (fun a U => a = #[(.ref r0)] ∧ Z.Warmed39 U.vm ∧ U.heap = h0) (fun _ _ _ _ _ => True) (fun _ U o U' => ∃ v L, o = .returned v ∧ Q1u Z r0 od h0 n0 v U'.heap L ∧ FrameEnd U o U' L ({ frames := 1, cells := 0, slots := 0, locals := 12 } : Room).cells ({ frames := 1, cells := 0, slots := 0, locals := 12 } : Room).slots) := by
  rcases cs with rfl | rfl | rfl | rfl | rfl | rfl | rfl
  · exact rm1o0 l Z a0 hw ws r0 h0 n0 OLD fo fe
  · exact rm1o1 l Z a0 hw ws r0 h0 n0 OLD fo fe
  · exact rm1o4 l Z a0 hw ws r0 h0 n0 OLD fo fe
  · exact rm1o6 l Z a0 hw ws r0 h0 n0 OLD fo fe
  · exact rm1o8 l Z a0 hw ws r0 h0 n0 OLD fo fe
  · exact rm1o10 l Z a0 hw ws r0 h0 n0 OLD fo fe
  · exact rm1o12 l Z a0 hw ws r0 h0 n0 OLD fo fe
theorem pd_1 : parseMethodDescriptor "()Lcom/example/abstractor/abstractor/c/CType;" = some ⟨[], some (.object "com/example/abstractor/abstractor/c/CType")⟩ := by decide +kernel
theorem pd_2 : parseMethodDescriptor "()Z" = some ⟨[], some .boolean⟩ := by decide +kernel
theorem pn_com_example_abstractor_abstractor_c_CTypeToUnsignedPinLaw : plainName "com/example/abstractor/abstractor/c/CTypeToUnsignedPinLaw" = true := by first | (simp [plainName, overriddenIn]; done) | decide +kernel
theorem ef_0 (m : MethodId) (x0 : Int32) : entryFrame m #[(.int x0)] maxLocals = mkF m 0 #[.val (.int x0), .unset, .unset, .unset] [] := by first | (simp [entryFrame, mkF, argsToLocals, Value.category, maxLocals]; done) | rfl
def Q0s (Z : State) (t : Addr) (u : Addr) (od : Int32) (rk : Int32) (p0 : Int32) (w_VOID : Addr) (w_BOOL : Addr) (w_CHAR : Addr) (w_SIGNED_CHAR : Addr) (w_UNSIGNED_CHAR : Addr) (w_SHORT : Addr) (w_UNSIGNED_SHORT : Addr) (w_INT : Addr) (w_UNSIGNED_INT : Addr) (w_LONG : Addr) (w_UNSIGNED_LONG : Addr) (w_LONG_LONG : Addr) (w_UNSIGNED_LONG_LONG : Addr) (h0 : Heap) (n0 : Nat) (v : Option Value) (h : Heap) (L : List Loc) : Prop := v = some (.int (1 : Int32)) ∧ Fr n0 L
set_option maxRecDepth 65536 in
set_option maxHeartbeats 40000000 in
theorem rm0s (l : Launch) (Z : State) (A0 : Array Value) (hw : ∀ d ∈ tables_1, d.before A0 Z = true) (ws : List Jvm.Cond) (t : Addr) (u : Addr) (od : Int32) (rk : Int32) (p0 : Int32) (w_VOID : Addr) (w_BOOL : Addr) (w_CHAR : Addr) (w_SIGNED_CHAR : Addr) (w_UNSIGNED_CHAR : Addr) (w_SHORT : Addr) (w_UNSIGNED_SHORT : Addr) (w_INT : Addr) (w_UNSIGNED_INT : Addr) (w_LONG : Addr) (w_UNSIGNED_LONG : Addr) (w_LONG_LONG : Addr) (w_UNSIGNED_LONG_LONG : Addr) (h0 : Heap) (n0 : Nat) (OLD : Old Z n0 h0) (f_1 : Fld Z Z.heap t "java/lang/Enum" "ordinal" "I" (.int od)) (f_2 : Fld Z Z.heap t "com/example/abstractor/abstractor/c/CType" "signed" "Z" (.int (1 : Int32))) (f_3 : Fld Z Z.heap t "com/example/abstractor/abstractor/c/CType" "rank" "I" (.int rk)) (f_4 : Fld Z Z.heap u "com/example/abstractor/abstractor/c/CType" "signed" "Z" (.int (0 : Int32))) (f_5 : Fld Z Z.heap u "com/example/abstractor/abstractor/c/CType" "rank" "I" (.int rk)) (f_6 : Exa Z Z.heap t "com/example/abstractor/abstractor/c/CType") (f_7 : Exa Z Z.heap u "com/example/abstractor/abstractor/c/CType") (f_11 : Sta Z Z.heap "com/example/abstractor/abstractor/c/CType" "VOID" "Lcom/example/abstractor/abstractor/c/CType;" (.ref w_VOID)) (f_15 : Exa Z Z.heap w_VOID "com/example/abstractor/abstractor/c/CType") (f_20 : Sta Z Z.heap "com/example/abstractor/abstractor/c/CType" "BOOL" "Lcom/example/abstractor/abstractor/c/CType;" (.ref w_BOOL)) (f_24 : Exa Z Z.heap w_BOOL "com/example/abstractor/abstractor/c/CType") (f_28 : Sta Z Z.heap "com/example/abstractor/abstractor/c/CType" "CHAR" "Lcom/example/abstractor/abstractor/c/CType;" (.ref w_CHAR)) (f_32 : Exa Z Z.heap w_CHAR "com/example/abstractor/abstractor/c/CType") (f_36 : Sta Z Z.heap "com/example/abstractor/abstractor/c/CType" "SIGNED_CHAR" "Lcom/example/abstractor/abstractor/c/CType;" (.ref w_SIGNED_CHAR)) (f_40 : Exa Z Z.heap w_SIGNED_CHAR "com/example/abstractor/abstractor/c/CType") (f_44 : Sta Z Z.heap "com/example/abstractor/abstractor/c/CType" "UNSIGNED_CHAR" "Lcom/example/abstractor/abstractor/c/CType;" (.ref w_UNSIGNED_CHAR)) (f_48 : Exa Z Z.heap w_UNSIGNED_CHAR "com/example/abstractor/abstractor/c/CType") (f_52 : Sta Z Z.heap "com/example/abstractor/abstractor/c/CType" "SHORT" "Lcom/example/abstractor/abstractor/c/CType;" (.ref w_SHORT)) (f_56 : Exa Z Z.heap w_SHORT "com/example/abstractor/abstractor/c/CType") (f_60 : Sta Z Z.heap "com/example/abstractor/abstractor/c/CType" "UNSIGNED_SHORT" "Lcom/example/abstractor/abstractor/c/CType;" (.ref w_UNSIGNED_SHORT)) (f_64 : Exa Z Z.heap w_UNSIGNED_SHORT "com/example/abstractor/abstractor/c/CType") (f_68 : Sta Z Z.heap "com/example/abstractor/abstractor/c/CType" "INT" "Lcom/example/abstractor/abstractor/c/CType;" (.ref w_INT)) (f_72 : Exa Z Z.heap w_INT "com/example/abstractor/abstractor/c/CType") (f_76 : Sta Z Z.heap "com/example/abstractor/abstractor/c/CType" "UNSIGNED_INT" "Lcom/example/abstractor/abstractor/c/CType;" (.ref w_UNSIGNED_INT)) (f_80 : Exa Z Z.heap w_UNSIGNED_INT "com/example/abstractor/abstractor/c/CType") (f_84 : Sta Z Z.heap "com/example/abstractor/abstractor/c/CType" "LONG" "Lcom/example/abstractor/abstractor/c/CType;" (.ref w_LONG)) (f_88 : Exa Z Z.heap w_LONG "com/example/abstractor/abstractor/c/CType") (f_92 : Sta Z Z.heap "com/example/abstractor/abstractor/c/CType" "UNSIGNED_LONG" "Lcom/example/abstractor/abstractor/c/CType;" (.ref w_UNSIGNED_LONG)) (f_96 : Exa Z Z.heap w_UNSIGNED_LONG "com/example/abstractor/abstractor/c/CType") (f_100 : Sta Z Z.heap "com/example/abstractor/abstractor/c/CType" "LONG_LONG" "Lcom/example/abstractor/abstractor/c/CType;" (.ref w_LONG_LONG)) (f_104 : Exa Z Z.heap w_LONG_LONG "com/example/abstractor/abstractor/c/CType") (f_108 : Sta Z Z.heap "com/example/abstractor/abstractor/c/CType" "UNSIGNED_LONG_LONG" "Lcom/example/abstractor/abstractor/c/CType;" (.ref w_UNSIGNED_LONG_LONG)) (f_112 : Exa Z Z.heap w_UNSIGNED_LONG_LONG "com/example/abstractor/abstractor/c/CType") (c_117 : ¬ ((p0 &&& (2147483647 : Int32)) % (13 : Int32)) < 0 ∧ ((p0 &&& (2147483647 : Int32)) % (13 : Int32)) < (13 : Int32)) (c_118 : ([(.ref w_VOID), (.ref w_BOOL), (.ref w_CHAR), (.ref w_SIGNED_CHAR), (.ref w_UNSIGNED_CHAR), (.ref w_SHORT), (.ref w_UNSIGNED_SHORT), (.ref w_INT), (.ref w_UNSIGNED_INT), (.ref w_LONG), (.ref w_UNSIGNED_LONG), (.ref w_LONG_LONG), (.ref w_UNSIGNED_LONG_LONG)] : List Value).getD (((p0 &&& (2147483647 : Int32)) % (13 : Int32))).toNatClampNeg .null = (.ref t)) (c_120 : (od = (2 : Int32) ∧ u = w_UNSIGNED_CHAR) ∨ (od = (3 : Int32) ∧ u = w_UNSIGNED_CHAR) ∨ (od = (5 : Int32) ∧ u = w_UNSIGNED_SHORT) ∨ (od = (7 : Int32) ∧ u = w_UNSIGNED_INT) ∨ (od = (9 : Int32) ∧ u = w_UNSIGNED_LONG) ∨ (od = (11 : Int32) ∧ u = w_UNSIGNED_LONG_LONG)) :
    MetFree l x (head1 (Jvm.Cond.code x code maxLocals ret :: ws) room_1) (fun a U => a = #[(.int p0)] ∧ Z.Warmed39 U.vm ∧ U.heap = h0) (fun _ _ _ _ _ => True) (fun _ U o U' => ∃ v L, o = .returned v ∧ Q0s Z t u od rk p0 w_VOID w_BOOL w_CHAR w_SIGNED_CHAR w_UNSIGNED_CHAR w_SHORT w_UNSIGNED_SHORT w_INT w_UNSIGNED_INT w_LONG w_UNSIGNED_LONG w_LONG_LONG w_UNSIGNED_LONG_LONG h0 n0 v U'.heap L ∧ FrameEnd U o U' L room_1.cells room_1.slots) := by
  refine MetFree.of_bodySF (plainFor_of_name pn_com_example_abstractor_abstractor_c_CTypeToUnsignedPinLaw) hisR ?_
  intro p e s m args below meth c s₁ Bd hml0 hP hK
  obtain ⟨rfl, hZ, hh⟩ := hP
  have hx := Bd.exec
  have hby := Bd.bytes
  have hml : c.maxLocals = 4 := hml0
  have hown : s.vm.findClass "com/example/abstractor/abstractor/c/CTypeToUnsignedPinLaw" = some m.cls := findClass_of_methodNamed Bd.named
  have hnm := (name_of_methodNamed Bd.named Bd.method).1
  have X0 : Stand p l e room_1 s m #[(.int p0)] below meth c s₁ [] 0 0 := Stand.of_body Bd
  have e0 : s₁.heap = h0 := by rw [← hh, Bd.state]; rfl
  have N0 := Fr.nil n0
  have pre0 : ∀ t, Steps p.tables e below (s₁.setTop (mkF m 0 #[.val (.int p0), .unset, .unset, .unset] [])) t → Steps p.tables e below (s₁.setTop (entryFrame m #[(.int p0)] maxLocals)) t := fun t k => castTop (ef_0 m p0) k
  obtain ⟨T8, h8, k8, X8, e8, E8, A8, B8, O8, st8⟩ := newRE X0 hx hZ hown (hw _ (List.mem_of_getElem? (i := 0) rfl)) (hw _ (List.mem_of_getElem? (i := 1) rfl)) e0 (g := (mkF m 2 #[.val (.int p0), .unset, .unset, .unset] [(.int (13 : Int32))])) rfl (hb hby at_2) rfl (by decide) (cap := 13) (by decide) (by decide) (by decide) (by decide) (ad := "[Lcom/example/abstractor/abstractor/c/CType;") (by decide)
  obtain ⟨b8, g8⟩ : ∃ z, z = h0.size := ⟨_, rfl⟩
  rw [← g8] at A8 B8 st8
  have K_9 : Keep h0 h8 [] := (Keep.refl h0 []).ext E8
  have f_10 : Arv Z h8 b8 k8 (.object "com/example/abstractor/abstractor/c/CType") (13 : Int32) [.null, .null, .null, .null, .null, .null, .null, .null, .null, .null, .null, .null, .null] .null := (Arv.new A8 (by decide)).pad (pad_rep [] .null 13)
  have O_12 := Old.ext OLD E8
  obtain ⟨T13, X13, e13, st13⟩ := getS2 X8 hx hZ hown (host := "") (Or.inl (hw _ (List.mem_of_getElem? (i := 2) rfl))) Via.refl e8 (f_11.ext O_12.2) (g := (mkF m 7 #[.val (.int p0), .unset, .unset, .unset] [(.int (0 : Int32)), (.ref b8), (.ref b8)])) rfl (hb hby at_7)
  obtain ⟨cl14, Ar14, q14, s14, n14, hh14, gg14⟩ := id (f_10)
  have hin14 : ¬ ((0 : Int32) < 0 ∨ cl14.slots.size ≤ ((0 : Int32)).toNatClampNeg) := inb_of s14 ⟨by decide, by decide⟩
  obtain ⟨T16, h16, X16, e16, W16, st16⟩ := stR X13 hx hZ e13 Ar14 (j := (0 : Int32)) hin14 rfl (Sto.ofV Ar14 q14 O8 (Ins.self (f_15.ext O_12.2))) (g := (mkF m 10 #[.val (.int p0), .unset, .unset, .unset] [(.ref w_VOID), (.int (0 : Int32)), (.ref b8), (.ref b8)])) rfl rfl (hb hby at_10)
  have ge_17 : n0 ≤ b8 := own_ge OLD (Nat.le_of_eq g8.symm)
  have N16 := Fr.snoc X16 N0 ge_17
  have f_18 : Arv Z h16 b8 k8 (.object "com/example/abstractor/abstractor/c/CType") (13 : Int32) [(.ref w_VOID), .null, .null, .null, .null, .null, .null, .null, .null, .null, .null, .null, .null] .null := Arv.set Ar14 q14 s14 n14 hh14 gg14 rfl W16 0 rfl (Nat.le_of_ble_eq_true rfl)
  have K_19 : Keep h0 h16 [] := K_9.wr W16 (Or.inr (Nat.le_trans (Keep.refl h0 []).1 (Nat.le_of_eq g8.symm)))
  have O_21 := Old.wr O_12 W16 ge_17
  obtain ⟨T22, X22, e22, st22⟩ := getS2 X16 hx hZ hown (host := "") (Or.inl (hw _ (List.mem_of_getElem? (i := 6) rfl))) Via.refl e16 (f_20.ext O_21.2) (g := (mkF m 13 #[.val (.int p0), .unset, .unset, .unset] [(.int (1 : Int32)), (.ref b8), (.ref b8)])) rfl (hb hby at_13)
  obtain ⟨cl23, Ar23, q23, s23, n23, hh23, gg23⟩ := id (f_18)
  have hin23 : ¬ ((1 : Int32) < 0 ∨ cl23.slots.size ≤ ((1 : Int32)).toNatClampNeg) := inb_of s23 ⟨by decide, by decide⟩
  obtain ⟨T25, h25, X25, e25, W25, st25⟩ := stR X22 hx hZ e22 Ar23 (j := (1 : Int32)) hin23 rfl (Sto.ofV Ar23 q23 O8 (Ins.self (f_24.ext O_21.2))) (g := (mkF m 16 #[.val (.int p0), .unset, .unset, .unset] [(.ref w_BOOL), (.int (1 : Int32)), (.ref b8), (.ref b8)])) rfl rfl (hb hby at_16)
  have N25 := Fr.snoc X25 N16 ge_17
  have f_26 : Arv Z h25 b8 k8 (.object "com/example/abstractor/abstractor/c/CType") (13 : Int32) [(.ref w_VOID), (.ref w_BOOL), .null, .null, .null, .null, .null, .null, .null, .null, .null, .null, .null] .null := Arv.set Ar23 q23 s23 n23 hh23 gg23 rfl W25 1 rfl (Nat.le_of_ble_eq_true rfl)
  have K_27 : Keep h0 h25 [] := K_19.wr W25 (Or.inr (Nat.le_trans (Keep.refl h0 []).1 (Nat.le_of_eq g8.symm)))
  have O_29 := Old.wr O_21 W25 ge_17
  obtain ⟨T30, X30, e30, st30⟩ := getS2 X25 hx hZ hown (host := "") (Or.inl (hw _ (List.mem_of_getElem? (i := 8) rfl))) Via.refl e25 (f_28.ext O_29.2) (g := (mkF m 19 #[.val (.int p0), .unset, .unset, .unset] [(.int (2 : Int32)), (.ref b8), (.ref b8)])) rfl (hb hby at_19)
  obtain ⟨cl31, Ar31, q31, s31, n31, hh31, gg31⟩ := id (f_26)
  have hin31 : ¬ ((2 : Int32) < 0 ∨ cl31.slots.size ≤ ((2 : Int32)).toNatClampNeg) := inb_of s31 ⟨by decide, by decide⟩
  obtain ⟨T33, h33, X33, e33, W33, st33⟩ := stR X30 hx hZ e30 Ar31 (j := (2 : Int32)) hin31 rfl (Sto.ofV Ar31 q31 O8 (Ins.self (f_32.ext O_29.2))) (g := (mkF m 22 #[.val (.int p0), .unset, .unset, .unset] [(.ref w_CHAR), (.int (2 : Int32)), (.ref b8), (.ref b8)])) rfl rfl (hb hby at_22)
  have N33 := Fr.snoc X33 N25 ge_17
  have f_34 : Arv Z h33 b8 k8 (.object "com/example/abstractor/abstractor/c/CType") (13 : Int32) [(.ref w_VOID), (.ref w_BOOL), (.ref w_CHAR), .null, .null, .null, .null, .null, .null, .null, .null, .null, .null] .null := Arv.set Ar31 q31 s31 n31 hh31 gg31 rfl W33 2 rfl (Nat.le_of_ble_eq_true rfl)
  have K_35 : Keep h0 h33 [] := K_27.wr W33 (Or.inr (Nat.le_trans (Keep.refl h0 []).1 (Nat.le_of_eq g8.symm)))
  have O_37 := Old.wr O_29 W33 ge_17
  obtain ⟨T38, X38, e38, st38⟩ := getS2 X33 hx hZ hown (host := "") (Or.inl (hw _ (List.mem_of_getElem? (i := 10) rfl))) Via.refl e33 (f_36.ext O_37.2) (g := (mkF m 25 #[.val (.int p0), .unset, .unset, .unset] [(.int (3 : Int32)), (.ref b8), (.ref b8)])) rfl (hb hby at_25)
  obtain ⟨cl39, Ar39, q39, s39, n39, hh39, gg39⟩ := id (f_34)
  have hin39 : ¬ ((3 : Int32) < 0 ∨ cl39.slots.size ≤ ((3 : Int32)).toNatClampNeg) := inb_of s39 ⟨by decide, by decide⟩
  obtain ⟨T41, h41, X41, e41, W41, st41⟩ := stR X38 hx hZ e38 Ar39 (j := (3 : Int32)) hin39 rfl (Sto.ofV Ar39 q39 O8 (Ins.self (f_40.ext O_37.2))) (g := (mkF m 28 #[.val (.int p0), .unset, .unset, .unset] [(.ref w_SIGNED_CHAR), (.int (3 : Int32)), (.ref b8), (.ref b8)])) rfl rfl (hb hby at_28)
  have N41 := Fr.snoc X41 N33 ge_17
  have f_42 : Arv Z h41 b8 k8 (.object "com/example/abstractor/abstractor/c/CType") (13 : Int32) [(.ref w_VOID), (.ref w_BOOL), (.ref w_CHAR), (.ref w_SIGNED_CHAR), .null, .null, .null, .null, .null, .null, .null, .null, .null] .null := Arv.set Ar39 q39 s39 n39 hh39 gg39 rfl W41 3 rfl (Nat.le_of_ble_eq_true rfl)
  have K_43 : Keep h0 h41 [] := K_35.wr W41 (Or.inr (Nat.le_trans (Keep.refl h0 []).1 (Nat.le_of_eq g8.symm)))
  have O_45 := Old.wr O_37 W41 ge_17
  obtain ⟨T46, X46, e46, st46⟩ := getS2 X41 hx hZ hown (host := "") (Or.inl (hw _ (List.mem_of_getElem? (i := 12) rfl))) Via.refl e41 (f_44.ext O_45.2) (g := (mkF m 31 #[.val (.int p0), .unset, .unset, .unset] [(.int (4 : Int32)), (.ref b8), (.ref b8)])) rfl (hb hby at_31)
  obtain ⟨cl47, Ar47, q47, s47, n47, hh47, gg47⟩ := id (f_42)
  have hin47 : ¬ ((4 : Int32) < 0 ∨ cl47.slots.size ≤ ((4 : Int32)).toNatClampNeg) := inb_of s47 ⟨by decide, by decide⟩
  obtain ⟨T49, h49, X49, e49, W49, st49⟩ := stR X46 hx hZ e46 Ar47 (j := (4 : Int32)) hin47 rfl (Sto.ofV Ar47 q47 O8 (Ins.self (f_48.ext O_45.2))) (g := (mkF m 34 #[.val (.int p0), .unset, .unset, .unset] [(.ref w_UNSIGNED_CHAR), (.int (4 : Int32)), (.ref b8), (.ref b8)])) rfl rfl (hb hby at_34)
  have N49 := Fr.snoc X49 N41 ge_17
  have f_50 : Arv Z h49 b8 k8 (.object "com/example/abstractor/abstractor/c/CType") (13 : Int32) [(.ref w_VOID), (.ref w_BOOL), (.ref w_CHAR), (.ref w_SIGNED_CHAR), (.ref w_UNSIGNED_CHAR), .null, .null, .null, .null, .null, .null, .null, .null] .null := Arv.set Ar47 q47 s47 n47 hh47 gg47 rfl W49 4 rfl (Nat.le_of_ble_eq_true rfl)
  have K_51 : Keep h0 h49 [] := K_43.wr W49 (Or.inr (Nat.le_trans (Keep.refl h0 []).1 (Nat.le_of_eq g8.symm)))
  have O_53 := Old.wr O_45 W49 ge_17
  obtain ⟨T54, X54, e54, st54⟩ := getS2 X49 hx hZ hown (host := "") (Or.inl (hw _ (List.mem_of_getElem? (i := 14) rfl))) Via.refl e49 (f_52.ext O_53.2) (g := (mkF m 37 #[.val (.int p0), .unset, .unset, .unset] [(.int (5 : Int32)), (.ref b8), (.ref b8)])) rfl (hb hby at_37)
  obtain ⟨cl55, Ar55, q55, s55, n55, hh55, gg55⟩ := id (f_50)
  have hin55 : ¬ ((5 : Int32) < 0 ∨ cl55.slots.size ≤ ((5 : Int32)).toNatClampNeg) := inb_of s55 ⟨by decide, by decide⟩
  obtain ⟨T57, h57, X57, e57, W57, st57⟩ := stR X54 hx hZ e54 Ar55 (j := (5 : Int32)) hin55 rfl (Sto.ofV Ar55 q55 O8 (Ins.self (f_56.ext O_53.2))) (g := (mkF m 40 #[.val (.int p0), .unset, .unset, .unset] [(.ref w_SHORT), (.int (5 : Int32)), (.ref b8), (.ref b8)])) rfl rfl (hb hby at_40)
  have N57 := Fr.snoc X57 N49 ge_17
  have f_58 : Arv Z h57 b8 k8 (.object "com/example/abstractor/abstractor/c/CType") (13 : Int32) [(.ref w_VOID), (.ref w_BOOL), (.ref w_CHAR), (.ref w_SIGNED_CHAR), (.ref w_UNSIGNED_CHAR), (.ref w_SHORT), .null, .null, .null, .null, .null, .null, .null] .null := Arv.set Ar55 q55 s55 n55 hh55 gg55 rfl W57 5 rfl (Nat.le_of_ble_eq_true rfl)
  have K_59 : Keep h0 h57 [] := K_51.wr W57 (Or.inr (Nat.le_trans (Keep.refl h0 []).1 (Nat.le_of_eq g8.symm)))
  have O_61 := Old.wr O_53 W57 ge_17
  obtain ⟨T62, X62, e62, st62⟩ := getS2 X57 hx hZ hown (host := "") (Or.inl (hw _ (List.mem_of_getElem? (i := 16) rfl))) Via.refl e57 (f_60.ext O_61.2) (g := (mkF m 44 #[.val (.int p0), .unset, .unset, .unset] [(.int (6 : Int32)), (.ref b8), (.ref b8)])) rfl (hb hby at_44)
  obtain ⟨cl63, Ar63, q63, s63, n63, hh63, gg63⟩ := id (f_58)
  have hin63 : ¬ ((6 : Int32) < 0 ∨ cl63.slots.size ≤ ((6 : Int32)).toNatClampNeg) := inb_of s63 ⟨by decide, by decide⟩
  obtain ⟨T65, h65, X65, e65, W65, st65⟩ := stR X62 hx hZ e62 Ar63 (j := (6 : Int32)) hin63 rfl (Sto.ofV Ar63 q63 O8 (Ins.self (f_64.ext O_61.2))) (g := (mkF m 47 #[.val (.int p0), .unset, .unset, .unset] [(.ref w_UNSIGNED_SHORT), (.int (6 : Int32)), (.ref b8), (.ref b8)])) rfl rfl (hb hby at_47)
  have N65 := Fr.snoc X65 N57 ge_17
  have f_66 : Arv Z h65 b8 k8 (.object "com/example/abstractor/abstractor/c/CType") (13 : Int32) [(.ref w_VOID), (.ref w_BOOL), (.ref w_CHAR), (.ref w_SIGNED_CHAR), (.ref w_UNSIGNED_CHAR), (.ref w_SHORT), (.ref w_UNSIGNED_SHORT), .null, .null, .null, .null, .null, .null] .null := Arv.set Ar63 q63 s63 n63 hh63 gg63 rfl W65 6 rfl (Nat.le_of_ble_eq_true rfl)
  have K_67 : Keep h0 h65 [] := K_59.wr W65 (Or.inr (Nat.le_trans (Keep.refl h0 []).1 (Nat.le_of_eq g8.symm)))
  have O_69 := Old.wr O_61 W65 ge_17
  obtain ⟨T70, X70, e70, st70⟩ := getS2 X65 hx hZ hown (host := "") (Or.inl (hw _ (List.mem_of_getElem? (i := 18) rfl))) Via.refl e65 (f_68.ext O_69.2) (g := (mkF m 51 #[.val (.int p0), .unset, .unset, .unset] [(.int (7 : Int32)), (.ref b8), (.ref b8)])) rfl (hb hby at_51)
  obtain ⟨cl71, Ar71, q71, s71, n71, hh71, gg71⟩ := id (f_66)
  have hin71 : ¬ ((7 : Int32) < 0 ∨ cl71.slots.size ≤ ((7 : Int32)).toNatClampNeg) := inb_of s71 ⟨by decide, by decide⟩
  obtain ⟨T73, h73, X73, e73, W73, st73⟩ := stR X70 hx hZ e70 Ar71 (j := (7 : Int32)) hin71 rfl (Sto.ofV Ar71 q71 O8 (Ins.self (f_72.ext O_69.2))) (g := (mkF m 54 #[.val (.int p0), .unset, .unset, .unset] [(.ref w_INT), (.int (7 : Int32)), (.ref b8), (.ref b8)])) rfl rfl (hb hby at_54)
  have N73 := Fr.snoc X73 N65 ge_17
  have f_74 : Arv Z h73 b8 k8 (.object "com/example/abstractor/abstractor/c/CType") (13 : Int32) [(.ref w_VOID), (.ref w_BOOL), (.ref w_CHAR), (.ref w_SIGNED_CHAR), (.ref w_UNSIGNED_CHAR), (.ref w_SHORT), (.ref w_UNSIGNED_SHORT), (.ref w_INT), .null, .null, .null, .null, .null] .null := Arv.set Ar71 q71 s71 n71 hh71 gg71 rfl W73 7 rfl (Nat.le_of_ble_eq_true rfl)
  have K_75 : Keep h0 h73 [] := K_67.wr W73 (Or.inr (Nat.le_trans (Keep.refl h0 []).1 (Nat.le_of_eq g8.symm)))
  have O_77 := Old.wr O_69 W73 ge_17
  obtain ⟨T78, X78, e78, st78⟩ := getS2 X73 hx hZ hown (host := "") (Or.inl (hw _ (List.mem_of_getElem? (i := 20) rfl))) Via.refl e73 (f_76.ext O_77.2) (g := (mkF m 58 #[.val (.int p0), .unset, .unset, .unset] [(.int (8 : Int32)), (.ref b8), (.ref b8)])) rfl (hb hby at_58)
  obtain ⟨cl79, Ar79, q79, s79, n79, hh79, gg79⟩ := id (f_74)
  have hin79 : ¬ ((8 : Int32) < 0 ∨ cl79.slots.size ≤ ((8 : Int32)).toNatClampNeg) := inb_of s79 ⟨by decide, by decide⟩
  obtain ⟨T81, h81, X81, e81, W81, st81⟩ := stR X78 hx hZ e78 Ar79 (j := (8 : Int32)) hin79 rfl (Sto.ofV Ar79 q79 O8 (Ins.self (f_80.ext O_77.2))) (g := (mkF m 61 #[.val (.int p0), .unset, .unset, .unset] [(.ref w_UNSIGNED_INT), (.int (8 : Int32)), (.ref b8), (.ref b8)])) rfl rfl (hb hby at_61)
  have N81 := Fr.snoc X81 N73 ge_17
  have f_82 : Arv Z h81 b8 k8 (.object "com/example/abstractor/abstractor/c/CType") (13 : Int32) [(.ref w_VOID), (.ref w_BOOL), (.ref w_CHAR), (.ref w_SIGNED_CHAR), (.ref w_UNSIGNED_CHAR), (.ref w_SHORT), (.ref w_UNSIGNED_SHORT), (.ref w_INT), (.ref w_UNSIGNED_INT), .null, .null, .null, .null] .null := Arv.set Ar79 q79 s79 n79 hh79 gg79 rfl W81 8 rfl (Nat.le_of_ble_eq_true rfl)
  have K_83 : Keep h0 h81 [] := K_75.wr W81 (Or.inr (Nat.le_trans (Keep.refl h0 []).1 (Nat.le_of_eq g8.symm)))
  have O_85 := Old.wr O_77 W81 ge_17
  obtain ⟨T86, X86, e86, st86⟩ := getS2 X81 hx hZ hown (host := "") (Or.inl (hw _ (List.mem_of_getElem? (i := 22) rfl))) Via.refl e81 (f_84.ext O_85.2) (g := (mkF m 65 #[.val (.int p0), .unset, .unset, .unset] [(.int (9 : Int32)), (.ref b8), (.ref b8)])) rfl (hb hby at_65)
  obtain ⟨cl87, Ar87, q87, s87, n87, hh87, gg87⟩ := id (f_82)
  have hin87 : ¬ ((9 : Int32) < 0 ∨ cl87.slots.size ≤ ((9 : Int32)).toNatClampNeg) := inb_of s87 ⟨by decide, by decide⟩
  obtain ⟨T89, h89, X89, e89, W89, st89⟩ := stR X86 hx hZ e86 Ar87 (j := (9 : Int32)) hin87 rfl (Sto.ofV Ar87 q87 O8 (Ins.self (f_88.ext O_85.2))) (g := (mkF m 68 #[.val (.int p0), .unset, .unset, .unset] [(.ref w_LONG), (.int (9 : Int32)), (.ref b8), (.ref b8)])) rfl rfl (hb hby at_68)
  have N89 := Fr.snoc X89 N81 ge_17
  have f_90 : Arv Z h89 b8 k8 (.object "com/example/abstractor/abstractor/c/CType") (13 : Int32) [(.ref w_VOID), (.ref w_BOOL), (.ref w_CHAR), (.ref w_SIGNED_CHAR), (.ref w_UNSIGNED_CHAR), (.ref w_SHORT), (.ref w_UNSIGNED_SHORT), (.ref w_INT), (.ref w_UNSIGNED_INT), (.ref w_LONG), .null, .null, .null] .null := Arv.set Ar87 q87 s87 n87 hh87 gg87 rfl W89 9 rfl (Nat.le_of_ble_eq_true rfl)
  have K_91 : Keep h0 h89 [] := K_83.wr W89 (Or.inr (Nat.le_trans (Keep.refl h0 []).1 (Nat.le_of_eq g8.symm)))
  have O_93 := Old.wr O_85 W89 ge_17
  obtain ⟨T94, X94, e94, st94⟩ := getS2 X89 hx hZ hown (host := "") (Or.inl (hw _ (List.mem_of_getElem? (i := 24) rfl))) Via.refl e89 (f_92.ext O_93.2) (g := (mkF m 72 #[.val (.int p0), .unset, .unset, .unset] [(.int (10 : Int32)), (.ref b8), (.ref b8)])) rfl (hb hby at_72)
  obtain ⟨cl95, Ar95, q95, s95, n95, hh95, gg95⟩ := id (f_90)
  have hin95 : ¬ ((10 : Int32) < 0 ∨ cl95.slots.size ≤ ((10 : Int32)).toNatClampNeg) := inb_of s95 ⟨by decide, by decide⟩
  obtain ⟨T97, h97, X97, e97, W97, st97⟩ := stR X94 hx hZ e94 Ar95 (j := (10 : Int32)) hin95 rfl (Sto.ofV Ar95 q95 O8 (Ins.self (f_96.ext O_93.2))) (g := (mkF m 75 #[.val (.int p0), .unset, .unset, .unset] [(.ref w_UNSIGNED_LONG), (.int (10 : Int32)), (.ref b8), (.ref b8)])) rfl rfl (hb hby at_75)
  have N97 := Fr.snoc X97 N89 ge_17
  have f_98 : Arv Z h97 b8 k8 (.object "com/example/abstractor/abstractor/c/CType") (13 : Int32) [(.ref w_VOID), (.ref w_BOOL), (.ref w_CHAR), (.ref w_SIGNED_CHAR), (.ref w_UNSIGNED_CHAR), (.ref w_SHORT), (.ref w_UNSIGNED_SHORT), (.ref w_INT), (.ref w_UNSIGNED_INT), (.ref w_LONG), (.ref w_UNSIGNED_LONG), .null, .null] .null := Arv.set Ar95 q95 s95 n95 hh95 gg95 rfl W97 10 rfl (Nat.le_of_ble_eq_true rfl)
  have K_99 : Keep h0 h97 [] := K_91.wr W97 (Or.inr (Nat.le_trans (Keep.refl h0 []).1 (Nat.le_of_eq g8.symm)))
  have O_101 := Old.wr O_93 W97 ge_17
  obtain ⟨T102, X102, e102, st102⟩ := getS2 X97 hx hZ hown (host := "") (Or.inl (hw _ (List.mem_of_getElem? (i := 26) rfl))) Via.refl e97 (f_100.ext O_101.2) (g := (mkF m 79 #[.val (.int p0), .unset, .unset, .unset] [(.int (11 : Int32)), (.ref b8), (.ref b8)])) rfl (hb hby at_79)
  obtain ⟨cl103, Ar103, q103, s103, n103, hh103, gg103⟩ := id (f_98)
  have hin103 : ¬ ((11 : Int32) < 0 ∨ cl103.slots.size ≤ ((11 : Int32)).toNatClampNeg) := inb_of s103 ⟨by decide, by decide⟩
  obtain ⟨T105, h105, X105, e105, W105, st105⟩ := stR X102 hx hZ e102 Ar103 (j := (11 : Int32)) hin103 rfl (Sto.ofV Ar103 q103 O8 (Ins.self (f_104.ext O_101.2))) (g := (mkF m 82 #[.val (.int p0), .unset, .unset, .unset] [(.ref w_LONG_LONG), (.int (11 : Int32)), (.ref b8), (.ref b8)])) rfl rfl (hb hby at_82)
  have N105 := Fr.snoc X105 N97 ge_17
  have f_106 : Arv Z h105 b8 k8 (.object "com/example/abstractor/abstractor/c/CType") (13 : Int32) [(.ref w_VOID), (.ref w_BOOL), (.ref w_CHAR), (.ref w_SIGNED_CHAR), (.ref w_UNSIGNED_CHAR), (.ref w_SHORT), (.ref w_UNSIGNED_SHORT), (.ref w_INT), (.ref w_UNSIGNED_INT), (.ref w_LONG), (.ref w_UNSIGNED_LONG), (.ref w_LONG_LONG), .null] .null := Arv.set Ar103 q103 s103 n103 hh103 gg103 rfl W105 11 rfl (Nat.le_of_ble_eq_true rfl)
  have K_107 : Keep h0 h105 [] := K_99.wr W105 (Or.inr (Nat.le_trans (Keep.refl h0 []).1 (Nat.le_of_eq g8.symm)))
  have O_109 := Old.wr O_101 W105 ge_17
  obtain ⟨T110, X110, e110, st110⟩ := getS2 X105 hx hZ hown (host := "") (Or.inl (hw _ (List.mem_of_getElem? (i := 28) rfl))) Via.refl e105 (f_108.ext O_109.2) (g := (mkF m 86 #[.val (.int p0), .unset, .unset, .unset] [(.int (12 : Int32)), (.ref b8), (.ref b8)])) rfl (hb hby at_86)
  obtain ⟨cl111, Ar111, q111, s111, n111, hh111, gg111⟩ := id (f_106)
  have hin111 : ¬ ((12 : Int32) < 0 ∨ cl111.slots.size ≤ ((12 : Int32)).toNatClampNeg) := inb_of s111 ⟨by decide, by decide⟩
  obtain ⟨T113, h113, X113, e113, W113, st113⟩ := stR X110 hx hZ e110 Ar111 (j := (12 : Int32)) hin111 rfl (Sto.ofV Ar111 q111 O8 (Ins.self (f_112.ext O_109.2))) (g := (mkF m 89 #[.val (.int p0), .unset, .unset, .unset] [(.ref w_UNSIGNED_LONG_LONG), (.int (12 : Int32)), (.ref b8), (.ref b8)])) rfl rfl (hb hby at_89)
  have N113 := Fr.snoc X113 N105 ge_17
  have f_114 : Arv Z h113 b8 k8 (.object "com/example/abstractor/abstractor/c/CType") (13 : Int32) [(.ref w_VOID), (.ref w_BOOL), (.ref w_CHAR), (.ref w_SIGNED_CHAR), (.ref w_UNSIGNED_CHAR), (.ref w_SHORT), (.ref w_UNSIGNED_SHORT), (.ref w_INT), (.ref w_UNSIGNED_INT), (.ref w_LONG), (.ref w_UNSIGNED_LONG), (.ref w_LONG_LONG), (.ref w_UNSIGNED_LONG_LONG)] .null := Arv.set Ar111 q111 s111 n111 hh111 gg111 rfl W113 12 rfl (Nat.le_of_ble_eq_true rfl)
  have K_115 : Keep h0 h113 [] := K_107.wr W113 (Or.inr (Nat.le_trans (Keep.refl h0 []).1 (Nat.le_of_eq g8.symm)))
  obtain ⟨cl116, Ar116, q116, s116, n116, hh116, gg116⟩ := id (f_114)
  have hin116 : ¬ (((p0 &&& (2147483647 : Int32)) % (13 : Int32)) < 0 ∨ cl116.slots.size ≤ (((p0 &&& (2147483647 : Int32)) % (13 : Int32))).toNatClampNeg) := inb_of s116 c_117
  have hat116 : cl116.slots[(((p0 &&& (2147483647 : Int32)) % (13 : Int32))).toNatClampNeg]? = some (.ref t) := hh116.at hin116 c_118
  have O_119 := Old.wr O_109 W113 ge_17
  obtain ⟨cq121, kq121, q121a, q121b, q121c⟩ := isOf hZ e113 (f_6.ext O_119.2)
  obtain ⟨_, _, ⟨T121, L121, k121, n121⟩, -, X121, ⟨Lc121, hQ121, l121, y121, z121⟩, st121⟩ := X113.virtualBack hx (y := (⟨"com/example/abstractor/abstractor/c/CType", "toUnsigned", "()Lcom/example/abstractor/abstractor/c/CType;"⟩ : MethodName)) (z := (⟨"com/example/abstractor/abstractor/c/CType", "toUnsigned", "()Lcom/example/abstractor/abstractor/c/CType;"⟩ : MethodName)) hown (mvT hZ (hw _ (List.mem_of_getElem? (i := 31) rfl))) (mvT hZ (hw _ (List.mem_of_getElem? (i := 32) rfl))) (notFace_of_selects (args := #[]) (mvT hZ (hw _ (List.mem_of_getElem? (i := 34) rfl)))) (mvT hZ (hw _ (List.mem_of_getElem? (i := 34) rfl))) (mvT hZ (hw _ (List.mem_of_getElem? (i := 33) rfl))) (by decide) (backOf (W := 0) (rm1s l Z A0 hw [] t od u w_UNSIGNED_CHAR w_UNSIGNED_SHORT w_UNSIGNED_INT w_UNSIGNED_LONG w_UNSIGNED_LONG_LONG h113 n0 O_119 (f_1.ext O_119.2) (f_6.ext O_119.2) f_44 f_60 f_76 f_92 f_108 c_120) hZ (hw _ (List.mem_of_getElem? (i := 35) rfl)) (hw _ (List.mem_of_getElem? (i := 3) rfl)) (by decide) (by decide)) q121a q121c (g := (mkF m 102 #[.val (.int p0), .val (.ref b8), .val (.ref t), .unset] [(.ref t)])) rfl (by rw [hml]; rfl) (Steps.refl _) (argsL := []) (rest := []) (lenOf pd_1 rfl) rfl (by show 2 * 0 + _ ≤ _; exact Nat.le_of_eq rfl) (hb hby at_102) (fun _ _ => ⟨rfl, e113, (by decide : 1 + 0 ≤ _), (by decide : 13 + 0 ≤ _)⟩)
  dsimp only [Pt.U, Pt.locs, Pt.cells, Pt.slots] at X121 l121 y121 z121 st121 hQ121
  subst l121 y121 z121
  obtain ⟨rfl, N121q, e121⟩ := hQ121
  have N121 := Fr.app N113 N121q
  obtain ⟨cq122, kq122, q122a, q122b, q122c⟩ := isOf hZ e121 (f_7.ext O_119.2)
  obtain ⟨_, _, ⟨T122, L122, k122, n122⟩, -, X122, ⟨Lc122, hQ122, l122, y122, z122⟩, st122⟩ := X121.virtualBack hx (y := (⟨"com/example/abstractor/abstractor/c/CType", "isSigned", "()Z"⟩ : MethodName)) (z := (⟨"com/example/abstractor/abstractor/c/CType", "isSigned", "()Z"⟩ : MethodName)) hown (mvT hZ (hw _ (List.mem_of_getElem? (i := 45) rfl))) (mvT hZ (hw _ (List.mem_of_getElem? (i := 46) rfl))) (notFace_of_selects (args := #[]) (mvT hZ (hw _ (List.mem_of_getElem? (i := 48) rfl)))) (mvT hZ (hw _ (List.mem_of_getElem? (i := 48) rfl))) (mvT hZ (hw _ (List.mem_of_getElem? (i := 47) rfl))) (by decide) (backOf (W := 0) (rm3 l Z A0 hw [] u (0 : Int32) h113 n0 O_119 (f_4.ext O_119.2)) hZ (hw _ (List.mem_of_getElem? (i := 49) rfl)) (hw _ (List.mem_of_getElem? (i := 3) rfl)) (by decide) (by decide)) q122a q122c (g := (mkF m 113 #[.val (.int p0), .val (.ref b8), .val (.ref t), .val (.ref u)] [(.ref u)])) rfl (by rw [hml]; rfl) (Steps.refl _) (argsL := []) (rest := []) (lenOf pd_2 rfl) rfl (by show 2 * 0 + _ ≤ _; exact Nat.le_of_eq rfl) (hb hby at_113) (fun _ _ => ⟨rfl, e121, (by decide : 1 + 0 ≤ _), (by decide : 13 + 0 ≤ _)⟩)
  dsimp only [Pt.U, Pt.locs, Pt.cells, Pt.slots] at X122 l122 y122 z122 st122 hQ122
  subst l122 y122 z122
  obtain ⟨rfl, N122q, e122⟩ := hQ122
  have N122 := Fr.app N121 N122q
  obtain ⟨cq123, kq123, q123a, q123b, q123c⟩ := isOf hZ e122 (f_7.ext O_119.2)
  obtain ⟨_, _, ⟨T123, L123, k123, n123⟩, -, X123, ⟨Lc123, hQ123, l123, y123, z123⟩, st123⟩ := X122.virtualBack hx (y := (⟨"com/example/abstractor/abstractor/c/CType", "getRank", "()I"⟩ : MethodName)) (z := (⟨"com/example/abstractor/abstractor/c/CType", "getRank", "()I"⟩ : MethodName)) hown (mvT hZ (hw _ (List.mem_of_getElem? (i := 52) rfl))) (mvT hZ (hw _ (List.mem_of_getElem? (i := 53) rfl))) (notFace_of_selects (args := #[]) (mvT hZ (hw _ (List.mem_of_getElem? (i := 55) rfl)))) (mvT hZ (hw _ (List.mem_of_getElem? (i := 55) rfl))) (mvT hZ (hw _ (List.mem_of_getElem? (i := 54) rfl))) (by decide) (backOf (W := 0) (rm4 l Z A0 hw [] u rk h113 n0 O_119 (f_5.ext O_119.2)) hZ (hw _ (List.mem_of_getElem? (i := 56) rfl)) (hw _ (List.mem_of_getElem? (i := 3) rfl)) (by decide) (by decide)) q123a q123c (g := (mkF m 122 #[.val (.int p0), .val (.ref b8), .val (.ref t), .val (.ref u)] [(.ref u)])) rfl (by rw [hml]; rfl) (Steps.refl _) (argsL := []) (rest := []) (lenOf pd_0 rfl) rfl (by show 2 * 0 + _ ≤ _; exact Nat.le_of_eq rfl) (hb hby at_122) (fun _ _ => ⟨rfl, e122, (by decide : 1 + 0 ≤ _), (by decide : 13 + 0 ≤ _)⟩)
  dsimp only [Pt.U, Pt.locs, Pt.cells, Pt.slots] at X123 l123 y123 z123 st123 hQ123
  subst l123 y123 z123
  obtain ⟨rfl, N123q, e123⟩ := hQ123
  have N123 := Fr.app N122 N123q
  obtain ⟨cq124, kq124, q124a, q124b, q124c⟩ := isOf hZ e123 (f_6.ext O_119.2)
  obtain ⟨_, _, ⟨T124, L124, k124, n124⟩, -, X124, ⟨Lc124, hQ124, l124, y124, z124⟩, st124⟩ := X123.virtualBack hx (y := (⟨"com/example/abstractor/abstractor/c/CType", "getRank", "()I"⟩ : MethodName)) (z := (⟨"com/example/abstractor/abstractor/c/CType", "getRank", "()I"⟩ : MethodName)) hown (mvT hZ (hw _ (List.mem_of_getElem? (i := 52) rfl))) (mvT hZ (hw _ (List.mem_of_getElem? (i := 53) rfl))) (notFace_of_selects (args := #[]) (mvT hZ (hw _ (List.mem_of_getElem? (i := 55) rfl)))) (mvT hZ (hw _ (List.mem_of_getElem? (i := 55) rfl))) (mvT hZ (hw _ (List.mem_of_getElem? (i := 54) rfl))) (by decide) (backOf (W := 1) (rm4 l Z A0 hw [] t rk h113 n0 O_119 (f_3.ext O_119.2)) hZ (hw _ (List.mem_of_getElem? (i := 56) rfl)) (hw _ (List.mem_of_getElem? (i := 3) rfl)) (by decide) (by decide)) q124a q124c (g := (mkF m 126 #[.val (.int p0), .val (.ref b8), .val (.ref t), .val (.ref u)] [(.ref t), (.int rk)])) rfl (by rw [hml]; rfl) (Steps.refl _) (argsL := []) (rest := [(.int rk)]) (lenOf pd_0 rfl) rfl (by show 2 * 0 + _ ≤ _; exact Nat.le_of_eq rfl) (hb hby at_126) (fun _ _ => ⟨rfl, e123, (by decide : 1 + 0 ≤ _), (by decide : 13 + 0 ≤ _)⟩)
  dsimp only [Pt.U, Pt.locs, Pt.cells, Pt.slots] at X124 l124 y124 z124 st124 hQ124
  subst l124 y124 z124
  obtain ⟨rfl, N124q, e124⟩ := hQ124
  have N124 := Fr.app N123 N124q
  obtain ⟨cq125, kq125, q125a, q125b, q125c⟩ := isOf hZ e124 (f_6.ext O_119.2)
  obtain ⟨_, _, ⟨T125, L125, k125, n125⟩, -, X125, ⟨Lc125, hQ125, l125, y125, z125⟩, st125⟩ := X124.virtualBack hx (y := (⟨"com/example/abstractor/abstractor/c/CType", "isSigned", "()Z"⟩ : MethodName)) (z := (⟨"com/example/abstractor/abstractor/c/CType", "isSigned", "()Z"⟩ : MethodName)) hown (mvT hZ (hw _ (List.mem_of_getElem? (i := 45) rfl))) (mvT hZ (hw _ (List.mem_of_getElem? (i := 46) rfl))) (notFace_of_selects (args := #[]) (mvT hZ (hw _ (List.mem_of_getElem? (i := 48) rfl)))) (mvT hZ (hw _ (List.mem_of_getElem? (i := 48) rfl))) (mvT hZ (hw _ (List.mem_of_getElem? (i := 47) rfl))) (by decide) (backOf (W := 0) (rm3 l Z A0 hw [] t (1 : Int32) h113 n0 O_119 (f_2.ext O_119.2)) hZ (hw _ (List.mem_of_getElem? (i := 49) rfl)) (hw _ (List.mem_of_getElem? (i := 3) rfl)) (by decide) (by decide)) q125a q125c (g := (mkF m 135 #[.val (.int p0), .val (.ref b8), .val (.ref t), .val (.ref u)] [(.ref t)])) rfl (by rw [hml]; rfl) (Steps.refl _) (argsL := []) (rest := []) (lenOf pd_2 rfl) rfl (by show 2 * 0 + _ ≤ _; exact Nat.le_of_eq rfl) (hb hby at_135) (fun _ _ => ⟨rfl, e124, (by decide : 1 + 0 ≤ _), (by decide : 13 + 0 ≤ _)⟩)
  dsimp only [Pt.U, Pt.locs, Pt.cells, Pt.slots] at X125 l125 y125 z125 st125 hQ125
  subst l125 y125 z125
  obtain ⟨rfl, N125q, e125⟩ := hQ125
  have N125 := Fr.app N124 N125q
  obtain ⟨fs, hr, hrun, hended, hW, hsame⟩ := X125.leave (v := some (.int (1 : Int32))) (fun h => by rw [Bd.returns] at h; cases h)
  refine ⟨_, _, pre0 _ ?_, hrun, hended, _, _, rfl, ?_, ⟨_, rfl⟩, hW, hsame.mono (by decide) (by decide)⟩
  · show Steps p.tables e below (s₁.setTop (mkF m 0 #[.val (.int p0), .unset, .unset, .unset] [])) _
    refine XS.bipush X0.here hx rfl (hb hby at_0) ?_
    show Steps p.tables e below (s₁.setTop (mkF m 2 #[.val (.int p0), .unset, .unset, .unset] [(.int (13 : Int32))])) _
    refine st8 _ ?_
    show Steps p.tables e below (T8.setTop (mkF m 5 #[.val (.int p0), .unset, .unset, .unset] [(.ref b8)])) _
    refine XS.dup X8.here hx rfl (hb hby at_5) rfl rfl ?_
    show Steps p.tables e below (T8.setTop (mkF m 6 #[.val (.int p0), .unset, .unset, .unset] [(.ref b8), (.ref b8)])) _
    refine XS.iconst X8.here hx rfl (hb hby at_6) ?_
    show Steps p.tables e below (T8.setTop (mkF m 7 #[.val (.int p0), .unset, .unset, .unset] [(.int (0 : Int32)), (.ref b8), (.ref b8)])) _
    refine st13 _ ?_
    show Steps p.tables e below (T13.setTop (mkF m 10 #[.val (.int p0), .unset, .unset, .unset] [(.ref w_VOID), (.int (0 : Int32)), (.ref b8), (.ref b8)])) _
    refine st16 _ ?_
    show Steps p.tables e below (T16.setTop (mkF m 11 #[.val (.int p0), .unset, .unset, .unset] [(.ref b8)])) _
    refine XS.dup X16.here hx rfl (hb hby at_11) rfl rfl ?_
    show Steps p.tables e below (T16.setTop (mkF m 12 #[.val (.int p0), .unset, .unset, .unset] [(.ref b8), (.ref b8)])) _
    refine XS.iconst X16.here hx rfl (hb hby at_12) ?_
    show Steps p.tables e below (T16.setTop (mkF m 13 #[.val (.int p0), .unset, .unset, .unset] [(.int (1 : Int32)), (.ref b8), (.ref b8)])) _
    refine st22 _ ?_
    show Steps p.tables e below (T22.setTop (mkF m 16 #[.val (.int p0), .unset, .unset, .unset] [(.ref w_BOOL), (.int (1 : Int32)), (.ref b8), (.ref b8)])) _
    refine st25 _ ?_
    show Steps p.tables e below (T25.setTop (mkF m 17 #[.val (.int p0), .unset, .unset, .unset] [(.ref b8)])) _
    refine XS.dup X25.here hx rfl (hb hby at_17) rfl rfl ?_
    show Steps p.tables e below (T25.setTop (mkF m 18 #[.val (.int p0), .unset, .unset, .unset] [(.ref b8), (.ref b8)])) _
    refine XS.iconst X25.here hx rfl (hb hby at_18) ?_
    show Steps p.tables e below (T25.setTop (mkF m 19 #[.val (.int p0), .unset, .unset, .unset] [(.int (2 : Int32)), (.ref b8), (.ref b8)])) _
    refine st30 _ ?_
    show Steps p.tables e below (T30.setTop (mkF m 22 #[.val (.int p0), .unset, .unset, .unset] [(.ref w_CHAR), (.int (2 : Int32)), (.ref b8), (.ref b8)])) _
    refine st33 _ ?_
    show Steps p.tables e below (T33.setTop (mkF m 23 #[.val (.int p0), .unset, .unset, .unset] [(.ref b8)])) _
    refine XS.dup X33.here hx rfl (hb hby at_23) rfl rfl ?_
    show Steps p.tables e below (T33.setTop (mkF m 24 #[.val (.int p0), .unset, .unset, .unset] [(.ref b8), (.ref b8)])) _
    refine XS.iconst X33.here hx rfl (hb hby at_24) ?_
    show Steps p.tables e below (T33.setTop (mkF m 25 #[.val (.int p0), .unset, .unset, .unset] [(.int (3 : Int32)), (.ref b8), (.ref b8)])) _
    refine st38 _ ?_
    show Steps p.tables e below (T38.setTop (mkF m 28 #[.val (.int p0), .unset, .unset, .unset] [(.ref w_SIGNED_CHAR), (.int (3 : Int32)), (.ref b8), (.ref b8)])) _
    refine st41 _ ?_
    show Steps p.tables e below (T41.setTop (mkF m 29 #[.val (.int p0), .unset, .unset, .unset] [(.ref b8)])) _
    refine XS.dup X41.here hx rfl (hb hby at_29) rfl rfl ?_
    show Steps p.tables e below (T41.setTop (mkF m 30 #[.val (.int p0), .unset, .unset, .unset] [(.ref b8), (.ref b8)])) _
    refine XS.iconst X41.here hx rfl (hb hby at_30) ?_
    show Steps p.tables e below (T41.setTop (mkF m 31 #[.val (.int p0), .unset, .unset, .unset] [(.int (4 : Int32)), (.ref b8), (.ref b8)])) _
    refine st46 _ ?_
    show Steps p.tables e below (T46.setTop (mkF m 34 #[.val (.int p0), .unset, .unset, .unset] [(.ref w_UNSIGNED_CHAR), (.int (4 : Int32)), (.ref b8), (.ref b8)])) _
    refine st49 _ ?_
    show Steps p.tables e below (T49.setTop (mkF m 35 #[.val (.int p0), .unset, .unset, .unset] [(.ref b8)])) _
    refine XS.dup X49.here hx rfl (hb hby at_35) rfl rfl ?_
    show Steps p.tables e below (T49.setTop (mkF m 36 #[.val (.int p0), .unset, .unset, .unset] [(.ref b8), (.ref b8)])) _
    refine XS.iconst X49.here hx rfl (hb hby at_36) ?_
    show Steps p.tables e below (T49.setTop (mkF m 37 #[.val (.int p0), .unset, .unset, .unset] [(.int (5 : Int32)), (.ref b8), (.ref b8)])) _
    refine st54 _ ?_
    show Steps p.tables e below (T54.setTop (mkF m 40 #[.val (.int p0), .unset, .unset, .unset] [(.ref w_SHORT), (.int (5 : Int32)), (.ref b8), (.ref b8)])) _
    refine st57 _ ?_
    show Steps p.tables e below (T57.setTop (mkF m 41 #[.val (.int p0), .unset, .unset, .unset] [(.ref b8)])) _
    refine XS.dup X57.here hx rfl (hb hby at_41) rfl rfl ?_
    show Steps p.tables e below (T57.setTop (mkF m 42 #[.val (.int p0), .unset, .unset, .unset] [(.ref b8), (.ref b8)])) _
    refine XS.bipush X57.here hx rfl (hb hby at_42) ?_
    show Steps p.tables e below (T57.setTop (mkF m 44 #[.val (.int p0), .unset, .unset, .unset] [(.int (6 : Int32)), (.ref b8), (.ref b8)])) _
    refine st62 _ ?_
    show Steps p.tables e below (T62.setTop (mkF m 47 #[.val (.int p0), .unset, .unset, .unset] [(.ref w_UNSIGNED_SHORT), (.int (6 : Int32)), (.ref b8), (.ref b8)])) _
    refine st65 _ ?_
    show Steps p.tables e below (T65.setTop (mkF m 48 #[.val (.int p0), .unset, .unset, .unset] [(.ref b8)])) _
    refine XS.dup X65.here hx rfl (hb hby at_48) rfl rfl ?_
    show Steps p.tables e below (T65.setTop (mkF m 49 #[.val (.int p0), .unset, .unset, .unset] [(.ref b8), (.ref b8)])) _
    refine XS.bipush X65.here hx rfl (hb hby at_49) ?_
    show Steps p.tables e below (T65.setTop (mkF m 51 #[.val (.int p0), .unset, .unset, .unset] [(.int (7 : Int32)), (.ref b8), (.ref b8)])) _
    refine st70 _ ?_
    show Steps p.tables e below (T70.setTop (mkF m 54 #[.val (.int p0), .unset, .unset, .unset] [(.ref w_INT), (.int (7 : Int32)), (.ref b8), (.ref b8)])) _
    refine st73 _ ?_
    show Steps p.tables e below (T73.setTop (mkF m 55 #[.val (.int p0), .unset, .unset, .unset] [(.ref b8)])) _
    refine XS.dup X73.here hx rfl (hb hby at_55) rfl rfl ?_
    show Steps p.tables e below (T73.setTop (mkF m 56 #[.val (.int p0), .unset, .unset, .unset] [(.ref b8), (.ref b8)])) _
    refine XS.bipush X73.here hx rfl (hb hby at_56) ?_
    show Steps p.tables e below (T73.setTop (mkF m 58 #[.val (.int p0), .unset, .unset, .unset] [(.int (8 : Int32)), (.ref b8), (.ref b8)])) _
    refine st78 _ ?_
    show Steps p.tables e below (T78.setTop (mkF m 61 #[.val (.int p0), .unset, .unset, .unset] [(.ref w_UNSIGNED_INT), (.int (8 : Int32)), (.ref b8), (.ref b8)])) _
    refine st81 _ ?_
    show Steps p.tables e below (T81.setTop (mkF m 62 #[.val (.int p0), .unset, .unset, .unset] [(.ref b8)])) _
    refine XS.dup X81.here hx rfl (hb hby at_62) rfl rfl ?_
    show Steps p.tables e below (T81.setTop (mkF m 63 #[.val (.int p0), .unset, .unset, .unset] [(.ref b8), (.ref b8)])) _
    refine XS.bipush X81.here hx rfl (hb hby at_63) ?_
    show Steps p.tables e below (T81.setTop (mkF m 65 #[.val (.int p0), .unset, .unset, .unset] [(.int (9 : Int32)), (.ref b8), (.ref b8)])) _
    refine st86 _ ?_
    show Steps p.tables e below (T86.setTop (mkF m 68 #[.val (.int p0), .unset, .unset, .unset] [(.ref w_LONG), (.int (9 : Int32)), (.ref b8), (.ref b8)])) _
    refine st89 _ ?_
    show Steps p.tables e below (T89.setTop (mkF m 69 #[.val (.int p0), .unset, .unset, .unset] [(.ref b8)])) _
    refine XS.dup X89.here hx rfl (hb hby at_69) rfl rfl ?_
    show Steps p.tables e below (T89.setTop (mkF m 70 #[.val (.int p0), .unset, .unset, .unset] [(.ref b8), (.ref b8)])) _
    refine XS.bipush X89.here hx rfl (hb hby at_70) ?_
    show Steps p.tables e below (T89.setTop (mkF m 72 #[.val (.int p0), .unset, .unset, .unset] [(.int (10 : Int32)), (.ref b8), (.ref b8)])) _
    refine st94 _ ?_
    show Steps p.tables e below (T94.setTop (mkF m 75 #[.val (.int p0), .unset, .unset, .unset] [(.ref w_UNSIGNED_LONG), (.int (10 : Int32)), (.ref b8), (.ref b8)])) _
    refine st97 _ ?_
    show Steps p.tables e below (T97.setTop (mkF m 76 #[.val (.int p0), .unset, .unset, .unset] [(.ref b8)])) _
    refine XS.dup X97.here hx rfl (hb hby at_76) rfl rfl ?_
    show Steps p.tables e below (T97.setTop (mkF m 77 #[.val (.int p0), .unset, .unset, .unset] [(.ref b8), (.ref b8)])) _
    refine XS.bipush X97.here hx rfl (hb hby at_77) ?_
    show Steps p.tables e below (T97.setTop (mkF m 79 #[.val (.int p0), .unset, .unset, .unset] [(.int (11 : Int32)), (.ref b8), (.ref b8)])) _
    refine st102 _ ?_
    show Steps p.tables e below (T102.setTop (mkF m 82 #[.val (.int p0), .unset, .unset, .unset] [(.ref w_LONG_LONG), (.int (11 : Int32)), (.ref b8), (.ref b8)])) _
    refine st105 _ ?_
    show Steps p.tables e below (T105.setTop (mkF m 83 #[.val (.int p0), .unset, .unset, .unset] [(.ref b8)])) _
    refine XS.dup X105.here hx rfl (hb hby at_83) rfl rfl ?_
    show Steps p.tables e below (T105.setTop (mkF m 84 #[.val (.int p0), .unset, .unset, .unset] [(.ref b8), (.ref b8)])) _
    refine XS.bipush X105.here hx rfl (hb hby at_84) ?_
    show Steps p.tables e below (T105.setTop (mkF m 86 #[.val (.int p0), .unset, .unset, .unset] [(.int (12 : Int32)), (.ref b8), (.ref b8)])) _
    refine st110 _ ?_
    show Steps p.tables e below (T110.setTop (mkF m 89 #[.val (.int p0), .unset, .unset, .unset] [(.ref w_UNSIGNED_LONG_LONG), (.int (12 : Int32)), (.ref b8), (.ref b8)])) _
    refine st113 _ ?_
    show Steps p.tables e below (T113.setTop (mkF m 90 #[.val (.int p0), .unset, .unset, .unset] [(.ref b8)])) _
    refine XS.astoreN X113.here hx rfl (hb hby at_90) rfl rfl (l' := #[.val (.int p0), .val (.ref b8), .unset, .unset]) rfl ?_
    show Steps p.tables e below (T113.setTop (mkF m 91 #[.val (.int p0), .val (.ref b8), .unset, .unset] [])) _
    refine XS.aloadN X113.here hx rfl (hb hby at_91) rfl rfl ?_
    show Steps p.tables e below (T113.setTop (mkF m 92 #[.val (.int p0), .val (.ref b8), .unset, .unset] [(.ref b8)])) _
    refine XS.iloadN X113.here hx rfl (hb hby at_92) rfl ?_
    show Steps p.tables e below (T113.setTop (mkF m 93 #[.val (.int p0), .val (.ref b8), .unset, .unset] [(.int p0), (.ref b8)])) _
    refine X113.ldcInt hx hown (mvT hZ (hw _ (List.mem_of_getElem? (i := 30) rfl))) (g := (mkF m 93 #[.val (.int p0), .val (.ref b8), .unset, .unset] [(.int p0), (.ref b8)])) rfl (hb hby at_93) _ ?_
    show Steps p.tables e below (T113.setTop (mkF m 95 #[.val (.int p0), .val (.ref b8), .unset, .unset] [(.int (2147483647 : Int32)), (.int p0), (.ref b8)])) _
    refine XS.iand X113.here hx rfl (hb hby at_95) rfl ?_
    show Steps p.tables e below (T113.setTop (mkF m 96 #[.val (.int p0), .val (.ref b8), .unset, .unset] [(.int (p0 &&& (2147483647 : Int32))), (.ref b8)])) _
    refine XS.bipush X113.here hx rfl (hb hby at_96) ?_
    show Steps p.tables e below (T113.setTop (mkF m 98 #[.val (.int p0), .val (.ref b8), .unset, .unset] [(.int (13 : Int32)), (.int (p0 &&& (2147483647 : Int32))), (.ref b8)])) _
    refine iremM (g := (mkF m 98 #[.val (.int p0), .val (.ref b8), .unset, .unset] [(.int (13 : Int32)), (.int (p0 &&& (2147483647 : Int32))), (.ref b8)])) X113 hx rfl (hb hby at_98) rfl (by decide) ?_
    show Steps p.tables e below (T113.setTop (mkF m 99 #[.val (.int p0), .val (.ref b8), .unset, .unset] [(.int ((p0 &&& (2147483647 : Int32)) % (13 : Int32))), (.ref b8)])) _
    refine X113.aaload hx (j := ((p0 &&& (2147483647 : Int32)) % (13 : Int32))) (v := (.ref t)) (by rw [e113]; exact Ar116.1) (State.isArrayOf_alike hZ.alike Ar116.2.1) rfl Ar116.2.2 hin116 hat116 (g := (mkF m 99 #[.val (.int p0), .val (.ref b8), .unset, .unset] [(.int ((p0 &&& (2147483647 : Int32)) % (13 : Int32))), (.ref b8)])) rfl rfl (hb hby at_99) _ ?_
    show Steps p.tables e below (T113.setTop (mkF m 100 #[.val (.int p0), .val (.ref b8), .unset, .unset] [(.ref t)])) _
    refine XS.astoreN X113.here hx rfl (hb hby at_100) rfl rfl (l' := #[.val (.int p0), .val (.ref b8), .val (.ref t), .unset]) rfl ?_
    show Steps p.tables e below (T113.setTop (mkF m 101 #[.val (.int p0), .val (.ref b8), .val (.ref t), .unset] [])) _
    refine XS.aloadN X113.here hx rfl (hb hby at_101) rfl rfl ?_
    show Steps p.tables e below (T113.setTop (mkF m 102 #[.val (.int p0), .val (.ref b8), .val (.ref t), .unset] [(.ref t)])) _
    refine st121.trans ?_
    show Steps p.tables e below (T121.setTop (mkF m 105 #[.val (.int p0), .val (.ref b8), .val (.ref t), .unset] [(.ref u)])) _
    refine XS.astoreN X121.here hx rfl (hb hby at_105) rfl rfl (l' := #[.val (.int p0), .val (.ref b8), .val (.ref t), .val (.ref u)]) rfl ?_
    show Steps p.tables e below (T121.setTop (mkF m 106 #[.val (.int p0), .val (.ref b8), .val (.ref t), .val (.ref u)] [])) _
    refine XS.aloadN X121.here hx rfl (hb hby at_106) rfl rfl ?_
    show Steps p.tables e below (T121.setTop (mkF m 107 #[.val (.int p0), .val (.ref b8), .val (.ref t), .val (.ref u)] [(.ref u)])) _
    refine XS.ifnonnullYes X121.here hx rfl (pc0 := 107) (pc' := 112) rfl (hb hby at_107) rfl (by decide) (by decide) ?_
    show Steps p.tables e below (T121.setTop (mkF m 112 #[.val (.int p0), .val (.ref b8), .val (.ref t), .val (.ref u)] [])) _
    refine XS.aloadN X121.here hx rfl (hb hby at_112) rfl rfl ?_
    show Steps p.tables e below (T121.setTop (mkF m 113 #[.val (.int p0), .val (.ref b8), .val (.ref t), .val (.ref u)] [(.ref u)])) _
    refine st122.trans ?_
    show Steps p.tables e below (T122.setTop (mkF m 116 #[.val (.int p0), .val (.ref b8), .val (.ref t), .val (.ref u)] [(.int (0 : Int32))])) _
    refine XS.ifYes X122.here hx rfl (pc0 := 116) (pc' := 121) rfl (hb hby at_116) rfl ((if0 _ _).trans (teq (by decide : (0 : Int32) = (0 : Int32))).1) (by decide) (by decide) ?_
    show Steps p.tables e below (T122.setTop (mkF m 121 #[.val (.int p0), .val (.ref b8), .val (.ref t), .val (.ref u)] [])) _
    refine XS.aloadN X122.here hx rfl (hb hby at_121) rfl rfl ?_
    show Steps p.tables e below (T122.setTop (mkF m 122 #[.val (.int p0), .val (.ref b8), .val (.ref t), .val (.ref u)] [(.ref u)])) _
    refine st123.trans ?_
    show Steps p.tables e below (T123.setTop (mkF m 125 #[.val (.int p0), .val (.ref b8), .val (.ref t), .val (.ref u)] [(.int rk)])) _
    refine XS.aloadN X123.here hx rfl (hb hby at_125) rfl rfl ?_
    show Steps p.tables e below (T123.setTop (mkF m 126 #[.val (.int p0), .val (.ref b8), .val (.ref t), .val (.ref u)] [(.ref t), (.int rk)])) _
    refine st124.trans ?_
    show Steps p.tables e below (T124.setTop (mkF m 129 #[.val (.int p0), .val (.ref b8), .val (.ref t), .val (.ref u)] [(.int rk), (.int rk)])) _
    refine XS.icmpYes X124.here hx rfl (pc0 := 129) (pc' := 134) rfl (hb hby at_129) rfl (teq (rfl : rk = rk)).1 (by decide) (by decide) ?_
    show Steps p.tables e below (T124.setTop (mkF m 134 #[.val (.int p0), .val (.ref b8), .val (.ref t), .val (.ref u)] [])) _
    refine XS.aloadN X124.here hx rfl (hb hby at_134) rfl rfl ?_
    show Steps p.tables e below (T124.setTop (mkF m 135 #[.val (.int p0), .val (.ref b8), .val (.ref t), .val (.ref u)] [(.ref t)])) _
    refine st125.trans ?_
    show Steps p.tables e below (T125.setTop (mkF m 138 #[.val (.int p0), .val (.ref b8), .val (.ref t), .val (.ref u)] [(.int (1 : Int32))])) _
    refine XS.ifYes X125.here hx rfl (pc0 := 138) (pc' := 148) rfl (hb hby at_138) rfl ((if0 _ _).trans (feq (by decide : ¬ ((1 : Int32) = (0 : Int32)))).2) (by decide) (by decide) ?_
    show Steps p.tables e below (T125.setTop (mkF m 148 #[.val (.int p0), .val (.ref b8), .val (.ref t), .val (.ref u)] [])) _
    refine XS.iconst X125.here hx rfl (hb hby at_148) ?_
    show Steps p.tables e below (T125.setTop (mkF m 149 #[.val (.int p0), .val (.ref b8), .val (.ref t), .val (.ref u)] [(.int (1 : Int32))])) _
    exact retN X125 hx (t := .boolean) Bd.returns (by simp) (hb hby at_149) hr
  · show Q0s Z t u od rk p0 w_VOID w_BOOL w_CHAR w_SIGNED_CHAR w_UNSIGNED_CHAR w_SHORT w_UNSIGNED_SHORT w_INT w_UNSIGNED_INT w_LONG w_UNSIGNED_LONG w_LONG_LONG w_UNSIGNED_LONG_LONG h0 n0 _ T125.heap _
    exact ⟨rfl, N125⟩
def Q0u (Z : State) (t : Addr) (od : Int32) (rk : Int32) (p0 : Int32) (w_VOID : Addr) (w_BOOL : Addr) (w_CHAR : Addr) (w_SIGNED_CHAR : Addr) (w_UNSIGNED_CHAR : Addr) (w_SHORT : Addr) (w_UNSIGNED_SHORT : Addr) (w_INT : Addr) (w_UNSIGNED_INT : Addr) (w_LONG : Addr) (w_UNSIGNED_LONG : Addr) (w_LONG_LONG : Addr) (w_UNSIGNED_LONG_LONG : Addr) (h0 : Heap) (n0 : Nat) (v : Option Value) (h : Heap) (L : List Loc) : Prop := v = some (.int (1 : Int32)) ∧ Fr n0 L
set_option maxRecDepth 65536 in
set_option maxHeartbeats 40000000 in
theorem rm0u (l : Launch) (Z : State) (A0 : Array Value) (hw : ∀ d ∈ tables_1, d.before A0 Z = true) (ws : List Jvm.Cond) (t : Addr) (od : Int32) (rk : Int32) (p0 : Int32) (w_VOID : Addr) (w_BOOL : Addr) (w_CHAR : Addr) (w_SIGNED_CHAR : Addr) (w_UNSIGNED_CHAR : Addr) (w_SHORT : Addr) (w_UNSIGNED_SHORT : Addr) (w_INT : Addr) (w_UNSIGNED_INT : Addr) (w_LONG : Addr) (w_UNSIGNED_LONG : Addr) (w_LONG_LONG : Addr) (w_UNSIGNED_LONG_LONG : Addr) (h0 : Heap) (n0 : Nat) (OLD : Old Z n0 h0) (f_1 : Fld Z Z.heap t "java/lang/Enum" "ordinal" "I" (.int od)) (f_2 : Fld Z Z.heap t "com/example/abstractor/abstractor/c/CType" "signed" "Z" (.int (0 : Int32))) (f_3 : Fld Z Z.heap t "com/example/abstractor/abstractor/c/CType" "rank" "I" (.int rk)) (f_4 : Exa Z Z.heap t "com/example/abstractor/abstractor/c/CType") (f_8 : Sta Z Z.heap "com/example/abstractor/abstractor/c/CType" "VOID" "Lcom/example/abstractor/abstractor/c/CType;" (.ref w_VOID)) (f_12 : Exa Z Z.heap w_VOID "com/example/abstractor/abstractor/c/CType") (f_17 : Sta Z Z.heap "com/example/abstractor/abstractor/c/CType" "BOOL" "Lcom/example/abstractor/abstractor/c/CType;" (.ref w_BOOL)) (f_21 : Exa Z Z.heap w_BOOL "com/example/abstractor/abstractor/c/CType") (f_25 : Sta Z Z.heap "com/example/abstractor/abstractor/c/CType" "CHAR" "Lcom/example/abstractor/abstractor/c/CType;" (.ref w_CHAR)) (f_29 : Exa Z Z.heap w_CHAR "com/example/abstractor/abstractor/c/CType") (f_33 : Sta Z Z.heap "com/example/abstractor/abstractor/c/CType" "SIGNED_CHAR" "Lcom/example/abstractor/abstractor/c/CType;" (.ref w_SIGNED_CHAR)) (f_37 : Exa Z Z.heap w_SIGNED_CHAR "com/example/abstractor/abstractor/c/CType") (f_41 : Sta Z Z.heap "com/example/abstractor/abstractor/c/CType" "UNSIGNED_CHAR" "Lcom/example/abstractor/abstractor/c/CType;" (.ref w_UNSIGNED_CHAR)) (f_45 : Exa Z Z.heap w_UNSIGNED_CHAR "com/example/abstractor/abstractor/c/CType") (f_49 : Sta Z Z.heap "com/example/abstractor/abstractor/c/CType" "SHORT" "Lcom/example/abstractor/abstractor/c/CType;" (.ref w_SHORT)) (f_53 : Exa Z Z.heap w_SHORT "com/example/abstractor/abstractor/c/CType") (f_57 : Sta Z Z.heap "com/example/abstractor/abstractor/c/CType" "UNSIGNED_SHORT" "Lcom/example/abstractor/abstractor/c/CType;" (.ref w_UNSIGNED_SHORT)) (f_61 : Exa Z Z.heap w_UNSIGNED_SHORT "com/example/abstractor/abstractor/c/CType") (f_65 : Sta Z Z.heap "com/example/abstractor/abstractor/c/CType" "INT" "Lcom/example/abstractor/abstractor/c/CType;" (.ref w_INT)) (f_69 : Exa Z Z.heap w_INT "com/example/abstractor/abstractor/c/CType") (f_73 : Sta Z Z.heap "com/example/abstractor/abstractor/c/CType" "UNSIGNED_INT" "Lcom/example/abstractor/abstractor/c/CType;" (.ref w_UNSIGNED_INT)) (f_77 : Exa Z Z.heap w_UNSIGNED_INT "com/example/abstractor/abstractor/c/CType") (f_81 : Sta Z Z.heap "com/example/abstractor/abstractor/c/CType" "LONG" "Lcom/example/abstractor/abstractor/c/CType;" (.ref w_LONG)) (f_85 : Exa Z Z.heap w_LONG "com/example/abstractor/abstractor/c/CType") (f_89 : Sta Z Z.heap "com/example/abstractor/abstractor/c/CType" "UNSIGNED_LONG" "Lcom/example/abstractor/abstractor/c/CType;" (.ref w_UNSIGNED_LONG)) (f_93 : Exa Z Z.heap w_UNSIGNED_LONG "com/example/abstractor/abstractor/c/CType") (f_97 : Sta Z Z.heap "com/example/abstractor/abstractor/c/CType" "LONG_LONG" "Lcom/example/abstractor/abstractor/c/CType;" (.ref w_LONG_LONG)) (f_101 : Exa Z Z.heap w_LONG_LONG "com/example/abstractor/abstractor/c/CType") (f_105 : Sta Z Z.heap "com/example/abstractor/abstractor/c/CType" "UNSIGNED_LONG_LONG" "Lcom/example/abstractor/abstractor/c/CType;" (.ref w_UNSIGNED_LONG_LONG)) (f_109 : Exa Z Z.heap w_UNSIGNED_LONG_LONG "com/example/abstractor/abstractor/c/CType") (c_114 : ¬ ((p0 &&& (2147483647 : Int32)) % (13 : Int32)) < 0 ∧ ((p0 &&& (2147483647 : Int32)) % (13 : Int32)) < (13 : Int32)) (c_115 : ([(.ref w_VOID), (.ref w_BOOL), (.ref w_CHAR), (.ref w_SIGNED_CHAR), (.ref w_UNSIGNED_CHAR), (.ref w_SHORT), (.ref w_UNSIGNED_SHORT), (.ref w_INT), (.ref w_UNSIGNED_INT), (.ref w_LONG), (.ref w_UNSIGNED_LONG), (.ref w_LONG_LONG), (.ref w_UNSIGNED_LONG_LONG)] : List Value).getD (((p0 &&& (2147483647 : Int32)) % (13 : Int32))).toNatClampNeg .null = (.ref t)) (c_117 : od = (0 : Int32) ∨ od = (1 : Int32) ∨ od = (4 : Int32) ∨ od = (6 : Int32) ∨ od = (8 : Int32) ∨ od = (10 : Int32) ∨ od = (12 : Int32)) :
    MetFree l x (head1 (Jvm.Cond.code x code maxLocals ret :: ws) room_1) (fun a U => a = #[(.int p0)] ∧ Z.Warmed39 U.vm ∧ U.heap = h0) (fun _ _ _ _ _ => True) (fun _ U o U' => ∃ v L, o = .returned v ∧ Q0u Z t od rk p0 w_VOID w_BOOL w_CHAR w_SIGNED_CHAR w_UNSIGNED_CHAR w_SHORT w_UNSIGNED_SHORT w_INT w_UNSIGNED_INT w_LONG w_UNSIGNED_LONG w_LONG_LONG w_UNSIGNED_LONG_LONG h0 n0 v U'.heap L ∧ FrameEnd U o U' L room_1.cells room_1.slots) := by
  refine MetFree.of_bodySF (plainFor_of_name pn_com_example_abstractor_abstractor_c_CTypeToUnsignedPinLaw) hisR ?_
  intro p e s m args below meth c s₁ Bd hml0 hP hK
  obtain ⟨rfl, hZ, hh⟩ := hP
  have hx := Bd.exec
  have hby := Bd.bytes
  have hml : c.maxLocals = 4 := hml0
  have hown : s.vm.findClass "com/example/abstractor/abstractor/c/CTypeToUnsignedPinLaw" = some m.cls := findClass_of_methodNamed Bd.named
  have hnm := (name_of_methodNamed Bd.named Bd.method).1
  have X0 : Stand p l e room_1 s m #[(.int p0)] below meth c s₁ [] 0 0 := Stand.of_body Bd
  have e0 : s₁.heap = h0 := by rw [← hh, Bd.state]; rfl
  have N0 := Fr.nil n0
  have pre0 : ∀ t, Steps p.tables e below (s₁.setTop (mkF m 0 #[.val (.int p0), .unset, .unset, .unset] [])) t → Steps p.tables e below (s₁.setTop (entryFrame m #[(.int p0)] maxLocals)) t := fun t k => castTop (ef_0 m p0) k
  obtain ⟨T5, h5, k5, X5, e5, E5, A5, B5, O5, st5⟩ := newRE X0 hx hZ hown (hw _ (List.mem_of_getElem? (i := 0) rfl)) (hw _ (List.mem_of_getElem? (i := 1) rfl)) e0 (g := (mkF m 2 #[.val (.int p0), .unset, .unset, .unset] [(.int (13 : Int32))])) rfl (hb hby at_2) rfl (by decide) (cap := 13) (by decide) (by decide) (by decide) (by decide) (ad := "[Lcom/example/abstractor/abstractor/c/CType;") (by decide)
  obtain ⟨b5, g5⟩ : ∃ z, z = h0.size := ⟨_, rfl⟩
  rw [← g5] at A5 B5 st5
  have K_6 : Keep h0 h5 [] := (Keep.refl h0 []).ext E5
  have f_7 : Arv Z h5 b5 k5 (.object "com/example/abstractor/abstractor/c/CType") (13 : Int32) [.null, .null, .null, .null, .null, .null, .null, .null, .null, .null, .null, .null, .null] .null := (Arv.new A5 (by decide)).pad (pad_rep [] .null 13)
  have O_9 := Old.ext OLD E5
  obtain ⟨T10, X10, e10, st10⟩ := getS2 X5 hx hZ hown (host := "") (Or.inl (hw _ (List.mem_of_getElem? (i := 2) rfl))) Via.refl e5 (f_8.ext O_9.2) (g := (mkF m 7 #[.val (.int p0), .unset, .unset, .unset] [(.int (0 : Int32)), (.ref b5), (.ref b5)])) rfl (hb hby at_7)
  obtain ⟨cl11, Ar11, q11, s11, n11, hh11, gg11⟩ := id (f_7)
  have hin11 : ¬ ((0 : Int32) < 0 ∨ cl11.slots.size ≤ ((0 : Int32)).toNatClampNeg) := inb_of s11 ⟨by decide, by decide⟩
  obtain ⟨T13, h13, X13, e13, W13, st13⟩ := stR X10 hx hZ e10 Ar11 (j := (0 : Int32)) hin11 rfl (Sto.ofV Ar11 q11 O5 (Ins.self (f_12.ext O_9.2))) (g := (mkF m 10 #[.val (.int p0), .unset, .unset, .unset] [(.ref w_VOID), (.int (0 : Int32)), (.ref b5), (.ref b5)])) rfl rfl (hb hby at_10)
  have ge_14 : n0 ≤ b5 := own_ge OLD (Nat.le_of_eq g5.symm)
  have N13 := Fr.snoc X13 N0 ge_14
  have f_15 : Arv Z h13 b5 k5 (.object "com/example/abstractor/abstractor/c/CType") (13 : Int32) [(.ref w_VOID), .null, .null, .null, .null, .null, .null, .null, .null, .null, .null, .null, .null] .null := Arv.set Ar11 q11 s11 n11 hh11 gg11 rfl W13 0 rfl (Nat.le_of_ble_eq_true rfl)
  have K_16 : Keep h0 h13 [] := K_6.wr W13 (Or.inr (Nat.le_trans (Keep.refl h0 []).1 (Nat.le_of_eq g5.symm)))
  have O_18 := Old.wr O_9 W13 ge_14
  obtain ⟨T19, X19, e19, st19⟩ := getS2 X13 hx hZ hown (host := "") (Or.inl (hw _ (List.mem_of_getElem? (i := 6) rfl))) Via.refl e13 (f_17.ext O_18.2) (g := (mkF m 13 #[.val (.int p0), .unset, .unset, .unset] [(.int (1 : Int32)), (.ref b5), (.ref b5)])) rfl (hb hby at_13)
  obtain ⟨cl20, Ar20, q20, s20, n20, hh20, gg20⟩ := id (f_15)
  have hin20 : ¬ ((1 : Int32) < 0 ∨ cl20.slots.size ≤ ((1 : Int32)).toNatClampNeg) := inb_of s20 ⟨by decide, by decide⟩
  obtain ⟨T22, h22, X22, e22, W22, st22⟩ := stR X19 hx hZ e19 Ar20 (j := (1 : Int32)) hin20 rfl (Sto.ofV Ar20 q20 O5 (Ins.self (f_21.ext O_18.2))) (g := (mkF m 16 #[.val (.int p0), .unset, .unset, .unset] [(.ref w_BOOL), (.int (1 : Int32)), (.ref b5), (.ref b5)])) rfl rfl (hb hby at_16)
  have N22 := Fr.snoc X22 N13 ge_14
  have f_23 : Arv Z h22 b5 k5 (.object "com/example/abstractor/abstractor/c/CType") (13 : Int32) [(.ref w_VOID), (.ref w_BOOL), .null, .null, .null, .null, .null, .null, .null, .null, .null, .null, .null] .null := Arv.set Ar20 q20 s20 n20 hh20 gg20 rfl W22 1 rfl (Nat.le_of_ble_eq_true rfl)
  have K_24 : Keep h0 h22 [] := K_16.wr W22 (Or.inr (Nat.le_trans (Keep.refl h0 []).1 (Nat.le_of_eq g5.symm)))
  have O_26 := Old.wr O_18 W22 ge_14
  obtain ⟨T27, X27, e27, st27⟩ := getS2 X22 hx hZ hown (host := "") (Or.inl (hw _ (List.mem_of_getElem? (i := 8) rfl))) Via.refl e22 (f_25.ext O_26.2) (g := (mkF m 19 #[.val (.int p0), .unset, .unset, .unset] [(.int (2 : Int32)), (.ref b5), (.ref b5)])) rfl (hb hby at_19)
  obtain ⟨cl28, Ar28, q28, s28, n28, hh28, gg28⟩ := id (f_23)
  have hin28 : ¬ ((2 : Int32) < 0 ∨ cl28.slots.size ≤ ((2 : Int32)).toNatClampNeg) := inb_of s28 ⟨by decide, by decide⟩
  obtain ⟨T30, h30, X30, e30, W30, st30⟩ := stR X27 hx hZ e27 Ar28 (j := (2 : Int32)) hin28 rfl (Sto.ofV Ar28 q28 O5 (Ins.self (f_29.ext O_26.2))) (g := (mkF m 22 #[.val (.int p0), .unset, .unset, .unset] [(.ref w_CHAR), (.int (2 : Int32)), (.ref b5), (.ref b5)])) rfl rfl (hb hby at_22)
  have N30 := Fr.snoc X30 N22 ge_14
  have f_31 : Arv Z h30 b5 k5 (.object "com/example/abstractor/abstractor/c/CType") (13 : Int32) [(.ref w_VOID), (.ref w_BOOL), (.ref w_CHAR), .null, .null, .null, .null, .null, .null, .null, .null, .null, .null] .null := Arv.set Ar28 q28 s28 n28 hh28 gg28 rfl W30 2 rfl (Nat.le_of_ble_eq_true rfl)
  have K_32 : Keep h0 h30 [] := K_24.wr W30 (Or.inr (Nat.le_trans (Keep.refl h0 []).1 (Nat.le_of_eq g5.symm)))
  have O_34 := Old.wr O_26 W30 ge_14
  obtain ⟨T35, X35, e35, st35⟩ := getS2 X30 hx hZ hown (host := "") (Or.inl (hw _ (List.mem_of_getElem? (i := 10) rfl))) Via.refl e30 (f_33.ext O_34.2) (g := (mkF m 25 #[.val (.int p0), .unset, .unset, .unset] [(.int (3 : Int32)), (.ref b5), (.ref b5)])) rfl (hb hby at_25)
  obtain ⟨cl36, Ar36, q36, s36, n36, hh36, gg36⟩ := id (f_31)
  have hin36 : ¬ ((3 : Int32) < 0 ∨ cl36.slots.size ≤ ((3 : Int32)).toNatClampNeg) := inb_of s36 ⟨by decide, by decide⟩
  obtain ⟨T38, h38, X38, e38, W38, st38⟩ := stR X35 hx hZ e35 Ar36 (j := (3 : Int32)) hin36 rfl (Sto.ofV Ar36 q36 O5 (Ins.self (f_37.ext O_34.2))) (g := (mkF m 28 #[.val (.int p0), .unset, .unset, .unset] [(.ref w_SIGNED_CHAR), (.int (3 : Int32)), (.ref b5), (.ref b5)])) rfl rfl (hb hby at_28)
  have N38 := Fr.snoc X38 N30 ge_14
  have f_39 : Arv Z h38 b5 k5 (.object "com/example/abstractor/abstractor/c/CType") (13 : Int32) [(.ref w_VOID), (.ref w_BOOL), (.ref w_CHAR), (.ref w_SIGNED_CHAR), .null, .null, .null, .null, .null, .null, .null, .null, .null] .null := Arv.set Ar36 q36 s36 n36 hh36 gg36 rfl W38 3 rfl (Nat.le_of_ble_eq_true rfl)
  have K_40 : Keep h0 h38 [] := K_32.wr W38 (Or.inr (Nat.le_trans (Keep.refl h0 []).1 (Nat.le_of_eq g5.symm)))
  have O_42 := Old.wr O_34 W38 ge_14
  obtain ⟨T43, X43, e43, st43⟩ := getS2 X38 hx hZ hown (host := "") (Or.inl (hw _ (List.mem_of_getElem? (i := 12) rfl))) Via.refl e38 (f_41.ext O_42.2) (g := (mkF m 31 #[.val (.int p0), .unset, .unset, .unset] [(.int (4 : Int32)), (.ref b5), (.ref b5)])) rfl (hb hby at_31)
  obtain ⟨cl44, Ar44, q44, s44, n44, hh44, gg44⟩ := id (f_39)
  have hin44 : ¬ ((4 : Int32) < 0 ∨ cl44.slots.size ≤ ((4 : Int32)).toNatClampNeg) := inb_of s44 ⟨by decide, by decide⟩
  obtain ⟨T46, h46, X46, e46, W46, st46⟩ := stR X43 hx hZ e43 Ar44 (j := (4 : Int32)) hin44 rfl (Sto.ofV Ar44 q44 O5 (Ins.self (f_45.ext O_42.2))) (g := (mkF m 34 #[.val (.int p0), .unset, .unset, .unset] [(.ref w_UNSIGNED_CHAR), (.int (4 : Int32)), (.ref b5), (.ref b5)])) rfl rfl (hb hby at_34)
  have N46 := Fr.snoc X46 N38 ge_14
  have f_47 : Arv Z h46 b5 k5 (.object "com/example/abstractor/abstractor/c/CType") (13 : Int32) [(.ref w_VOID), (.ref w_BOOL), (.ref w_CHAR), (.ref w_SIGNED_CHAR), (.ref w_UNSIGNED_CHAR), .null, .null, .null, .null, .null, .null, .null, .null] .null := Arv.set Ar44 q44 s44 n44 hh44 gg44 rfl W46 4 rfl (Nat.le_of_ble_eq_true rfl)
  have K_48 : Keep h0 h46 [] := K_40.wr W46 (Or.inr (Nat.le_trans (Keep.refl h0 []).1 (Nat.le_of_eq g5.symm)))
  have O_50 := Old.wr O_42 W46 ge_14
  obtain ⟨T51, X51, e51, st51⟩ := getS2 X46 hx hZ hown (host := "") (Or.inl (hw _ (List.mem_of_getElem? (i := 14) rfl))) Via.refl e46 (f_49.ext O_50.2) (g := (mkF m 37 #[.val (.int p0), .unset, .unset, .unset] [(.int (5 : Int32)), (.ref b5), (.ref b5)])) rfl (hb hby at_37)
  obtain ⟨cl52, Ar52, q52, s52, n52, hh52, gg52⟩ := id (f_47)
  have hin52 : ¬ ((5 : Int32) < 0 ∨ cl52.slots.size ≤ ((5 : Int32)).toNatClampNeg) := inb_of s52 ⟨by decide, by decide⟩
  obtain ⟨T54, h54, X54, e54, W54, st54⟩ := stR X51 hx hZ e51 Ar52 (j := (5 : Int32)) hin52 rfl (Sto.ofV Ar52 q52 O5 (Ins.self (f_53.ext O_50.2))) (g := (mkF m 40 #[.val (.int p0), .unset, .unset, .unset] [(.ref w_SHORT), (.int (5 : Int32)), (.ref b5), (.ref b5)])) rfl rfl (hb hby at_40)
  have N54 := Fr.snoc X54 N46 ge_14
  have f_55 : Arv Z h54 b5 k5 (.object "com/example/abstractor/abstractor/c/CType") (13 : Int32) [(.ref w_VOID), (.ref w_BOOL), (.ref w_CHAR), (.ref w_SIGNED_CHAR), (.ref w_UNSIGNED_CHAR), (.ref w_SHORT), .null, .null, .null, .null, .null, .null, .null] .null := Arv.set Ar52 q52 s52 n52 hh52 gg52 rfl W54 5 rfl (Nat.le_of_ble_eq_true rfl)
  have K_56 : Keep h0 h54 [] := K_48.wr W54 (Or.inr (Nat.le_trans (Keep.refl h0 []).1 (Nat.le_of_eq g5.symm)))
  have O_58 := Old.wr O_50 W54 ge_14
  obtain ⟨T59, X59, e59, st59⟩ := getS2 X54 hx hZ hown (host := "") (Or.inl (hw _ (List.mem_of_getElem? (i := 16) rfl))) Via.refl e54 (f_57.ext O_58.2) (g := (mkF m 44 #[.val (.int p0), .unset, .unset, .unset] [(.int (6 : Int32)), (.ref b5), (.ref b5)])) rfl (hb hby at_44)
  obtain ⟨cl60, Ar60, q60, s60, n60, hh60, gg60⟩ := id (f_55)
  have hin60 : ¬ ((6 : Int32) < 0 ∨ cl60.slots.size ≤ ((6 : Int32)).toNatClampNeg) := inb_of s60 ⟨by decide, by decide⟩
  obtain ⟨T62, h62, X62, e62, W62, st62⟩ := stR X59 hx hZ e59 Ar60 (j := (6 : Int32)) hin60 rfl (Sto.ofV Ar60 q60 O5 (Ins.self (f_61.ext O_58.2))) (g := (mkF m 47 #[.val (.int p0), .unset, .unset, .unset] [(.ref w_UNSIGNED_SHORT), (.int (6 : Int32)), (.ref b5), (.ref b5)])) rfl rfl (hb hby at_47)
  have N62 := Fr.snoc X62 N54 ge_14
  have f_63 : Arv Z h62 b5 k5 (.object "com/example/abstractor/abstractor/c/CType") (13 : Int32) [(.ref w_VOID), (.ref w_BOOL), (.ref w_CHAR), (.ref w_SIGNED_CHAR), (.ref w_UNSIGNED_CHAR), (.ref w_SHORT), (.ref w_UNSIGNED_SHORT), .null, .null, .null, .null, .null, .null] .null := Arv.set Ar60 q60 s60 n60 hh60 gg60 rfl W62 6 rfl (Nat.le_of_ble_eq_true rfl)
  have K_64 : Keep h0 h62 [] := K_56.wr W62 (Or.inr (Nat.le_trans (Keep.refl h0 []).1 (Nat.le_of_eq g5.symm)))
  have O_66 := Old.wr O_58 W62 ge_14
  obtain ⟨T67, X67, e67, st67⟩ := getS2 X62 hx hZ hown (host := "") (Or.inl (hw _ (List.mem_of_getElem? (i := 18) rfl))) Via.refl e62 (f_65.ext O_66.2) (g := (mkF m 51 #[.val (.int p0), .unset, .unset, .unset] [(.int (7 : Int32)), (.ref b5), (.ref b5)])) rfl (hb hby at_51)
  obtain ⟨cl68, Ar68, q68, s68, n68, hh68, gg68⟩ := id (f_63)
  have hin68 : ¬ ((7 : Int32) < 0 ∨ cl68.slots.size ≤ ((7 : Int32)).toNatClampNeg) := inb_of s68 ⟨by decide, by decide⟩
  obtain ⟨T70, h70, X70, e70, W70, st70⟩ := stR X67 hx hZ e67 Ar68 (j := (7 : Int32)) hin68 rfl (Sto.ofV Ar68 q68 O5 (Ins.self (f_69.ext O_66.2))) (g := (mkF m 54 #[.val (.int p0), .unset, .unset, .unset] [(.ref w_INT), (.int (7 : Int32)), (.ref b5), (.ref b5)])) rfl rfl (hb hby at_54)
  have N70 := Fr.snoc X70 N62 ge_14
  have f_71 : Arv Z h70 b5 k5 (.object "com/example/abstractor/abstractor/c/CType") (13 : Int32) [(.ref w_VOID), (.ref w_BOOL), (.ref w_CHAR), (.ref w_SIGNED_CHAR), (.ref w_UNSIGNED_CHAR), (.ref w_SHORT), (.ref w_UNSIGNED_SHORT), (.ref w_INT), .null, .null, .null, .null, .null] .null := Arv.set Ar68 q68 s68 n68 hh68 gg68 rfl W70 7 rfl (Nat.le_of_ble_eq_true rfl)
  have K_72 : Keep h0 h70 [] := K_64.wr W70 (Or.inr (Nat.le_trans (Keep.refl h0 []).1 (Nat.le_of_eq g5.symm)))
  have O_74 := Old.wr O_66 W70 ge_14
  obtain ⟨T75, X75, e75, st75⟩ := getS2 X70 hx hZ hown (host := "") (Or.inl (hw _ (List.mem_of_getElem? (i := 20) rfl))) Via.refl e70 (f_73.ext O_74.2) (g := (mkF m 58 #[.val (.int p0), .unset, .unset, .unset] [(.int (8 : Int32)), (.ref b5), (.ref b5)])) rfl (hb hby at_58)
  obtain ⟨cl76, Ar76, q76, s76, n76, hh76, gg76⟩ := id (f_71)
  have hin76 : ¬ ((8 : Int32) < 0 ∨ cl76.slots.size ≤ ((8 : Int32)).toNatClampNeg) := inb_of s76 ⟨by decide, by decide⟩
  obtain ⟨T78, h78, X78, e78, W78, st78⟩ := stR X75 hx hZ e75 Ar76 (j := (8 : Int32)) hin76 rfl (Sto.ofV Ar76 q76 O5 (Ins.self (f_77.ext O_74.2))) (g := (mkF m 61 #[.val (.int p0), .unset, .unset, .unset] [(.ref w_UNSIGNED_INT), (.int (8 : Int32)), (.ref b5), (.ref b5)])) rfl rfl (hb hby at_61)
  have N78 := Fr.snoc X78 N70 ge_14
  have f_79 : Arv Z h78 b5 k5 (.object "com/example/abstractor/abstractor/c/CType") (13 : Int32) [(.ref w_VOID), (.ref w_BOOL), (.ref w_CHAR), (.ref w_SIGNED_CHAR), (.ref w_UNSIGNED_CHAR), (.ref w_SHORT), (.ref w_UNSIGNED_SHORT), (.ref w_INT), (.ref w_UNSIGNED_INT), .null, .null, .null, .null] .null := Arv.set Ar76 q76 s76 n76 hh76 gg76 rfl W78 8 rfl (Nat.le_of_ble_eq_true rfl)
  have K_80 : Keep h0 h78 [] := K_72.wr W78 (Or.inr (Nat.le_trans (Keep.refl h0 []).1 (Nat.le_of_eq g5.symm)))
  have O_82 := Old.wr O_74 W78 ge_14
  obtain ⟨T83, X83, e83, st83⟩ := getS2 X78 hx hZ hown (host := "") (Or.inl (hw _ (List.mem_of_getElem? (i := 22) rfl))) Via.refl e78 (f_81.ext O_82.2) (g := (mkF m 65 #[.val (.int p0), .unset, .unset, .unset] [(.int (9 : Int32)), (.ref b5), (.ref b5)])) rfl (hb hby at_65)
  obtain ⟨cl84, Ar84, q84, s84, n84, hh84, gg84⟩ := id (f_79)
  have hin84 : ¬ ((9 : Int32) < 0 ∨ cl84.slots.size ≤ ((9 : Int32)).toNatClampNeg) := inb_of s84 ⟨by decide, by decide⟩
  obtain ⟨T86, h86, X86, e86, W86, st86⟩ := stR X83 hx hZ e83 Ar84 (j := (9 : Int32)) hin84 rfl (Sto.ofV Ar84 q84 O5 (Ins.self (f_85.ext O_82.2))) (g := (mkF m 68 #[.val (.int p0), .unset, .unset, .unset] [(.ref w_LONG), (.int (9 : Int32)), (.ref b5), (.ref b5)])) rfl rfl (hb hby at_68)
  have N86 := Fr.snoc X86 N78 ge_14
  have f_87 : Arv Z h86 b5 k5 (.object "com/example/abstractor/abstractor/c/CType") (13 : Int32) [(.ref w_VOID), (.ref w_BOOL), (.ref w_CHAR), (.ref w_SIGNED_CHAR), (.ref w_UNSIGNED_CHAR), (.ref w_SHORT), (.ref w_UNSIGNED_SHORT), (.ref w_INT), (.ref w_UNSIGNED_INT), (.ref w_LONG), .null, .null, .null] .null := Arv.set Ar84 q84 s84 n84 hh84 gg84 rfl W86 9 rfl (Nat.le_of_ble_eq_true rfl)
  have K_88 : Keep h0 h86 [] := K_80.wr W86 (Or.inr (Nat.le_trans (Keep.refl h0 []).1 (Nat.le_of_eq g5.symm)))
  have O_90 := Old.wr O_82 W86 ge_14
  obtain ⟨T91, X91, e91, st91⟩ := getS2 X86 hx hZ hown (host := "") (Or.inl (hw _ (List.mem_of_getElem? (i := 24) rfl))) Via.refl e86 (f_89.ext O_90.2) (g := (mkF m 72 #[.val (.int p0), .unset, .unset, .unset] [(.int (10 : Int32)), (.ref b5), (.ref b5)])) rfl (hb hby at_72)
  obtain ⟨cl92, Ar92, q92, s92, n92, hh92, gg92⟩ := id (f_87)
  have hin92 : ¬ ((10 : Int32) < 0 ∨ cl92.slots.size ≤ ((10 : Int32)).toNatClampNeg) := inb_of s92 ⟨by decide, by decide⟩
  obtain ⟨T94, h94, X94, e94, W94, st94⟩ := stR X91 hx hZ e91 Ar92 (j := (10 : Int32)) hin92 rfl (Sto.ofV Ar92 q92 O5 (Ins.self (f_93.ext O_90.2))) (g := (mkF m 75 #[.val (.int p0), .unset, .unset, .unset] [(.ref w_UNSIGNED_LONG), (.int (10 : Int32)), (.ref b5), (.ref b5)])) rfl rfl (hb hby at_75)
  have N94 := Fr.snoc X94 N86 ge_14
  have f_95 : Arv Z h94 b5 k5 (.object "com/example/abstractor/abstractor/c/CType") (13 : Int32) [(.ref w_VOID), (.ref w_BOOL), (.ref w_CHAR), (.ref w_SIGNED_CHAR), (.ref w_UNSIGNED_CHAR), (.ref w_SHORT), (.ref w_UNSIGNED_SHORT), (.ref w_INT), (.ref w_UNSIGNED_INT), (.ref w_LONG), (.ref w_UNSIGNED_LONG), .null, .null] .null := Arv.set Ar92 q92 s92 n92 hh92 gg92 rfl W94 10 rfl (Nat.le_of_ble_eq_true rfl)
  have K_96 : Keep h0 h94 [] := K_88.wr W94 (Or.inr (Nat.le_trans (Keep.refl h0 []).1 (Nat.le_of_eq g5.symm)))
  have O_98 := Old.wr O_90 W94 ge_14
  obtain ⟨T99, X99, e99, st99⟩ := getS2 X94 hx hZ hown (host := "") (Or.inl (hw _ (List.mem_of_getElem? (i := 26) rfl))) Via.refl e94 (f_97.ext O_98.2) (g := (mkF m 79 #[.val (.int p0), .unset, .unset, .unset] [(.int (11 : Int32)), (.ref b5), (.ref b5)])) rfl (hb hby at_79)
  obtain ⟨cl100, Ar100, q100, s100, n100, hh100, gg100⟩ := id (f_95)
  have hin100 : ¬ ((11 : Int32) < 0 ∨ cl100.slots.size ≤ ((11 : Int32)).toNatClampNeg) := inb_of s100 ⟨by decide, by decide⟩
  obtain ⟨T102, h102, X102, e102, W102, st102⟩ := stR X99 hx hZ e99 Ar100 (j := (11 : Int32)) hin100 rfl (Sto.ofV Ar100 q100 O5 (Ins.self (f_101.ext O_98.2))) (g := (mkF m 82 #[.val (.int p0), .unset, .unset, .unset] [(.ref w_LONG_LONG), (.int (11 : Int32)), (.ref b5), (.ref b5)])) rfl rfl (hb hby at_82)
  have N102 := Fr.snoc X102 N94 ge_14
  have f_103 : Arv Z h102 b5 k5 (.object "com/example/abstractor/abstractor/c/CType") (13 : Int32) [(.ref w_VOID), (.ref w_BOOL), (.ref w_CHAR), (.ref w_SIGNED_CHAR), (.ref w_UNSIGNED_CHAR), (.ref w_SHORT), (.ref w_UNSIGNED_SHORT), (.ref w_INT), (.ref w_UNSIGNED_INT), (.ref w_LONG), (.ref w_UNSIGNED_LONG), (.ref w_LONG_LONG), .null] .null := Arv.set Ar100 q100 s100 n100 hh100 gg100 rfl W102 11 rfl (Nat.le_of_ble_eq_true rfl)
  have K_104 : Keep h0 h102 [] := K_96.wr W102 (Or.inr (Nat.le_trans (Keep.refl h0 []).1 (Nat.le_of_eq g5.symm)))
  have O_106 := Old.wr O_98 W102 ge_14
  obtain ⟨T107, X107, e107, st107⟩ := getS2 X102 hx hZ hown (host := "") (Or.inl (hw _ (List.mem_of_getElem? (i := 28) rfl))) Via.refl e102 (f_105.ext O_106.2) (g := (mkF m 86 #[.val (.int p0), .unset, .unset, .unset] [(.int (12 : Int32)), (.ref b5), (.ref b5)])) rfl (hb hby at_86)
  obtain ⟨cl108, Ar108, q108, s108, n108, hh108, gg108⟩ := id (f_103)
  have hin108 : ¬ ((12 : Int32) < 0 ∨ cl108.slots.size ≤ ((12 : Int32)).toNatClampNeg) := inb_of s108 ⟨by decide, by decide⟩
  obtain ⟨T110, h110, X110, e110, W110, st110⟩ := stR X107 hx hZ e107 Ar108 (j := (12 : Int32)) hin108 rfl (Sto.ofV Ar108 q108 O5 (Ins.self (f_109.ext O_106.2))) (g := (mkF m 89 #[.val (.int p0), .unset, .unset, .unset] [(.ref w_UNSIGNED_LONG_LONG), (.int (12 : Int32)), (.ref b5), (.ref b5)])) rfl rfl (hb hby at_89)
  have N110 := Fr.snoc X110 N102 ge_14
  have f_111 : Arv Z h110 b5 k5 (.object "com/example/abstractor/abstractor/c/CType") (13 : Int32) [(.ref w_VOID), (.ref w_BOOL), (.ref w_CHAR), (.ref w_SIGNED_CHAR), (.ref w_UNSIGNED_CHAR), (.ref w_SHORT), (.ref w_UNSIGNED_SHORT), (.ref w_INT), (.ref w_UNSIGNED_INT), (.ref w_LONG), (.ref w_UNSIGNED_LONG), (.ref w_LONG_LONG), (.ref w_UNSIGNED_LONG_LONG)] .null := Arv.set Ar108 q108 s108 n108 hh108 gg108 rfl W110 12 rfl (Nat.le_of_ble_eq_true rfl)
  have K_112 : Keep h0 h110 [] := K_104.wr W110 (Or.inr (Nat.le_trans (Keep.refl h0 []).1 (Nat.le_of_eq g5.symm)))
  obtain ⟨cl113, Ar113, q113, s113, n113, hh113, gg113⟩ := id (f_111)
  have hin113 : ¬ (((p0 &&& (2147483647 : Int32)) % (13 : Int32)) < 0 ∨ cl113.slots.size ≤ (((p0 &&& (2147483647 : Int32)) % (13 : Int32))).toNatClampNeg) := inb_of s113 c_114
  have hat113 : cl113.slots[(((p0 &&& (2147483647 : Int32)) % (13 : Int32))).toNatClampNeg]? = some (.ref t) := hh113.at hin113 c_115
  have O_116 := Old.wr O_106 W110 ge_14
  obtain ⟨cq118, kq118, q118a, q118b, q118c⟩ := isOf hZ e110 (f_4.ext O_116.2)
  obtain ⟨_, _, ⟨T118, L118, k118, n118⟩, -, X118, ⟨Lc118, hQ118, l118, y118, z118⟩, st118⟩ := X110.virtualBack hx (y := (⟨"com/example/abstractor/abstractor/c/CType", "toUnsigned", "()Lcom/example/abstractor/abstractor/c/CType;"⟩ : MethodName)) (z := (⟨"com/example/abstractor/abstractor/c/CType", "toUnsigned", "()Lcom/example/abstractor/abstractor/c/CType;"⟩ : MethodName)) hown (mvT hZ (hw _ (List.mem_of_getElem? (i := 31) rfl))) (mvT hZ (hw _ (List.mem_of_getElem? (i := 32) rfl))) (notFace_of_selects (args := #[]) (mvT hZ (hw _ (List.mem_of_getElem? (i := 34) rfl)))) (mvT hZ (hw _ (List.mem_of_getElem? (i := 34) rfl))) (mvT hZ (hw _ (List.mem_of_getElem? (i := 33) rfl))) (by decide) (backOf (W := 0) (rm1u l Z A0 hw [] t od h110 n0 O_116 (f_1.ext O_116.2) (f_4.ext O_116.2) c_117) hZ (hw _ (List.mem_of_getElem? (i := 35) rfl)) (hw _ (List.mem_of_getElem? (i := 3) rfl)) (by decide) (by decide)) q118a q118c (g := (mkF m 102 #[.val (.int p0), .val (.ref b5), .val (.ref t), .unset] [(.ref t)])) rfl (by rw [hml]; rfl) (Steps.refl _) (argsL := []) (rest := []) (lenOf pd_1 rfl) rfl (by show 2 * 0 + _ ≤ _; exact Nat.le_of_eq rfl) (hb hby at_102) (fun _ _ => ⟨rfl, e110, (by decide : 1 + 0 ≤ _), (by decide : 13 + 0 ≤ _)⟩)
  dsimp only [Pt.U, Pt.locs, Pt.cells, Pt.slots] at X118 l118 y118 z118 st118 hQ118
  subst l118 y118 z118
  obtain ⟨rfl, N118q, e118⟩ := hQ118
  have N118 := Fr.app N110 N118q
  obtain ⟨cq119, kq119, q119a, q119b, q119c⟩ := isOf hZ e118 (f_4.ext O_116.2)
  obtain ⟨_, _, ⟨T119, L119, k119, n119⟩, -, X119, ⟨Lc119, hQ119, l119, y119, z119⟩, st119⟩ := X118.virtualBack hx (y := (⟨"com/example/abstractor/abstractor/c/CType", "isSigned", "()Z"⟩ : MethodName)) (z := (⟨"com/example/abstractor/abstractor/c/CType", "isSigned", "()Z"⟩ : MethodName)) hown (mvT hZ (hw _ (List.mem_of_getElem? (i := 45) rfl))) (mvT hZ (hw _ (List.mem_of_getElem? (i := 46) rfl))) (notFace_of_selects (args := #[]) (mvT hZ (hw _ (List.mem_of_getElem? (i := 48) rfl)))) (mvT hZ (hw _ (List.mem_of_getElem? (i := 48) rfl))) (mvT hZ (hw _ (List.mem_of_getElem? (i := 47) rfl))) (by decide) (backOf (W := 0) (rm3 l Z A0 hw [] t (0 : Int32) h110 n0 O_116 (f_2.ext O_116.2)) hZ (hw _ (List.mem_of_getElem? (i := 49) rfl)) (hw _ (List.mem_of_getElem? (i := 3) rfl)) (by decide) (by decide)) q119a q119c (g := (mkF m 113 #[.val (.int p0), .val (.ref b5), .val (.ref t), .val (.ref t)] [(.ref t)])) rfl (by rw [hml]; rfl) (Steps.refl _) (argsL := []) (rest := []) (lenOf pd_2 rfl) rfl (by show 2 * 0 + _ ≤ _; exact Nat.le_of_eq rfl) (hb hby at_113) (fun _ _ => ⟨rfl, e118, (by decide : 1 + 0 ≤ _), (by decide : 13 + 0 ≤ _)⟩)
  dsimp only [Pt.U, Pt.locs, Pt.cells, Pt.slots] at X119 l119 y119 z119 st119 hQ119
  subst l119 y119 z119
  obtain ⟨rfl, N119q, e119⟩ := hQ119
  have N119 := Fr.app N118 N119q
  obtain ⟨cq120, kq120, q120a, q120b, q120c⟩ := isOf hZ e119 (f_4.ext O_116.2)
  obtain ⟨_, _, ⟨T120, L120, k120, n120⟩, -, X120, ⟨Lc120, hQ120, l120, y120, z120⟩, st120⟩ := X119.virtualBack hx (y := (⟨"com/example/abstractor/abstractor/c/CType", "getRank", "()I"⟩ : MethodName)) (z := (⟨"com/example/abstractor/abstractor/c/CType", "getRank", "()I"⟩ : MethodName)) hown (mvT hZ (hw _ (List.mem_of_getElem? (i := 52) rfl))) (mvT hZ (hw _ (List.mem_of_getElem? (i := 53) rfl))) (notFace_of_selects (args := #[]) (mvT hZ (hw _ (List.mem_of_getElem? (i := 55) rfl)))) (mvT hZ (hw _ (List.mem_of_getElem? (i := 55) rfl))) (mvT hZ (hw _ (List.mem_of_getElem? (i := 54) rfl))) (by decide) (backOf (W := 0) (rm4 l Z A0 hw [] t rk h110 n0 O_116 (f_3.ext O_116.2)) hZ (hw _ (List.mem_of_getElem? (i := 56) rfl)) (hw _ (List.mem_of_getElem? (i := 3) rfl)) (by decide) (by decide)) q120a q120c (g := (mkF m 122 #[.val (.int p0), .val (.ref b5), .val (.ref t), .val (.ref t)] [(.ref t)])) rfl (by rw [hml]; rfl) (Steps.refl _) (argsL := []) (rest := []) (lenOf pd_0 rfl) rfl (by show 2 * 0 + _ ≤ _; exact Nat.le_of_eq rfl) (hb hby at_122) (fun _ _ => ⟨rfl, e119, (by decide : 1 + 0 ≤ _), (by decide : 13 + 0 ≤ _)⟩)
  dsimp only [Pt.U, Pt.locs, Pt.cells, Pt.slots] at X120 l120 y120 z120 st120 hQ120
  subst l120 y120 z120
  obtain ⟨rfl, N120q, e120⟩ := hQ120
  have N120 := Fr.app N119 N120q
  obtain ⟨cq121, kq121, q121a, q121b, q121c⟩ := isOf hZ e120 (f_4.ext O_116.2)
  obtain ⟨_, _, ⟨T121, L121, k121, n121⟩, -, X121, ⟨Lc121, hQ121, l121, y121, z121⟩, st121⟩ := X120.virtualBack hx (y := (⟨"com/example/abstractor/abstractor/c/CType", "getRank", "()I"⟩ : MethodName)) (z := (⟨"com/example/abstractor/abstractor/c/CType", "getRank", "()I"⟩ : MethodName)) hown (mvT hZ (hw _ (List.mem_of_getElem? (i := 52) rfl))) (mvT hZ (hw _ (List.mem_of_getElem? (i := 53) rfl))) (notFace_of_selects (args := #[]) (mvT hZ (hw _ (List.mem_of_getElem? (i := 55) rfl)))) (mvT hZ (hw _ (List.mem_of_getElem? (i := 55) rfl))) (mvT hZ (hw _ (List.mem_of_getElem? (i := 54) rfl))) (by decide) (backOf (W := 1) (rm4 l Z A0 hw [] t rk h110 n0 O_116 (f_3.ext O_116.2)) hZ (hw _ (List.mem_of_getElem? (i := 56) rfl)) (hw _ (List.mem_of_getElem? (i := 3) rfl)) (by decide) (by decide)) q121a q121c (g := (mkF m 126 #[.val (.int p0), .val (.ref b5), .val (.ref t), .val (.ref t)] [(.ref t), (.int rk)])) rfl (by rw [hml]; rfl) (Steps.refl _) (argsL := []) (rest := [(.int rk)]) (lenOf pd_0 rfl) rfl (by show 2 * 0 + _ ≤ _; exact Nat.le_of_eq rfl) (hb hby at_126) (fun _ _ => ⟨rfl, e120, (by decide : 1 + 0 ≤ _), (by decide : 13 + 0 ≤ _)⟩)
  dsimp only [Pt.U, Pt.locs, Pt.cells, Pt.slots] at X121 l121 y121 z121 st121 hQ121
  subst l121 y121 z121
  obtain ⟨rfl, N121q, e121⟩ := hQ121
  have N121 := Fr.app N120 N121q
  obtain ⟨cq122, kq122, q122a, q122b, q122c⟩ := isOf hZ e121 (f_4.ext O_116.2)
  obtain ⟨_, _, ⟨T122, L122, k122, n122⟩, -, X122, ⟨Lc122, hQ122, l122, y122, z122⟩, st122⟩ := X121.virtualBack hx (y := (⟨"com/example/abstractor/abstractor/c/CType", "isSigned", "()Z"⟩ : MethodName)) (z := (⟨"com/example/abstractor/abstractor/c/CType", "isSigned", "()Z"⟩ : MethodName)) hown (mvT hZ (hw _ (List.mem_of_getElem? (i := 45) rfl))) (mvT hZ (hw _ (List.mem_of_getElem? (i := 46) rfl))) (notFace_of_selects (args := #[]) (mvT hZ (hw _ (List.mem_of_getElem? (i := 48) rfl)))) (mvT hZ (hw _ (List.mem_of_getElem? (i := 48) rfl))) (mvT hZ (hw _ (List.mem_of_getElem? (i := 47) rfl))) (by decide) (backOf (W := 0) (rm3 l Z A0 hw [] t (0 : Int32) h110 n0 O_116 (f_2.ext O_116.2)) hZ (hw _ (List.mem_of_getElem? (i := 49) rfl)) (hw _ (List.mem_of_getElem? (i := 3) rfl)) (by decide) (by decide)) q122a q122c (g := (mkF m 135 #[.val (.int p0), .val (.ref b5), .val (.ref t), .val (.ref t)] [(.ref t)])) rfl (by rw [hml]; rfl) (Steps.refl _) (argsL := []) (rest := []) (lenOf pd_2 rfl) rfl (by show 2 * 0 + _ ≤ _; exact Nat.le_of_eq rfl) (hb hby at_135) (fun _ _ => ⟨rfl, e121, (by decide : 1 + 0 ≤ _), (by decide : 13 + 0 ≤ _)⟩)
  dsimp only [Pt.U, Pt.locs, Pt.cells, Pt.slots] at X122 l122 y122 z122 st122 hQ122
  subst l122 y122 z122
  obtain ⟨rfl, N122q, e122⟩ := hQ122
  have N122 := Fr.app N121 N122q
  obtain ⟨fs, hr, hrun, hended, hW, hsame⟩ := X122.leave (v := some (.int (1 : Int32))) (fun h => by rw [Bd.returns] at h; cases h)
  refine ⟨_, _, pre0 _ ?_, hrun, hended, _, _, rfl, ?_, ⟨_, rfl⟩, hW, hsame.mono (by decide) (by decide)⟩
  · show Steps p.tables e below (s₁.setTop (mkF m 0 #[.val (.int p0), .unset, .unset, .unset] [])) _
    refine XS.bipush X0.here hx rfl (hb hby at_0) ?_
    show Steps p.tables e below (s₁.setTop (mkF m 2 #[.val (.int p0), .unset, .unset, .unset] [(.int (13 : Int32))])) _
    refine st5 _ ?_
    show Steps p.tables e below (T5.setTop (mkF m 5 #[.val (.int p0), .unset, .unset, .unset] [(.ref b5)])) _
    refine XS.dup X5.here hx rfl (hb hby at_5) rfl rfl ?_
    show Steps p.tables e below (T5.setTop (mkF m 6 #[.val (.int p0), .unset, .unset, .unset] [(.ref b5), (.ref b5)])) _
    refine XS.iconst X5.here hx rfl (hb hby at_6) ?_
    show Steps p.tables e below (T5.setTop (mkF m 7 #[.val (.int p0), .unset, .unset, .unset] [(.int (0 : Int32)), (.ref b5), (.ref b5)])) _
    refine st10 _ ?_
    show Steps p.tables e below (T10.setTop (mkF m 10 #[.val (.int p0), .unset, .unset, .unset] [(.ref w_VOID), (.int (0 : Int32)), (.ref b5), (.ref b5)])) _
    refine st13 _ ?_
    show Steps p.tables e below (T13.setTop (mkF m 11 #[.val (.int p0), .unset, .unset, .unset] [(.ref b5)])) _
    refine XS.dup X13.here hx rfl (hb hby at_11) rfl rfl ?_
    show Steps p.tables e below (T13.setTop (mkF m 12 #[.val (.int p0), .unset, .unset, .unset] [(.ref b5), (.ref b5)])) _
    refine XS.iconst X13.here hx rfl (hb hby at_12) ?_
    show Steps p.tables e below (T13.setTop (mkF m 13 #[.val (.int p0), .unset, .unset, .unset] [(.int (1 : Int32)), (.ref b5), (.ref b5)])) _
    refine st19 _ ?_
    show Steps p.tables e below (T19.setTop (mkF m 16 #[.val (.int p0), .unset, .unset, .unset] [(.ref w_BOOL), (.int (1 : Int32)), (.ref b5), (.ref b5)])) _
    refine st22 _ ?_
    show Steps p.tables e below (T22.setTop (mkF m 17 #[.val (.int p0), .unset, .unset, .unset] [(.ref b5)])) _
    refine XS.dup X22.here hx rfl (hb hby at_17) rfl rfl ?_
    show Steps p.tables e below (T22.setTop (mkF m 18 #[.val (.int p0), .unset, .unset, .unset] [(.ref b5), (.ref b5)])) _
    refine XS.iconst X22.here hx rfl (hb hby at_18) ?_
    show Steps p.tables e below (T22.setTop (mkF m 19 #[.val (.int p0), .unset, .unset, .unset] [(.int (2 : Int32)), (.ref b5), (.ref b5)])) _
    refine st27 _ ?_
    show Steps p.tables e below (T27.setTop (mkF m 22 #[.val (.int p0), .unset, .unset, .unset] [(.ref w_CHAR), (.int (2 : Int32)), (.ref b5), (.ref b5)])) _
    refine st30 _ ?_
    show Steps p.tables e below (T30.setTop (mkF m 23 #[.val (.int p0), .unset, .unset, .unset] [(.ref b5)])) _
    refine XS.dup X30.here hx rfl (hb hby at_23) rfl rfl ?_
    show Steps p.tables e below (T30.setTop (mkF m 24 #[.val (.int p0), .unset, .unset, .unset] [(.ref b5), (.ref b5)])) _
    refine XS.iconst X30.here hx rfl (hb hby at_24) ?_
    show Steps p.tables e below (T30.setTop (mkF m 25 #[.val (.int p0), .unset, .unset, .unset] [(.int (3 : Int32)), (.ref b5), (.ref b5)])) _
    refine st35 _ ?_
    show Steps p.tables e below (T35.setTop (mkF m 28 #[.val (.int p0), .unset, .unset, .unset] [(.ref w_SIGNED_CHAR), (.int (3 : Int32)), (.ref b5), (.ref b5)])) _
    refine st38 _ ?_
    show Steps p.tables e below (T38.setTop (mkF m 29 #[.val (.int p0), .unset, .unset, .unset] [(.ref b5)])) _
    refine XS.dup X38.here hx rfl (hb hby at_29) rfl rfl ?_
    show Steps p.tables e below (T38.setTop (mkF m 30 #[.val (.int p0), .unset, .unset, .unset] [(.ref b5), (.ref b5)])) _
    refine XS.iconst X38.here hx rfl (hb hby at_30) ?_
    show Steps p.tables e below (T38.setTop (mkF m 31 #[.val (.int p0), .unset, .unset, .unset] [(.int (4 : Int32)), (.ref b5), (.ref b5)])) _
    refine st43 _ ?_
    show Steps p.tables e below (T43.setTop (mkF m 34 #[.val (.int p0), .unset, .unset, .unset] [(.ref w_UNSIGNED_CHAR), (.int (4 : Int32)), (.ref b5), (.ref b5)])) _
    refine st46 _ ?_
    show Steps p.tables e below (T46.setTop (mkF m 35 #[.val (.int p0), .unset, .unset, .unset] [(.ref b5)])) _
    refine XS.dup X46.here hx rfl (hb hby at_35) rfl rfl ?_
    show Steps p.tables e below (T46.setTop (mkF m 36 #[.val (.int p0), .unset, .unset, .unset] [(.ref b5), (.ref b5)])) _
    refine XS.iconst X46.here hx rfl (hb hby at_36) ?_
    show Steps p.tables e below (T46.setTop (mkF m 37 #[.val (.int p0), .unset, .unset, .unset] [(.int (5 : Int32)), (.ref b5), (.ref b5)])) _
    refine st51 _ ?_
    show Steps p.tables e below (T51.setTop (mkF m 40 #[.val (.int p0), .unset, .unset, .unset] [(.ref w_SHORT), (.int (5 : Int32)), (.ref b5), (.ref b5)])) _
    refine st54 _ ?_
    show Steps p.tables e below (T54.setTop (mkF m 41 #[.val (.int p0), .unset, .unset, .unset] [(.ref b5)])) _
    refine XS.dup X54.here hx rfl (hb hby at_41) rfl rfl ?_
    show Steps p.tables e below (T54.setTop (mkF m 42 #[.val (.int p0), .unset, .unset, .unset] [(.ref b5), (.ref b5)])) _
    refine XS.bipush X54.here hx rfl (hb hby at_42) ?_
    show Steps p.tables e below (T54.setTop (mkF m 44 #[.val (.int p0), .unset, .unset, .unset] [(.int (6 : Int32)), (.ref b5), (.ref b5)])) _
    refine st59 _ ?_
    show Steps p.tables e below (T59.setTop (mkF m 47 #[.val (.int p0), .unset, .unset, .unset] [(.ref w_UNSIGNED_SHORT), (.int (6 : Int32)), (.ref b5), (.ref b5)])) _
    refine st62 _ ?_
    show Steps p.tables e below (T62.setTop (mkF m 48 #[.val (.int p0), .unset, .unset, .unset] [(.ref b5)])) _
    refine XS.dup X62.here hx rfl (hb hby at_48) rfl rfl ?_
    show Steps p.tables e below (T62.setTop (mkF m 49 #[.val (.int p0), .unset, .unset, .unset] [(.ref b5), (.ref b5)])) _
    refine XS.bipush X62.here hx rfl (hb hby at_49) ?_
    show Steps p.tables e below (T62.setTop (mkF m 51 #[.val (.int p0), .unset, .unset, .unset] [(.int (7 : Int32)), (.ref b5), (.ref b5)])) _
    refine st67 _ ?_
    show Steps p.tables e below (T67.setTop (mkF m 54 #[.val (.int p0), .unset, .unset, .unset] [(.ref w_INT), (.int (7 : Int32)), (.ref b5), (.ref b5)])) _
    refine st70 _ ?_
    show Steps p.tables e below (T70.setTop (mkF m 55 #[.val (.int p0), .unset, .unset, .unset] [(.ref b5)])) _
    refine XS.dup X70.here hx rfl (hb hby at_55) rfl rfl ?_
    show Steps p.tables e below (T70.setTop (mkF m 56 #[.val (.int p0), .unset, .unset, .unset] [(.ref b5), (.ref b5)])) _
    refine XS.bipush X70.here hx rfl (hb hby at_56) ?_
    show Steps p.tables e below (T70.setTop (mkF m 58 #[.val (.int p0), .unset, .unset, .unset] [(.int (8 : Int32)), (.ref b5), (.ref b5)])) _
    refine st75 _ ?_
    show Steps p.tables e below (T75.setTop (mkF m 61 #[.val (.int p0), .unset, .unset, .unset] [(.ref w_UNSIGNED_INT), (.int (8 : Int32)), (.ref b5), (.ref b5)])) _
    refine st78 _ ?_
    show Steps p.tables e below (T78.setTop (mkF m 62 #[.val (.int p0), .unset, .unset, .unset] [(.ref b5)])) _
    refine XS.dup X78.here hx rfl (hb hby at_62) rfl rfl ?_
    show Steps p.tables e below (T78.setTop (mkF m 63 #[.val (.int p0), .unset, .unset, .unset] [(.ref b5), (.ref b5)])) _
    refine XS.bipush X78.here hx rfl (hb hby at_63) ?_
    show Steps p.tables e below (T78.setTop (mkF m 65 #[.val (.int p0), .unset, .unset, .unset] [(.int (9 : Int32)), (.ref b5), (.ref b5)])) _
    refine st83 _ ?_
    show Steps p.tables e below (T83.setTop (mkF m 68 #[.val (.int p0), .unset, .unset, .unset] [(.ref w_LONG), (.int (9 : Int32)), (.ref b5), (.ref b5)])) _
    refine st86 _ ?_
    show Steps p.tables e below (T86.setTop (mkF m 69 #[.val (.int p0), .unset, .unset, .unset] [(.ref b5)])) _
    refine XS.dup X86.here hx rfl (hb hby at_69) rfl rfl ?_
    show Steps p.tables e below (T86.setTop (mkF m 70 #[.val (.int p0), .unset, .unset, .unset] [(.ref b5), (.ref b5)])) _
    refine XS.bipush X86.here hx rfl (hb hby at_70) ?_
    show Steps p.tables e below (T86.setTop (mkF m 72 #[.val (.int p0), .unset, .unset, .unset] [(.int (10 : Int32)), (.ref b5), (.ref b5)])) _
    refine st91 _ ?_
    show Steps p.tables e below (T91.setTop (mkF m 75 #[.val (.int p0), .unset, .unset, .unset] [(.ref w_UNSIGNED_LONG), (.int (10 : Int32)), (.ref b5), (.ref b5)])) _
    refine st94 _ ?_
    show Steps p.tables e below (T94.setTop (mkF m 76 #[.val (.int p0), .unset, .unset, .unset] [(.ref b5)])) _
    refine XS.dup X94.here hx rfl (hb hby at_76) rfl rfl ?_
    show Steps p.tables e below (T94.setTop (mkF m 77 #[.val (.int p0), .unset, .unset, .unset] [(.ref b5), (.ref b5)])) _
    refine XS.bipush X94.here hx rfl (hb hby at_77) ?_
    show Steps p.tables e below (T94.setTop (mkF m 79 #[.val (.int p0), .unset, .unset, .unset] [(.int (11 : Int32)), (.ref b5), (.ref b5)])) _
    refine st99 _ ?_
    show Steps p.tables e below (T99.setTop (mkF m 82 #[.val (.int p0), .unset, .unset, .unset] [(.ref w_LONG_LONG), (.int (11 : Int32)), (.ref b5), (.ref b5)])) _
    refine st102 _ ?_
    show Steps p.tables e below (T102.setTop (mkF m 83 #[.val (.int p0), .unset, .unset, .unset] [(.ref b5)])) _
    refine XS.dup X102.here hx rfl (hb hby at_83) rfl rfl ?_
    show Steps p.tables e below (T102.setTop (mkF m 84 #[.val (.int p0), .unset, .unset, .unset] [(.ref b5), (.ref b5)])) _
    refine XS.bipush X102.here hx rfl (hb hby at_84) ?_
    show Steps p.tables e below (T102.setTop (mkF m 86 #[.val (.int p0), .unset, .unset, .unset] [(.int (12 : Int32)), (.ref b5), (.ref b5)])) _
    refine st107 _ ?_
    show Steps p.tables e below (T107.setTop (mkF m 89 #[.val (.int p0), .unset, .unset, .unset] [(.ref w_UNSIGNED_LONG_LONG), (.int (12 : Int32)), (.ref b5), (.ref b5)])) _
    refine st110 _ ?_
    show Steps p.tables e below (T110.setTop (mkF m 90 #[.val (.int p0), .unset, .unset, .unset] [(.ref b5)])) _
    refine XS.astoreN X110.here hx rfl (hb hby at_90) rfl rfl (l' := #[.val (.int p0), .val (.ref b5), .unset, .unset]) rfl ?_
    show Steps p.tables e below (T110.setTop (mkF m 91 #[.val (.int p0), .val (.ref b5), .unset, .unset] [])) _
    refine XS.aloadN X110.here hx rfl (hb hby at_91) rfl rfl ?_
    show Steps p.tables e below (T110.setTop (mkF m 92 #[.val (.int p0), .val (.ref b5), .unset, .unset] [(.ref b5)])) _
    refine XS.iloadN X110.here hx rfl (hb hby at_92) rfl ?_
    show Steps p.tables e below (T110.setTop (mkF m 93 #[.val (.int p0), .val (.ref b5), .unset, .unset] [(.int p0), (.ref b5)])) _
    refine X110.ldcInt hx hown (mvT hZ (hw _ (List.mem_of_getElem? (i := 30) rfl))) (g := (mkF m 93 #[.val (.int p0), .val (.ref b5), .unset, .unset] [(.int p0), (.ref b5)])) rfl (hb hby at_93) _ ?_
    show Steps p.tables e below (T110.setTop (mkF m 95 #[.val (.int p0), .val (.ref b5), .unset, .unset] [(.int (2147483647 : Int32)), (.int p0), (.ref b5)])) _
    refine XS.iand X110.here hx rfl (hb hby at_95) rfl ?_
    show Steps p.tables e below (T110.setTop (mkF m 96 #[.val (.int p0), .val (.ref b5), .unset, .unset] [(.int (p0 &&& (2147483647 : Int32))), (.ref b5)])) _
    refine XS.bipush X110.here hx rfl (hb hby at_96) ?_
    show Steps p.tables e below (T110.setTop (mkF m 98 #[.val (.int p0), .val (.ref b5), .unset, .unset] [(.int (13 : Int32)), (.int (p0 &&& (2147483647 : Int32))), (.ref b5)])) _
    refine iremM (g := (mkF m 98 #[.val (.int p0), .val (.ref b5), .unset, .unset] [(.int (13 : Int32)), (.int (p0 &&& (2147483647 : Int32))), (.ref b5)])) X110 hx rfl (hb hby at_98) rfl (by decide) ?_
    show Steps p.tables e below (T110.setTop (mkF m 99 #[.val (.int p0), .val (.ref b5), .unset, .unset] [(.int ((p0 &&& (2147483647 : Int32)) % (13 : Int32))), (.ref b5)])) _
    refine X110.aaload hx (j := ((p0 &&& (2147483647 : Int32)) % (13 : Int32))) (v := (.ref t)) (by rw [e110]; exact Ar113.1) (State.isArrayOf_alike hZ.alike Ar113.2.1) rfl Ar113.2.2 hin113 hat113 (g := (mkF m 99 #[.val (.int p0), .val (.ref b5), .unset, .unset] [(.int ((p0 &&& (2147483647 : Int32)) % (13 : Int32))), (.ref b5)])) rfl rfl (hb hby at_99) _ ?_
    show Steps p.tables e below (T110.setTop (mkF m 100 #[.val (.int p0), .val (.ref b5), .unset, .unset] [(.ref t)])) _
    refine XS.astoreN X110.here hx rfl (hb hby at_100) rfl rfl (l' := #[.val (.int p0), .val (.ref b5), .val (.ref t), .unset]) rfl ?_
    show Steps p.tables e below (T110.setTop (mkF m 101 #[.val (.int p0), .val (.ref b5), .val (.ref t), .unset] [])) _
    refine XS.aloadN X110.here hx rfl (hb hby at_101) rfl rfl ?_
    show Steps p.tables e below (T110.setTop (mkF m 102 #[.val (.int p0), .val (.ref b5), .val (.ref t), .unset] [(.ref t)])) _
    refine st118.trans ?_
    show Steps p.tables e below (T118.setTop (mkF m 105 #[.val (.int p0), .val (.ref b5), .val (.ref t), .unset] [(.ref t)])) _
    refine XS.astoreN X118.here hx rfl (hb hby at_105) rfl rfl (l' := #[.val (.int p0), .val (.ref b5), .val (.ref t), .val (.ref t)]) rfl ?_
    show Steps p.tables e below (T118.setTop (mkF m 106 #[.val (.int p0), .val (.ref b5), .val (.ref t), .val (.ref t)] [])) _
    refine XS.aloadN X118.here hx rfl (hb hby at_106) rfl rfl ?_
    show Steps p.tables e below (T118.setTop (mkF m 107 #[.val (.int p0), .val (.ref b5), .val (.ref t), .val (.ref t)] [(.ref t)])) _
    refine XS.ifnonnullYes X118.here hx rfl (pc0 := 107) (pc' := 112) rfl (hb hby at_107) rfl (by decide) (by decide) ?_
    show Steps p.tables e below (T118.setTop (mkF m 112 #[.val (.int p0), .val (.ref b5), .val (.ref t), .val (.ref t)] [])) _
    refine XS.aloadN X118.here hx rfl (hb hby at_112) rfl rfl ?_
    show Steps p.tables e below (T118.setTop (mkF m 113 #[.val (.int p0), .val (.ref b5), .val (.ref t), .val (.ref t)] [(.ref t)])) _
    refine st119.trans ?_
    show Steps p.tables e below (T119.setTop (mkF m 116 #[.val (.int p0), .val (.ref b5), .val (.ref t), .val (.ref t)] [(.int (0 : Int32))])) _
    refine XS.ifYes X119.here hx rfl (pc0 := 116) (pc' := 121) rfl (hb hby at_116) rfl ((if0 _ _).trans (teq (by decide : (0 : Int32) = (0 : Int32))).1) (by decide) (by decide) ?_
    show Steps p.tables e below (T119.setTop (mkF m 121 #[.val (.int p0), .val (.ref b5), .val (.ref t), .val (.ref t)] [])) _
    refine XS.aloadN X119.here hx rfl (hb hby at_121) rfl rfl ?_
    show Steps p.tables e below (T119.setTop (mkF m 122 #[.val (.int p0), .val (.ref b5), .val (.ref t), .val (.ref t)] [(.ref t)])) _
    refine st120.trans ?_
    show Steps p.tables e below (T120.setTop (mkF m 125 #[.val (.int p0), .val (.ref b5), .val (.ref t), .val (.ref t)] [(.int rk)])) _
    refine XS.aloadN X120.here hx rfl (hb hby at_125) rfl rfl ?_
    show Steps p.tables e below (T120.setTop (mkF m 126 #[.val (.int p0), .val (.ref b5), .val (.ref t), .val (.ref t)] [(.ref t), (.int rk)])) _
    refine st121.trans ?_
    show Steps p.tables e below (T121.setTop (mkF m 129 #[.val (.int p0), .val (.ref b5), .val (.ref t), .val (.ref t)] [(.int rk), (.int rk)])) _
    refine XS.icmpYes X121.here hx rfl (pc0 := 129) (pc' := 134) rfl (hb hby at_129) rfl (teq (rfl : rk = rk)).1 (by decide) (by decide) ?_
    show Steps p.tables e below (T121.setTop (mkF m 134 #[.val (.int p0), .val (.ref b5), .val (.ref t), .val (.ref t)] [])) _
    refine XS.aloadN X121.here hx rfl (hb hby at_134) rfl rfl ?_
    show Steps p.tables e below (T121.setTop (mkF m 135 #[.val (.int p0), .val (.ref b5), .val (.ref t), .val (.ref t)] [(.ref t)])) _
    refine st122.trans ?_
    show Steps p.tables e below (T122.setTop (mkF m 138 #[.val (.int p0), .val (.ref b5), .val (.ref t), .val (.ref t)] [(.int (0 : Int32))])) _
    refine XS.ifNo X122.here hx rfl (hb hby at_138) rfl ((if0 _ _).trans (teq (by decide : (0 : Int32) = (0 : Int32))).2) ?_
    show Steps p.tables e below (T122.setTop (mkF m 141 #[.val (.int p0), .val (.ref b5), .val (.ref t), .val (.ref t)] [])) _
    refine XS.aloadN X122.here hx rfl (hb hby at_141) rfl rfl ?_
    show Steps p.tables e below (T122.setTop (mkF m 142 #[.val (.int p0), .val (.ref b5), .val (.ref t), .val (.ref t)] [(.ref t)])) _
    refine XS.aloadN X122.here hx rfl (hb hby at_142) rfl rfl ?_
    show Steps p.tables e below (T122.setTop (mkF m 143 #[.val (.int p0), .val (.ref b5), .val (.ref t), .val (.ref t)] [(.ref t), (.ref t)])) _
    refine Jvm.RoadKit.acmp (g := (mkF m 143 #[.val (.int p0), .val (.ref b5), .val (.ref t), .val (.ref t)] [(.ref t), (.ref t)])) X122 hx rfl rfl rfl (pc0 := 143) (pc' := 148) (same := true) rfl (hb hby at_143) rfl (decide_eq_true rfl) (by decide) (by decide) ?_
    show Steps p.tables e below (T122.setTop (mkF m 148 #[.val (.int p0), .val (.ref b5), .val (.ref t), .val (.ref t)] [])) _
    refine XS.iconst X122.here hx rfl (hb hby at_148) ?_
    show Steps p.tables e below (T122.setTop (mkF m 149 #[.val (.int p0), .val (.ref b5), .val (.ref t), .val (.ref t)] [(.int (1 : Int32))])) _
    exact retN X122 hx (t := .boolean) Bd.returns (by simp) (hb hby at_149) hr
  · show Q0u Z t od rk p0 w_VOID w_BOOL w_CHAR w_SIGNED_CHAR w_UNSIGNED_CHAR w_SHORT w_UNSIGNED_SHORT w_INT w_UNSIGNED_INT w_LONG w_UNSIGNED_LONG w_LONG_LONG w_UNSIGNED_LONG_LONG h0 n0 _ T122.heap _
    exact ⟨rfl, N122⟩
theorem own_ix (x : Int32) : ∃ k : Nat, k < 13 ∧ ((x &&& (2147483647 : Int32)) % (13 : Int32)) = Int32.ofNat k := by
  have e1 : (x &&& (2147483647 : Int32)).toInt = x.toInt % 2 ^ 31 := Jvm.Kit.i32_mask x 2147483647 (k := 31) (by decide) (by decide)
  have p1 : 0 ≤ (x &&& (2147483647 : Int32)).toInt := by rw [e1]; exact Int.emod_nonneg _ (by decide)
  have e2 := (c_irem (x &&& (2147483647 : Int32)) (13 : Int32) 13 rfl).1 p1
  refine ⟨((x &&& (2147483647 : Int32)) % (13 : Int32)).toInt.toNat, by omega, ?_⟩
  rw [← Int32.toInt_inj, Int32.toInt_ofNat_of_lt (by omega)]
  omega
set_option maxRecDepth 65536 in
set_option maxHeartbeats 40000000 in
theorem comes_1 {Post : Tables → Env → Array Value → State → Outcome → State → Prop} (hpost : ∀ tb e args s v u, (limb_1_1.after args s (.returned v) u = true ∧ limb_1_2.after args s (.returned v) u = true ∧ True) → FrameEnd s (.returned v) u (Jvm.fieldLocs frame_1_writes args s ++ Jvm.arrayLocs frame_1_arrays args s ++ Jvm.staticLocs frame_1_statics s) 16 128 → Post tb e args s (.returned v) u) :
    ArmFor flags0 classFile x code maxLocals ret World_1 tables_1 room_1 Calls_1 rest_1 Pre_1 Post := by
  intro l hfl _ _ p e ha hc hk s m args below hf hA hF happ hP
  obtain ⟨hcalls, hrest, hpre⟩ := hP
  obtain ⟨-, -, -, hnamed, -, -, -, hat⟩ := (Spec.applies_iff hf).mp happ
  obtain ⟨hg, hn⟩ := and_e (Cond.before_iff.mp (show (Jvm.Cond.and given_1 narrow_1).before args s = true from hpre))
  obtain ⟨gc, hg⟩ := and_e hg
  have ga0 := hg
  obtain ⟨w0, rfl⟩ : ∃ w0 : Value, args = #[w0] := by
    have hs : args.size = 1 := by simpa [Cond.value, given_1] using gc
    obtain ⟨L⟩ := args
    match L, hs with
    | [w0], _ => exact ⟨w0, rfl⟩
  have hw := fun d (hd : d ∈ tables_1) => atoms_spec (ws := Jvm.Cond.code x code maxLocals ret :: tables_1) hat d (List.mem_cons_of_mem _ hd)
  obtain ⟨i0, ei0⟩ := is_v ga0
  obtain rfl : w0 = (.int i0) := Option.some.inj ei0
  obtain ⟨k0, hn⟩ := and_e hn
  obtain ⟨k1, hn⟩ := and_e hn
  obtain ⟨k2, hn⟩ := and_e hn
  obtain ⟨k3, hn⟩ := and_e hn
  obtain ⟨k4, hn⟩ := and_e hn
  obtain ⟨k5, hn⟩ := and_e hn
  obtain ⟨k6, hn⟩ := and_e hn
  obtain ⟨k7, hn⟩ := and_e hn
  obtain ⟨k8, hn⟩ := and_e hn
  obtain ⟨k9, hn⟩ := and_e hn
  obtain ⟨k10, hn⟩ := and_e hn
  obtain ⟨k11, hn⟩ := and_e hn
  obtain ⟨k12, hn⟩ := and_e hn
  obtain ⟨k13, hn⟩ := and_e hn
  obtain ⟨k14, hn⟩ := and_e hn
  obtain ⟨k15, hn⟩ := and_e hn
  obtain ⟨k16, hn⟩ := and_e hn
  obtain ⟨k17, hn⟩ := and_e hn
  obtain ⟨k18, hn⟩ := and_e hn
  obtain ⟨k19, hn⟩ := and_e hn
  obtain ⟨k20, hn⟩ := and_e hn
  obtain ⟨k21, hn⟩ := and_e hn
  obtain ⟨k22, hn⟩ := and_e hn
  obtain ⟨k23, hn⟩ := and_e hn
  obtain ⟨k24, hn⟩ := and_e hn
  obtain ⟨k25, hn⟩ := and_e hn
  obtain ⟨k26, hn⟩ := and_e hn
  obtain ⟨k27, hn⟩ := and_e hn
  obtain ⟨k28, hn⟩ := and_e hn
  obtain ⟨k29, hn⟩ := and_e hn
  obtain ⟨k30, hn⟩ := and_e hn
  obtain ⟨k31, hn⟩ := and_e hn
  obtain ⟨k32, hn⟩ := and_e hn
  obtain ⟨k33, hn⟩ := and_e hn
  obtain ⟨k34, hn⟩ := and_e hn
  obtain ⟨k35, hn⟩ := and_e hn
  obtain ⟨k36, hn⟩ := and_e hn
  obtain ⟨k37, hn⟩ := and_e hn
  obtain ⟨k38, hn⟩ := and_e hn
  obtain ⟨k39, hn⟩ := and_e hn
  obtain ⟨k40, hn⟩ := and_e hn
  obtain ⟨k41, hn⟩ := and_e hn
  obtain ⟨k42, hn⟩ := and_e hn
  obtain ⟨k43, hn⟩ := and_e hn
  obtain ⟨k44, hn⟩ := and_e hn
  obtain ⟨k45, hn⟩ := and_e hn
  obtain ⟨k46, hn⟩ := and_e hn
  obtain ⟨k47, hn⟩ := and_e hn
  obtain ⟨k48, hn⟩ := and_e hn
  obtain ⟨k49, hn⟩ := and_e hn
  obtain ⟨k50, hn⟩ := and_e hn
  have k51 := hn
  obtain ⟨w_VOID, e_w_VOID⟩ := exa_v k0
  have E_w_VOID := Exa.start e_w_VOID k0
  have S_w_VOID := Sta.start e_w_VOID (Or.inr ⟨(hw _ (List.mem_of_getElem? (i := 3) rfl)), (hw _ (List.mem_of_getElem? (i := 4) rfl))⟩)
  obtain ⟨w_BOOL, e_w_BOOL⟩ := exa_v k1
  have E_w_BOOL := Exa.start e_w_BOOL k1
  have S_w_BOOL := Sta.start e_w_BOOL (Or.inr ⟨(hw _ (List.mem_of_getElem? (i := 3) rfl)), (hw _ (List.mem_of_getElem? (i := 7) rfl))⟩)
  obtain ⟨w_CHAR, e_w_CHAR⟩ := exa_v k2
  have E_w_CHAR := Exa.start e_w_CHAR k2
  have S_w_CHAR := Sta.start e_w_CHAR (Or.inr ⟨(hw _ (List.mem_of_getElem? (i := 3) rfl)), (hw _ (List.mem_of_getElem? (i := 9) rfl))⟩)
  obtain ⟨w_SIGNED_CHAR, e_w_SIGNED_CHAR⟩ := exa_v k3
  have E_w_SIGNED_CHAR := Exa.start e_w_SIGNED_CHAR k3
  have S_w_SIGNED_CHAR := Sta.start e_w_SIGNED_CHAR (Or.inr ⟨(hw _ (List.mem_of_getElem? (i := 3) rfl)), (hw _ (List.mem_of_getElem? (i := 11) rfl))⟩)
  obtain ⟨w_UNSIGNED_CHAR, e_w_UNSIGNED_CHAR⟩ := exa_v k4
  have E_w_UNSIGNED_CHAR := Exa.start e_w_UNSIGNED_CHAR k4
  have S_w_UNSIGNED_CHAR := Sta.start e_w_UNSIGNED_CHAR (Or.inr ⟨(hw _ (List.mem_of_getElem? (i := 3) rfl)), (hw _ (List.mem_of_getElem? (i := 13) rfl))⟩)
  obtain ⟨w_SHORT, e_w_SHORT⟩ := exa_v k5
  have E_w_SHORT := Exa.start e_w_SHORT k5
  have S_w_SHORT := Sta.start e_w_SHORT (Or.inr ⟨(hw _ (List.mem_of_getElem? (i := 3) rfl)), (hw _ (List.mem_of_getElem? (i := 15) rfl))⟩)
  obtain ⟨w_UNSIGNED_SHORT, e_w_UNSIGNED_SHORT⟩ := exa_v k6
  have E_w_UNSIGNED_SHORT := Exa.start e_w_UNSIGNED_SHORT k6
  have S_w_UNSIGNED_SHORT := Sta.start e_w_UNSIGNED_SHORT (Or.inr ⟨(hw _ (List.mem_of_getElem? (i := 3) rfl)), (hw _ (List.mem_of_getElem? (i := 17) rfl))⟩)
  obtain ⟨w_INT, e_w_INT⟩ := exa_v k7
  have E_w_INT := Exa.start e_w_INT k7
  have S_w_INT := Sta.start e_w_INT (Or.inr ⟨(hw _ (List.mem_of_getElem? (i := 3) rfl)), (hw _ (List.mem_of_getElem? (i := 19) rfl))⟩)
  obtain ⟨w_UNSIGNED_INT, e_w_UNSIGNED_INT⟩ := exa_v k8
  have E_w_UNSIGNED_INT := Exa.start e_w_UNSIGNED_INT k8
  have S_w_UNSIGNED_INT := Sta.start e_w_UNSIGNED_INT (Or.inr ⟨(hw _ (List.mem_of_getElem? (i := 3) rfl)), (hw _ (List.mem_of_getElem? (i := 21) rfl))⟩)
  obtain ⟨w_LONG, e_w_LONG⟩ := exa_v k9
  have E_w_LONG := Exa.start e_w_LONG k9
  have S_w_LONG := Sta.start e_w_LONG (Or.inr ⟨(hw _ (List.mem_of_getElem? (i := 3) rfl)), (hw _ (List.mem_of_getElem? (i := 23) rfl))⟩)
  obtain ⟨w_UNSIGNED_LONG, e_w_UNSIGNED_LONG⟩ := exa_v k10
  have E_w_UNSIGNED_LONG := Exa.start e_w_UNSIGNED_LONG k10
  have S_w_UNSIGNED_LONG := Sta.start e_w_UNSIGNED_LONG (Or.inr ⟨(hw _ (List.mem_of_getElem? (i := 3) rfl)), (hw _ (List.mem_of_getElem? (i := 25) rfl))⟩)
  obtain ⟨w_LONG_LONG, e_w_LONG_LONG⟩ := exa_v k11
  have E_w_LONG_LONG := Exa.start e_w_LONG_LONG k11
  have S_w_LONG_LONG := Sta.start e_w_LONG_LONG (Or.inr ⟨(hw _ (List.mem_of_getElem? (i := 3) rfl)), (hw _ (List.mem_of_getElem? (i := 27) rfl))⟩)
  obtain ⟨w_UNSIGNED_LONG_LONG, e_w_UNSIGNED_LONG_LONG⟩ := exa_v k12
  have E_w_UNSIGNED_LONG_LONG := Exa.start e_w_UNSIGNED_LONG_LONG k12
  have S_w_UNSIGNED_LONG_LONG := Sta.start e_w_UNSIGNED_LONG_LONG (Or.inr ⟨(hw _ (List.mem_of_getElem? (i := 3) rfl)), (hw _ (List.mem_of_getElem? (i := 29) rfl))⟩)
  have F13 := own_fld e_w_VOID k13
  have F14 := own_fld e_w_VOID k14
  have F15 := own_fld e_w_VOID k15
  have F16 := own_fld e_w_SIGNED_CHAR k16
  have F17 := own_fld e_w_UNSIGNED_CHAR k17
  have F18 := own_fld e_w_UNSIGNED_CHAR k18
  have F19 := own_fld e_w_SIGNED_CHAR k19
  have F20 := own_fld e_w_SIGNED_CHAR k20
  have F21 := own_fld e_w_UNSIGNED_SHORT k21
  have F22 := own_fld e_w_UNSIGNED_SHORT k22
  have F23 := own_fld e_w_UNSIGNED_SHORT k23
  have F24 := own_fld e_w_SHORT k24
  have F25 := own_fld e_w_SHORT k25
  have F26 := own_fld e_w_SHORT k26
  have F27 := own_fld e_w_INT k27
  have F28 := own_fld e_w_UNSIGNED_INT k28
  have F29 := own_fld e_w_UNSIGNED_INT k29
  have F30 := own_fld e_w_INT k30
  have F31 := own_fld e_w_INT k31
  have F32 := own_fld e_w_LONG k32
  have F33 := own_fld e_w_UNSIGNED_LONG k33
  have F34 := own_fld e_w_UNSIGNED_LONG k34
  have F35 := own_fld e_w_LONG k35
  have F36 := own_fld e_w_LONG k36
  have F37 := own_fld e_w_CHAR k37
  have F38 := own_fld e_w_CHAR k38
  have F39 := own_fld e_w_CHAR k39
  have F40 := own_fld e_w_LONG_LONG k40
  have F41 := own_fld e_w_UNSIGNED_LONG_LONG k41
  have F42 := own_fld e_w_UNSIGNED_LONG_LONG k42
  have F43 := own_fld e_w_LONG_LONG k43
  have F44 := own_fld e_w_LONG_LONG k44
  have F45 := own_fld e_w_BOOL k45
  have F46 := own_fld e_w_BOOL k46
  have F47 := own_fld e_w_BOOL k47
  have F48 := own_fld e_w_UNSIGNED_INT k48
  have F49 := own_fld e_w_UNSIGNED_LONG k49
  have F50 := own_fld e_w_UNSIGNED_LONG_LONG k50
  have F51 := own_fld e_w_UNSIGNED_CHAR k51
  obtain ⟨j, hj, hix⟩ := own_ix i0
  have hin : ∀ z : Nat, z < 13 → ¬ (Int32.ofNat z) < 0 ∧ (Int32.ofNat z) < (13 : Int32) := by decide
  have hb := hin j hj
  rw [← hix] at hb
  rcases (by omega : j = 0 ∨ j = 1 ∨ j = 2 ∨ j = 3 ∨ j = 4 ∨ j = 5 ∨ j = 6 ∨ j = 7 ∨ j = 8 ∨ j = 9 ∨ j = 10 ∨ j = 11 ∨ j = 12) with rfl | rfl | rfl | rfl | rfl | rfl | rfl | rfl | rfl | rfl | rfl | rfl | rfl
  · obtain ⟨n, o, h1, h2, h3, _, L, rfl, ⟨rfl, N⟩, hq⟩ := rm0u l s _ hw tables_1 w_VOID (0 : Int32) (-1 : Int32) i0 w_VOID w_BOOL w_CHAR w_SIGNED_CHAR w_UNSIGNED_CHAR w_SHORT w_UNSIGNED_SHORT w_INT w_UNSIGNED_INT w_LONG w_UNSIGNED_LONG w_LONG_LONG w_UNSIGNED_LONG_LONG s.heap s.heap.size (Old.start s) F13 F14 F15 E_w_VOID S_w_VOID E_w_VOID S_w_BOOL E_w_BOOL S_w_CHAR E_w_CHAR S_w_SIGNED_CHAR E_w_SIGNED_CHAR S_w_UNSIGNED_CHAR E_w_UNSIGNED_CHAR S_w_SHORT E_w_SHORT S_w_UNSIGNED_SHORT E_w_UNSIGNED_SHORT S_w_INT E_w_INT S_w_UNSIGNED_INT E_w_UNSIGNED_INT S_w_LONG E_w_LONG S_w_UNSIGNED_LONG E_w_UNSIGNED_LONG S_w_LONG_LONG E_w_LONG_LONG S_w_UNSIGNED_LONG_LONG E_w_UNSIGNED_LONG_LONG hb (by rw [hix]; rfl) (by decide) p e ha hc hk s m _ below hf ((Spec.applies_iff_loose hf).mp happ).1 ⟨rfl, State.Warmed39.refl s, rfl⟩ trivial
    refine ⟨n, _, h1, h2, h3, hpost _ _ _ _ _ _ ⟨Cond.after_iff.mpr rfl, Cond.after_iff.mpr (eq_i res_at (Term.int_eval (1)) rfl), trivial⟩ ⟨hq.1, hq.2.1, (hq.2.2.sift fun y hy => Or.inr (N y hy)).mono (by decide) (by decide)⟩⟩
  · obtain ⟨n, o, h1, h2, h3, _, L, rfl, ⟨rfl, N⟩, hq⟩ := rm0u l s _ hw tables_1 w_BOOL (1 : Int32) (0 : Int32) i0 w_VOID w_BOOL w_CHAR w_SIGNED_CHAR w_UNSIGNED_CHAR w_SHORT w_UNSIGNED_SHORT w_INT w_UNSIGNED_INT w_LONG w_UNSIGNED_LONG w_LONG_LONG w_UNSIGNED_LONG_LONG s.heap s.heap.size (Old.start s) F45 F46 F47 E_w_BOOL S_w_VOID E_w_VOID S_w_BOOL E_w_BOOL S_w_CHAR E_w_CHAR S_w_SIGNED_CHAR E_w_SIGNED_CHAR S_w_UNSIGNED_CHAR E_w_UNSIGNED_CHAR S_w_SHORT E_w_SHORT S_w_UNSIGNED_SHORT E_w_UNSIGNED_SHORT S_w_INT E_w_INT S_w_UNSIGNED_INT E_w_UNSIGNED_INT S_w_LONG E_w_LONG S_w_UNSIGNED_LONG E_w_UNSIGNED_LONG S_w_LONG_LONG E_w_LONG_LONG S_w_UNSIGNED_LONG_LONG E_w_UNSIGNED_LONG_LONG hb (by rw [hix]; rfl) (by decide) p e ha hc hk s m _ below hf ((Spec.applies_iff_loose hf).mp happ).1 ⟨rfl, State.Warmed39.refl s, rfl⟩ trivial
    refine ⟨n, _, h1, h2, h3, hpost _ _ _ _ _ _ ⟨Cond.after_iff.mpr rfl, Cond.after_iff.mpr (eq_i res_at (Term.int_eval (1)) rfl), trivial⟩ ⟨hq.1, hq.2.1, (hq.2.2.sift fun y hy => Or.inr (N y hy)).mono (by decide) (by decide)⟩⟩
  · obtain ⟨n, o, h1, h2, h3, _, L, rfl, ⟨rfl, N⟩, hq⟩ := rm0s l s _ hw tables_1 w_CHAR w_UNSIGNED_CHAR (2 : Int32) (1 : Int32) i0 w_VOID w_BOOL w_CHAR w_SIGNED_CHAR w_UNSIGNED_CHAR w_SHORT w_UNSIGNED_SHORT w_INT w_UNSIGNED_INT w_LONG w_UNSIGNED_LONG w_LONG_LONG w_UNSIGNED_LONG_LONG s.heap s.heap.size (Old.start s) F37 F39 F38 F17 F18 E_w_CHAR E_w_UNSIGNED_CHAR S_w_VOID E_w_VOID S_w_BOOL E_w_BOOL S_w_CHAR E_w_CHAR S_w_SIGNED_CHAR E_w_SIGNED_CHAR S_w_UNSIGNED_CHAR E_w_UNSIGNED_CHAR S_w_SHORT E_w_SHORT S_w_UNSIGNED_SHORT E_w_UNSIGNED_SHORT S_w_INT E_w_INT S_w_UNSIGNED_INT E_w_UNSIGNED_INT S_w_LONG E_w_LONG S_w_UNSIGNED_LONG E_w_UNSIGNED_LONG S_w_LONG_LONG E_w_LONG_LONG S_w_UNSIGNED_LONG_LONG E_w_UNSIGNED_LONG_LONG hb (by rw [hix]; rfl) (by simp) p e ha hc hk s m _ below hf ((Spec.applies_iff_loose hf).mp happ).1 ⟨rfl, State.Warmed39.refl s, rfl⟩ trivial
    refine ⟨n, _, h1, h2, h3, hpost _ _ _ _ _ _ ⟨Cond.after_iff.mpr rfl, Cond.after_iff.mpr (eq_i res_at (Term.int_eval (1)) rfl), trivial⟩ ⟨hq.1, hq.2.1, (hq.2.2.sift fun y hy => Or.inr (N y hy)).mono (by decide) (by decide)⟩⟩
  · obtain ⟨n, o, h1, h2, h3, _, L, rfl, ⟨rfl, N⟩, hq⟩ := rm0s l s _ hw tables_1 w_SIGNED_CHAR w_UNSIGNED_CHAR (3 : Int32) (1 : Int32) i0 w_VOID w_BOOL w_CHAR w_SIGNED_CHAR w_UNSIGNED_CHAR w_SHORT w_UNSIGNED_SHORT w_INT w_UNSIGNED_INT w_LONG w_UNSIGNED_LONG w_LONG_LONG w_UNSIGNED_LONG_LONG s.heap s.heap.size (Old.start s) F16 F20 F19 F17 F18 E_w_SIGNED_CHAR E_w_UNSIGNED_CHAR S_w_VOID E_w_VOID S_w_BOOL E_w_BOOL S_w_CHAR E_w_CHAR S_w_SIGNED_CHAR E_w_SIGNED_CHAR S_w_UNSIGNED_CHAR E_w_UNSIGNED_CHAR S_w_SHORT E_w_SHORT S_w_UNSIGNED_SHORT E_w_UNSIGNED_SHORT S_w_INT E_w_INT S_w_UNSIGNED_INT E_w_UNSIGNED_INT S_w_LONG E_w_LONG S_w_UNSIGNED_LONG E_w_UNSIGNED_LONG S_w_LONG_LONG E_w_LONG_LONG S_w_UNSIGNED_LONG_LONG E_w_UNSIGNED_LONG_LONG hb (by rw [hix]; rfl) (by simp) p e ha hc hk s m _ below hf ((Spec.applies_iff_loose hf).mp happ).1 ⟨rfl, State.Warmed39.refl s, rfl⟩ trivial
    refine ⟨n, _, h1, h2, h3, hpost _ _ _ _ _ _ ⟨Cond.after_iff.mpr rfl, Cond.after_iff.mpr (eq_i res_at (Term.int_eval (1)) rfl), trivial⟩ ⟨hq.1, hq.2.1, (hq.2.2.sift fun y hy => Or.inr (N y hy)).mono (by decide) (by decide)⟩⟩
  · obtain ⟨n, o, h1, h2, h3, _, L, rfl, ⟨rfl, N⟩, hq⟩ := rm0u l s _ hw tables_1 w_UNSIGNED_CHAR (4 : Int32) (1 : Int32) i0 w_VOID w_BOOL w_CHAR w_SIGNED_CHAR w_UNSIGNED_CHAR w_SHORT w_UNSIGNED_SHORT w_INT w_UNSIGNED_INT w_LONG w_UNSIGNED_LONG w_LONG_LONG w_UNSIGNED_LONG_LONG s.heap s.heap.size (Old.start s) F51 F17 F18 E_w_UNSIGNED_CHAR S_w_VOID E_w_VOID S_w_BOOL E_w_BOOL S_w_CHAR E_w_CHAR S_w_SIGNED_CHAR E_w_SIGNED_CHAR S_w_UNSIGNED_CHAR E_w_UNSIGNED_CHAR S_w_SHORT E_w_SHORT S_w_UNSIGNED_SHORT E_w_UNSIGNED_SHORT S_w_INT E_w_INT S_w_UNSIGNED_INT E_w_UNSIGNED_INT S_w_LONG E_w_LONG S_w_UNSIGNED_LONG E_w_UNSIGNED_LONG S_w_LONG_LONG E_w_LONG_LONG S_w_UNSIGNED_LONG_LONG E_w_UNSIGNED_LONG_LONG hb (by rw [hix]; rfl) (by decide) p e ha hc hk s m _ below hf ((Spec.applies_iff_loose hf).mp happ).1 ⟨rfl, State.Warmed39.refl s, rfl⟩ trivial
    refine ⟨n, _, h1, h2, h3, hpost _ _ _ _ _ _ ⟨Cond.after_iff.mpr rfl, Cond.after_iff.mpr (eq_i res_at (Term.int_eval (1)) rfl), trivial⟩ ⟨hq.1, hq.2.1, (hq.2.2.sift fun y hy => Or.inr (N y hy)).mono (by decide) (by decide)⟩⟩
  · obtain ⟨n, o, h1, h2, h3, _, L, rfl, ⟨rfl, N⟩, hq⟩ := rm0s l s _ hw tables_1 w_SHORT w_UNSIGNED_SHORT (5 : Int32) (2 : Int32) i0 w_VOID w_BOOL w_CHAR w_SIGNED_CHAR w_UNSIGNED_CHAR w_SHORT w_UNSIGNED_SHORT w_INT w_UNSIGNED_INT w_LONG w_UNSIGNED_LONG w_LONG_LONG w_UNSIGNED_LONG_LONG s.heap s.heap.size (Old.start s) F24 F26 F25 F22 F23 E_w_SHORT E_w_UNSIGNED_SHORT S_w_VOID E_w_VOID S_w_BOOL E_w_BOOL S_w_CHAR E_w_CHAR S_w_SIGNED_CHAR E_w_SIGNED_CHAR S_w_UNSIGNED_CHAR E_w_UNSIGNED_CHAR S_w_SHORT E_w_SHORT S_w_UNSIGNED_SHORT E_w_UNSIGNED_SHORT S_w_INT E_w_INT S_w_UNSIGNED_INT E_w_UNSIGNED_INT S_w_LONG E_w_LONG S_w_UNSIGNED_LONG E_w_UNSIGNED_LONG S_w_LONG_LONG E_w_LONG_LONG S_w_UNSIGNED_LONG_LONG E_w_UNSIGNED_LONG_LONG hb (by rw [hix]; rfl) (by simp) p e ha hc hk s m _ below hf ((Spec.applies_iff_loose hf).mp happ).1 ⟨rfl, State.Warmed39.refl s, rfl⟩ trivial
    refine ⟨n, _, h1, h2, h3, hpost _ _ _ _ _ _ ⟨Cond.after_iff.mpr rfl, Cond.after_iff.mpr (eq_i res_at (Term.int_eval (1)) rfl), trivial⟩ ⟨hq.1, hq.2.1, (hq.2.2.sift fun y hy => Or.inr (N y hy)).mono (by decide) (by decide)⟩⟩
  · obtain ⟨n, o, h1, h2, h3, _, L, rfl, ⟨rfl, N⟩, hq⟩ := rm0u l s _ hw tables_1 w_UNSIGNED_SHORT (6 : Int32) (2 : Int32) i0 w_VOID w_BOOL w_CHAR w_SIGNED_CHAR w_UNSIGNED_CHAR w_SHORT w_UNSIGNED_SHORT w_INT w_UNSIGNED_INT w_LONG w_UNSIGNED_LONG w_LONG_LONG w_UNSIGNED_LONG_LONG s.heap s.heap.size (Old.start s) F21 F22 F23 E_w_UNSIGNED_SHORT S_w_VOID E_w_VOID S_w_BOOL E_w_BOOL S_w_CHAR E_w_CHAR S_w_SIGNED_CHAR E_w_SIGNED_CHAR S_w_UNSIGNED_CHAR E_w_UNSIGNED_CHAR S_w_SHORT E_w_SHORT S_w_UNSIGNED_SHORT E_w_UNSIGNED_SHORT S_w_INT E_w_INT S_w_UNSIGNED_INT E_w_UNSIGNED_INT S_w_LONG E_w_LONG S_w_UNSIGNED_LONG E_w_UNSIGNED_LONG S_w_LONG_LONG E_w_LONG_LONG S_w_UNSIGNED_LONG_LONG E_w_UNSIGNED_LONG_LONG hb (by rw [hix]; rfl) (by decide) p e ha hc hk s m _ below hf ((Spec.applies_iff_loose hf).mp happ).1 ⟨rfl, State.Warmed39.refl s, rfl⟩ trivial
    refine ⟨n, _, h1, h2, h3, hpost _ _ _ _ _ _ ⟨Cond.after_iff.mpr rfl, Cond.after_iff.mpr (eq_i res_at (Term.int_eval (1)) rfl), trivial⟩ ⟨hq.1, hq.2.1, (hq.2.2.sift fun y hy => Or.inr (N y hy)).mono (by decide) (by decide)⟩⟩
  · obtain ⟨n, o, h1, h2, h3, _, L, rfl, ⟨rfl, N⟩, hq⟩ := rm0s l s _ hw tables_1 w_INT w_UNSIGNED_INT (7 : Int32) (3 : Int32) i0 w_VOID w_BOOL w_CHAR w_SIGNED_CHAR w_UNSIGNED_CHAR w_SHORT w_UNSIGNED_SHORT w_INT w_UNSIGNED_INT w_LONG w_UNSIGNED_LONG w_LONG_LONG w_UNSIGNED_LONG_LONG s.heap s.heap.size (Old.start s) F27 F31 F30 F28 F29 E_w_INT E_w_UNSIGNED_INT S_w_VOID E_w_VOID S_w_BOOL E_w_BOOL S_w_CHAR E_w_CHAR S_w_SIGNED_CHAR E_w_SIGNED_CHAR S_w_UNSIGNED_CHAR E_w_UNSIGNED_CHAR S_w_SHORT E_w_SHORT S_w_UNSIGNED_SHORT E_w_UNSIGNED_SHORT S_w_INT E_w_INT S_w_UNSIGNED_INT E_w_UNSIGNED_INT S_w_LONG E_w_LONG S_w_UNSIGNED_LONG E_w_UNSIGNED_LONG S_w_LONG_LONG E_w_LONG_LONG S_w_UNSIGNED_LONG_LONG E_w_UNSIGNED_LONG_LONG hb (by rw [hix]; rfl) (by simp) p e ha hc hk s m _ below hf ((Spec.applies_iff_loose hf).mp happ).1 ⟨rfl, State.Warmed39.refl s, rfl⟩ trivial
    refine ⟨n, _, h1, h2, h3, hpost _ _ _ _ _ _ ⟨Cond.after_iff.mpr rfl, Cond.after_iff.mpr (eq_i res_at (Term.int_eval (1)) rfl), trivial⟩ ⟨hq.1, hq.2.1, (hq.2.2.sift fun y hy => Or.inr (N y hy)).mono (by decide) (by decide)⟩⟩
  · obtain ⟨n, o, h1, h2, h3, _, L, rfl, ⟨rfl, N⟩, hq⟩ := rm0u l s _ hw tables_1 w_UNSIGNED_INT (8 : Int32) (3 : Int32) i0 w_VOID w_BOOL w_CHAR w_SIGNED_CHAR w_UNSIGNED_CHAR w_SHORT w_UNSIGNED_SHORT w_INT w_UNSIGNED_INT w_LONG w_UNSIGNED_LONG w_LONG_LONG w_UNSIGNED_LONG_LONG s.heap s.heap.size (Old.start s) F48 F28 F29 E_w_UNSIGNED_INT S_w_VOID E_w_VOID S_w_BOOL E_w_BOOL S_w_CHAR E_w_CHAR S_w_SIGNED_CHAR E_w_SIGNED_CHAR S_w_UNSIGNED_CHAR E_w_UNSIGNED_CHAR S_w_SHORT E_w_SHORT S_w_UNSIGNED_SHORT E_w_UNSIGNED_SHORT S_w_INT E_w_INT S_w_UNSIGNED_INT E_w_UNSIGNED_INT S_w_LONG E_w_LONG S_w_UNSIGNED_LONG E_w_UNSIGNED_LONG S_w_LONG_LONG E_w_LONG_LONG S_w_UNSIGNED_LONG_LONG E_w_UNSIGNED_LONG_LONG hb (by rw [hix]; rfl) (by decide) p e ha hc hk s m _ below hf ((Spec.applies_iff_loose hf).mp happ).1 ⟨rfl, State.Warmed39.refl s, rfl⟩ trivial
    refine ⟨n, _, h1, h2, h3, hpost _ _ _ _ _ _ ⟨Cond.after_iff.mpr rfl, Cond.after_iff.mpr (eq_i res_at (Term.int_eval (1)) rfl), trivial⟩ ⟨hq.1, hq.2.1, (hq.2.2.sift fun y hy => Or.inr (N y hy)).mono (by decide) (by decide)⟩⟩
  · obtain ⟨n, o, h1, h2, h3, _, L, rfl, ⟨rfl, N⟩, hq⟩ := rm0s l s _ hw tables_1 w_LONG w_UNSIGNED_LONG (9 : Int32) (4 : Int32) i0 w_VOID w_BOOL w_CHAR w_SIGNED_CHAR w_UNSIGNED_CHAR w_SHORT w_UNSIGNED_SHORT w_INT w_UNSIGNED_INT w_LONG w_UNSIGNED_LONG w_LONG_LONG w_UNSIGNED_LONG_LONG s.heap s.heap.size (Old.start s) F32 F36 F35 F33 F34 E_w_LONG E_w_UNSIGNED_LONG S_w_VOID E_w_VOID S_w_BOOL E_w_BOOL S_w_CHAR E_w_CHAR S_w_SIGNED_CHAR E_w_SIGNED_CHAR S_w_UNSIGNED_CHAR E_w_UNSIGNED_CHAR S_w_SHORT E_w_SHORT S_w_UNSIGNED_SHORT E_w_UNSIGNED_SHORT S_w_INT E_w_INT S_w_UNSIGNED_INT E_w_UNSIGNED_INT S_w_LONG E_w_LONG S_w_UNSIGNED_LONG E_w_UNSIGNED_LONG S_w_LONG_LONG E_w_LONG_LONG S_w_UNSIGNED_LONG_LONG E_w_UNSIGNED_LONG_LONG hb (by rw [hix]; rfl) (by simp) p e ha hc hk s m _ below hf ((Spec.applies_iff_loose hf).mp happ).1 ⟨rfl, State.Warmed39.refl s, rfl⟩ trivial
    refine ⟨n, _, h1, h2, h3, hpost _ _ _ _ _ _ ⟨Cond.after_iff.mpr rfl, Cond.after_iff.mpr (eq_i res_at (Term.int_eval (1)) rfl), trivial⟩ ⟨hq.1, hq.2.1, (hq.2.2.sift fun y hy => Or.inr (N y hy)).mono (by decide) (by decide)⟩⟩
  · obtain ⟨n, o, h1, h2, h3, _, L, rfl, ⟨rfl, N⟩, hq⟩ := rm0u l s _ hw tables_1 w_UNSIGNED_LONG (10 : Int32) (4 : Int32) i0 w_VOID w_BOOL w_CHAR w_SIGNED_CHAR w_UNSIGNED_CHAR w_SHORT w_UNSIGNED_SHORT w_INT w_UNSIGNED_INT w_LONG w_UNSIGNED_LONG w_LONG_LONG w_UNSIGNED_LONG_LONG s.heap s.heap.size (Old.start s) F49 F33 F34 E_w_UNSIGNED_LONG S_w_VOID E_w_VOID S_w_BOOL E_w_BOOL S_w_CHAR E_w_CHAR S_w_SIGNED_CHAR E_w_SIGNED_CHAR S_w_UNSIGNED_CHAR E_w_UNSIGNED_CHAR S_w_SHORT E_w_SHORT S_w_UNSIGNED_SHORT E_w_UNSIGNED_SHORT S_w_INT E_w_INT S_w_UNSIGNED_INT E_w_UNSIGNED_INT S_w_LONG E_w_LONG S_w_UNSIGNED_LONG E_w_UNSIGNED_LONG S_w_LONG_LONG E_w_LONG_LONG S_w_UNSIGNED_LONG_LONG E_w_UNSIGNED_LONG_LONG hb (by rw [hix]; rfl) (by decide) p e ha hc hk s m _ below hf ((Spec.applies_iff_loose hf).mp happ).1 ⟨rfl, State.Warmed39.refl s, rfl⟩ trivial
    refine ⟨n, _, h1, h2, h3, hpost _ _ _ _ _ _ ⟨Cond.after_iff.mpr rfl, Cond.after_iff.mpr (eq_i res_at (Term.int_eval (1)) rfl), trivial⟩ ⟨hq.1, hq.2.1, (hq.2.2.sift fun y hy => Or.inr (N y hy)).mono (by decide) (by decide)⟩⟩
  · obtain ⟨n, o, h1, h2, h3, _, L, rfl, ⟨rfl, N⟩, hq⟩ := rm0s l s _ hw tables_1 w_LONG_LONG w_UNSIGNED_LONG_LONG (11 : Int32) (5 : Int32) i0 w_VOID w_BOOL w_CHAR w_SIGNED_CHAR w_UNSIGNED_CHAR w_SHORT w_UNSIGNED_SHORT w_INT w_UNSIGNED_INT w_LONG w_UNSIGNED_LONG w_LONG_LONG w_UNSIGNED_LONG_LONG s.heap s.heap.size (Old.start s) F40 F44 F43 F41 F42 E_w_LONG_LONG E_w_UNSIGNED_LONG_LONG S_w_VOID E_w_VOID S_w_BOOL E_w_BOOL S_w_CHAR E_w_CHAR S_w_SIGNED_CHAR E_w_SIGNED_CHAR S_w_UNSIGNED_CHAR E_w_UNSIGNED_CHAR S_w_SHORT E_w_SHORT S_w_UNSIGNED_SHORT E_w_UNSIGNED_SHORT S_w_INT E_w_INT S_w_UNSIGNED_INT E_w_UNSIGNED_INT S_w_LONG E_w_LONG S_w_UNSIGNED_LONG E_w_UNSIGNED_LONG S_w_LONG_LONG E_w_LONG_LONG S_w_UNSIGNED_LONG_LONG E_w_UNSIGNED_LONG_LONG hb (by rw [hix]; rfl) (by simp) p e ha hc hk s m _ below hf ((Spec.applies_iff_loose hf).mp happ).1 ⟨rfl, State.Warmed39.refl s, rfl⟩ trivial
    refine ⟨n, _, h1, h2, h3, hpost _ _ _ _ _ _ ⟨Cond.after_iff.mpr rfl, Cond.after_iff.mpr (eq_i res_at (Term.int_eval (1)) rfl), trivial⟩ ⟨hq.1, hq.2.1, (hq.2.2.sift fun y hy => Or.inr (N y hy)).mono (by decide) (by decide)⟩⟩
  · obtain ⟨n, o, h1, h2, h3, _, L, rfl, ⟨rfl, N⟩, hq⟩ := rm0u l s _ hw tables_1 w_UNSIGNED_LONG_LONG (12 : Int32) (5 : Int32) i0 w_VOID w_BOOL w_CHAR w_SIGNED_CHAR w_UNSIGNED_CHAR w_SHORT w_UNSIGNED_SHORT w_INT w_UNSIGNED_INT w_LONG w_UNSIGNED_LONG w_LONG_LONG w_UNSIGNED_LONG_LONG s.heap s.heap.size (Old.start s) F50 F41 F42 E_w_UNSIGNED_LONG_LONG S_w_VOID E_w_VOID S_w_BOOL E_w_BOOL S_w_CHAR E_w_CHAR S_w_SIGNED_CHAR E_w_SIGNED_CHAR S_w_UNSIGNED_CHAR E_w_UNSIGNED_CHAR S_w_SHORT E_w_SHORT S_w_UNSIGNED_SHORT E_w_UNSIGNED_SHORT S_w_INT E_w_INT S_w_UNSIGNED_INT E_w_UNSIGNED_INT S_w_LONG E_w_LONG S_w_UNSIGNED_LONG E_w_UNSIGNED_LONG S_w_LONG_LONG E_w_LONG_LONG S_w_UNSIGNED_LONG_LONG E_w_UNSIGNED_LONG_LONG hb (by rw [hix]; rfl) (by decide) p e ha hc hk s m _ below hf ((Spec.applies_iff_loose hf).mp happ).1 ⟨rfl, State.Warmed39.refl s, rfl⟩ trivial
    refine ⟨n, _, h1, h2, h3, hpost _ _ _ _ _ _ ⟨Cond.after_iff.mpr rfl, Cond.after_iff.mpr (eq_i res_at (Term.int_eval (1)) rfl), trivial⟩ ⟨hq.1, hq.2.1, (hq.2.2.sift fun y hy => Or.inr (N y hy)).mono (by decide) (by decide)⟩⟩
theorem main_1_1 : Claimed_1_1 := comes_1 fun _ _ _ _ _ _ h hF => ⟨h.1, hF⟩
theorem main_1_2 : Claimed_1_2 := comes_1 fun _ _ _ _ _ _ h hF => ⟨h.2.1, hF⟩
end Jvm.Pilot.@@N@@
namespace Jvm.Pilot.@@N@@
open Jvm Jvm.ClassFile Sem Op Lib Jvm.Free Jvm.Stand Jvm.Pilot.@@N@@.Jvm.D
/-! MADE BY PROGRAM (witnessworld.py) out of the Statement's table words and the real class files: 13 classes; the members and pool entries that the words name. The judged class is class 1, her method 1. -/
namespace start1
open Jvm.ClassFile
def u (s : String) : CpInfo := .utf8 (stringToUtf16 s)
/-- a pool by its gaps: so many unusable entries, then the entry; so many at the end -/
def gap : Nat → List CpInfo → List CpInfo
  | 0, r => r
  | n + 1, r => .unusable :: gap n r
def poolList (es : List (Nat × CpInfo)) (last : Nat) : List CpInfo := es.foldr (fun e r => gap e.1 (e.2 :: r)) (gap last [])
def pool (es : List (Nat × CpInfo)) (last : Nat) : Array CpInfo := ⟨poolList es last⟩
def fileOf (pool : Array CpInfo) (this : Nat) (attrs : Array Attribute := #[]) (ms : Array MethodInfo := #[]) (fl : Nat := 33) (sup : Nat := 0) (ifs : Array Nat := #[]) (fds : Array FieldInfo := #[]) : ClassFile where
  minorVersion := 0
  majorVersion := 65
  constantPool := pool
  accessFlags := fl
  thisClass := this
  superClass := sup
  interfaces := ifs
  fields := fds
  methods := ms
  attributes := attrs
def plain (name : String) (sup : Option ClassId) : Class where
  name := name
  kind := .ordinary
  loader := none
  accessFlags := 33
  super := sup
  interfaces := #[]
  cf := none
  fields := #[]
  methods := #[]
  instanceTypes := #[]
  staticTypes := #[]
  resolved := #[]
  callSites := []
  init := .initialized
  statics := none
  mirror := none

def pool0 : Array CpInfo := pool [(5, u "<init>"), (0, u "()V"), (1, .class_ 10), (1, u "java/lang/Object")] 113

def k0m0 : Method := { name := "<init>", desc := "()V", sig := { parameters := [], returnType := none }, accessFlags := 1, code := none }
/-- java/lang/Object -/
def k0 : Class := { plain "java/lang/Object" none with
  accessFlags := 33
  interfaces := #[]
  cf := some (fileOf pool0 8 #[] #[{ accessFlags := 1, nameIndex := 5, descriptorIndex := 6, attributes := #[] }] 33 0 #[] #[])
  fields := #[]
  methods := #[k0m0]
  instanceTypes := #[]
  staticTypes := #[]
  resolved := Array.replicate 124 none
  statics := none }

def pool1 : Array CpInfo := pool [(2, .class_ 4), (1, u "java/lang/Object"), (0, u "<init>"), (0, u "()V"), (0, .class_ 8), (0, u "com/example/abstractor/abstractor/c/CType"), (0, .fieldref 7 10), (0, .nameAndType 11 12), (0, u "VOID"), (0, u "Lcom/example/abstractor/abstractor/c/CType;"), (0, .fieldref 7 14), (0, .nameAndType 15 12), (0, u "BOOL"), (0, .fieldref 7 17), (0, .nameAndType 18 12), (0, u "CHAR"), (0, .fieldref 7 20), (0, .nameAndType 21 12), (0, u "SIGNED_CHAR"), (0, .fieldref 7 23), (0, .nameAndType 24 12), (0, u "UNSIGNED_CHAR"), (0, .fieldref 7 26), (0, .nameAndType 27 12), (0, u "SHORT"), (0, .fieldref 7 29), (0, .nameAndType 30 12), (0, u "UNSIGNED_SHORT"), (0, .fieldref 7 32), (0, .nameAndType 33 12), (0, u "INT"), (0, .fieldref 7 35), (0, .nameAndType 36 12), (0, u "UNSIGNED_INT"), (0, .fieldref 7 38), (0, .nameAndType 39 12), (0, u "LONG"), (0, .fieldref 7 41), (0, .nameAndType 42 12), (0, u "UNSIGNED_LONG"), (0, .fieldref 7 44), (0, .nameAndType 45 12), (0, u "LONG_LONG"), (0, .fieldref 7 47), (0, .nameAndType 48 12), (0, u "UNSIGNED_LONG_LONG"), (0, .integer 2147483647), (0, .methodref 7 51), (0, .nameAndType 52 53), (0, u "toUnsigned"), (0, u "()Lcom/example/abstractor/abstractor/c/CType;"), (0, .methodref 7 55), (0, .nameAndType 56 57), (0, u "isSigned"), (0, u "()Z"), (0, .methodref 7 59), (0, .nameAndType 60 61), (0, u "getRank"), (0, u "()I"), (0, .class_ 63), (0, u "com/example/abstractor/abstractor/c/CTypeToUnsignedPinLaw"), (2, u "law"), (0, u "(I)Z")] 5

def k1m0 : Method := { name := "<init>", desc := "()V", sig := { parameters := [], returnType := none }, accessFlags := 1, code := none }
def k1c1 : Code := { maxStack := 4, maxLocals := 4, code := code, exceptionTable := #[], attributes := #[] }
def k1m1 : Method := { name := "law", desc := "(I)Z", sig := { parameters := [.int], returnType := some .boolean }, accessFlags := 9, code := some k1c1 }
/-- com/example/abstractor/abstractor/c/CTypeToUnsignedPinLaw -/
def k1 : Class := { plain "com/example/abstractor/abstractor/c/CTypeToUnsignedPinLaw" (some 0) with
  accessFlags := 49
  interfaces := #[]
  cf := some (fileOf pool1 62 #[] #[{ accessFlags := 1, nameIndex := 5, descriptorIndex := 6, attributes := #[] }, { accessFlags := 9, nameIndex := 66, descriptorIndex := 67, attributes := #[] }] 49 2 #[] #[])
  fields := #[]
  methods := #[k1m0, k1m1]
  instanceTypes := #[]
  staticTypes := #[]
  resolved := Array.replicate 73 none
  statics := none }

def pool2 : Array CpInfo := pool [(1, .class_ 2), (0, u "java/lang/constant/Constable"), (0, .class_ 4), (0, u "java/lang/Object")] 6

/-- java/lang/constant/Constable -/
def k2 : Class := { plain "java/lang/constant/Constable" (some 0) with
  accessFlags := 1537
  interfaces := #[]
  cf := some (fileOf pool2 1 #[] #[] 1537 3 #[] #[])
  fields := #[]
  methods := #[]
  instanceTypes := #[]
  staticTypes := #[]
  resolved := Array.replicate 11 none
  statics := none }

def pool3 : Array CpInfo := pool [(1, .class_ 2), (0, u "java/lang/Comparable"), (0, .class_ 4), (0, u "java/lang/Object")] 7

/-- java/lang/Comparable -/
def k3 : Class := { plain "java/lang/Comparable" (some 0) with
  accessFlags := 1537
  interfaces := #[]
  cf := some (fileOf pool3 1 #[] #[] 1537 3 #[] #[])
  fields := #[]
  methods := #[]
  instanceTypes := #[]
  staticTypes := #[]
  resolved := Array.replicate 12 none
  statics := none }

def pool4 : Array CpInfo := pool [(1, .class_ 2), (0, u "java/io/Serializable"), (0, .class_ 4), (0, u "java/lang/Object")] 2

/-- java/io/Serializable -/
def k4 : Class := { plain "java/io/Serializable" (some 0) with
  accessFlags := 1537
  interfaces := #[]
  cf := some (fileOf pool4 1 #[] #[] 1537 3 #[] #[])
  fields := #[]
  methods := #[]
  instanceTypes := #[]
  staticTypes := #[]
  resolved := Array.replicate 7 none
  statics := none }

def pool5 : Array CpInfo := pool [(2, .class_ 4), (1, u "java/lang/Enum"), (0, u "name"), (0, u "Ljava/lang/String;"), (0, .fieldref 2 8), (0, .nameAndType 9 10), (0, u "ordinal"), (0, u "I"), (1, .class_ 14), (1, u "java/lang/Object"), (4, u "hash"), (86, .class_ 108), (1, u "java/lang/Enum$EnumDesc"), (2, .class_ 112), (0, u "java/lang/constant/Constable"), (0, .class_ 114), (0, u "java/lang/Comparable"), (0, .class_ 116), (0, u "java/io/Serializable"), (9, u "()I")] 77

def k5c0 : Code := { maxStack := 1, maxLocals := 1, code := jdk_37_method_2_code, exceptionTable := #[], attributes := #[] }
def k5m0 : Method := { name := "ordinal", desc := "()I", sig := { parameters := [], returnType := some .int }, accessFlags := 17, code := some k5c0 }
/-- java/lang/Enum -/
def k5 : Class := { plain "java/lang/Enum" (some 0) with
  accessFlags := 1057
  interfaces := #[2, 3, 4]
  cf := some (fileOf pool5 2 #[.nestMembers #[106]] #[{ accessFlags := 17, nameIndex := 9, descriptorIndex := 126, attributes := #[] }] 1057 12 #[111, 113, 115] #[{ accessFlags := 18, nameIndex := 5, descriptorIndex := 6, attributes := #[] }, { accessFlags := 18, nameIndex := 9, descriptorIndex := 10, attributes := #[] }, { accessFlags := 2, nameIndex := 19, descriptorIndex := 10, attributes := #[] }])
  fields := #[{ name := "name", type := (.object "java/lang/String"), accessFlags := 18, slot := 0, constantValue := 0 }, { name := "ordinal", type := .int, accessFlags := 18, slot := 1, constantValue := 0 }, { name := "hash", type := .int, accessFlags := 2, slot := 2, constantValue := 0 }]
  methods := #[k5m0]
  instanceTypes := #[(.object "java/lang/String"), .int, .int]
  staticTypes := #[]
  resolved := Array.replicate 204 none
  statics := none }

def pool6 : Array CpInfo := pool [(1, .class_ 2), (0, u "com/example/abstractor/abstractor/c/CType"), (2, u "VOID"), (0, u "Lcom/example/abstractor/abstractor/c/CType;"), (2, u "BOOL"), (2, u "CHAR"), (2, u "SIGNED_CHAR"), (0, .fieldref 1 17), (0, .nameAndType 18 6), (0, u "UNSIGNED_CHAR"), (2, u "SHORT"), (0, .fieldref 1 23), (0, .nameAndType 24 6), (0, u "UNSIGNED_SHORT"), (2, u "INT"), (0, .fieldref 1 29), (0, .nameAndType 30 6), (0, u "UNSIGNED_INT"), (2, u "LONG"), (0, .fieldref 1 35), (0, .nameAndType 36 6), (0, u "UNSIGNED_LONG"), (2, u "LONG_LONG"), (0, .fieldref 1 41), (0, .nameAndType 42 6), (0, u "UNSIGNED_LONG_LONG"), (2, u "$VALUES"), (0, u "[Lcom/example/abstractor/abstractor/c/CType;"), (6, .class_ 55), (1, u "java/lang/Enum"), (8, u "spelling"), (0, u "Ljava/lang/String;"), (0, .fieldref 1 67), (0, .nameAndType 68 69), (0, u "rank"), (0, u "I"), (0, .fieldref 1 71), (0, .nameAndType 72 73), (0, u "signed"), (0, u "Z"), (0, .methodref 1 75), (0, .nameAndType 76 77), (0, u "ordinal"), (0, u "()I"), (53, u "getRank"), (0, u "isSigned"), (0, u "()Z"), (0, u "toUnsigned"), (0, u "()Lcom/example/abstractor/abstractor/c/CType;")] 8

def k6c0 : Code := { maxStack := 1, maxLocals := 1, code := prog_31_method_4_code, exceptionTable := #[], attributes := #[] }
def k6m0 : Method := { name := "getRank", desc := "()I", sig := { parameters := [], returnType := some .int }, accessFlags := 0, code := some k6c0 }
def k6c1 : Code := { maxStack := 1, maxLocals := 1, code := prog_31_method_5_code, exceptionTable := #[], attributes := #[] }
def k6m1 : Method := { name := "isSigned", desc := "()Z", sig := { parameters := [], returnType := some .boolean }, accessFlags := 0, code := some k6c1 }
def k6c2 : Code := { maxStack := 1, maxLocals := 1, code := prog_31_method_6_code, exceptionTable := #[], attributes := #[] }
def k6m2 : Method := { name := "toUnsigned", desc := "()Lcom/example/abstractor/abstractor/c/CType;", sig := { parameters := [], returnType := some (.object "com/example/abstractor/abstractor/c/CType") }, accessFlags := 0, code := some k6c2 }
/-- com/example/abstractor/abstractor/c/CType -/
def k6 : Class := { plain "com/example/abstractor/abstractor/c/CType" (some 5) with
  accessFlags := 16432
  interfaces := #[]
  cf := some (fileOf pool6 1 #[] #[{ accessFlags := 0, nameIndex := 131, descriptorIndex := 77, attributes := #[] }, { accessFlags := 0, nameIndex := 132, descriptorIndex := 133, attributes := #[] }, { accessFlags := 0, nameIndex := 134, descriptorIndex := 135, attributes := #[] }] 16432 53 #[] #[{ accessFlags := 16409, nameIndex := 5, descriptorIndex := 6, attributes := #[] }, { accessFlags := 16409, nameIndex := 9, descriptorIndex := 6, attributes := #[] }, { accessFlags := 16409, nameIndex := 12, descriptorIndex := 6, attributes := #[] }, { accessFlags := 16409, nameIndex := 15, descriptorIndex := 6, attributes := #[] }, { accessFlags := 16409, nameIndex := 18, descriptorIndex := 6, attributes := #[] }, { accessFlags := 16409, nameIndex := 21, descriptorIndex := 6, attributes := #[] }, { accessFlags := 16409, nameIndex := 24, descriptorIndex := 6, attributes := #[] }, { accessFlags := 16409, nameIndex := 27, descriptorIndex := 6, attributes := #[] }, { accessFlags := 16409, nameIndex := 30, descriptorIndex := 6, attributes := #[] }, { accessFlags := 16409, nameIndex := 33, descriptorIndex := 6, attributes := #[] }, { accessFlags := 16409, nameIndex := 36, descriptorIndex := 6, attributes := #[] }, { accessFlags := 16409, nameIndex := 39, descriptorIndex := 6, attributes := #[] }, { accessFlags := 16409, nameIndex := 42, descriptorIndex := 6, attributes := #[] }, { accessFlags := 18, nameIndex := 64, descriptorIndex := 65, attributes := #[] }, { accessFlags := 18, nameIndex := 68, descriptorIndex := 69, attributes := #[] }, { accessFlags := 18, nameIndex := 72, descriptorIndex := 73, attributes := #[] }, { accessFlags := 4122, nameIndex := 45, descriptorIndex := 46, attributes := #[] }])
  fields := #[{ name := "VOID", type := (.object "com/example/abstractor/abstractor/c/CType"), accessFlags := 16409, slot := 0, constantValue := 0 }, { name := "BOOL", type := (.object "com/example/abstractor/abstractor/c/CType"), accessFlags := 16409, slot := 1, constantValue := 0 }, { name := "CHAR", type := (.object "com/example/abstractor/abstractor/c/CType"), accessFlags := 16409, slot := 2, constantValue := 0 }, { name := "SIGNED_CHAR", type := (.object "com/example/abstractor/abstractor/c/CType"), accessFlags := 16409, slot := 3, constantValue := 0 }, { name := "UNSIGNED_CHAR", type := (.object "com/example/abstractor/abstractor/c/CType"), accessFlags := 16409, slot := 4, constantValue := 0 }, { name := "SHORT", type := (.object "com/example/abstractor/abstractor/c/CType"), accessFlags := 16409, slot := 5, constantValue := 0 }, { name := "UNSIGNED_SHORT", type := (.object "com/example/abstractor/abstractor/c/CType"), accessFlags := 16409, slot := 6, constantValue := 0 }, { name := "INT", type := (.object "com/example/abstractor/abstractor/c/CType"), accessFlags := 16409, slot := 7, constantValue := 0 }, { name := "UNSIGNED_INT", type := (.object "com/example/abstractor/abstractor/c/CType"), accessFlags := 16409, slot := 8, constantValue := 0 }, { name := "LONG", type := (.object "com/example/abstractor/abstractor/c/CType"), accessFlags := 16409, slot := 9, constantValue := 0 }, { name := "UNSIGNED_LONG", type := (.object "com/example/abstractor/abstractor/c/CType"), accessFlags := 16409, slot := 10, constantValue := 0 }, { name := "LONG_LONG", type := (.object "com/example/abstractor/abstractor/c/CType"), accessFlags := 16409, slot := 11, constantValue := 0 }, { name := "UNSIGNED_LONG_LONG", type := (.object "com/example/abstractor/abstractor/c/CType"), accessFlags := 16409, slot := 12, constantValue := 0 }, { name := "spelling", type := (.object "java/lang/String"), accessFlags := 18, slot := 3, constantValue := 0 }, { name := "rank", type := .int, accessFlags := 18, slot := 4, constantValue := 0 }, { name := "signed", type := .boolean, accessFlags := 18, slot := 5, constantValue := 0 }, { name := "$VALUES", type := (.array (.object "com/example/abstractor/abstractor/c/CType")), accessFlags := 4122, slot := 13, constantValue := 0 }]
  methods := #[k6m0, k6m1, k6m2]
  instanceTypes := #[(.object "java/lang/String"), .int, .int, (.object "java/lang/String"), .int, .boolean]
  staticTypes := #[(.object "com/example/abstractor/abstractor/c/CType"), (.object "com/example/abstractor/abstractor/c/CType"), (.object "com/example/abstractor/abstractor/c/CType"), (.object "com/example/abstractor/abstractor/c/CType"), (.object "com/example/abstractor/abstractor/c/CType"), (.object "com/example/abstractor/abstractor/c/CType"), (.object "com/example/abstractor/abstractor/c/CType"), (.object "com/example/abstractor/abstractor/c/CType"), (.object "com/example/abstractor/abstractor/c/CType"), (.object "com/example/abstractor/abstractor/c/CType"), (.object "com/example/abstractor/abstractor/c/CType"), (.object "com/example/abstractor/abstractor/c/CType"), (.object "com/example/abstractor/abstractor/c/CType"), (.array (.object "com/example/abstractor/abstractor/c/CType"))]
  resolved := Array.replicate 144 none
  statics := some 0 }

def pool7 : Array CpInfo := pool [(1, u "java/lang/Cloneable"), (0, .class_ 1), (0, u "java/lang/Object"), (0, .class_ 3)] 3

/-- java/lang/Cloneable -/
def k7 : Class := { plain "java/lang/Cloneable" (some 0) with
  accessFlags := 1537
  interfaces := #[]
  cf := some (fileOf pool7 2 #[] #[] 1537 4 #[] #[])
  fields := #[]
  methods := #[]
  instanceTypes := #[]
  staticTypes := #[]
  resolved := Array.replicate 8 none
  statics := none }

/-- the primitive byte -/
def k8 : Class := { plain "byte" none with kind := .primitive 'B', accessFlags := 0x411 }
/-- [B -/
def k9 : Class := { plain "[B" (some 0) with kind := .array 8 .byte, interfaces := #[7, 4], accessFlags := 1041 }

/-- the primitive int -/
def k10 : Class := { plain "int" none with kind := .primitive 'I', accessFlags := 0x411 }
/-- [I -/
def k11 : Class := { plain "[I" (some 0) with kind := .array 10 .int, interfaces := #[7, 4], accessFlags := 1041 }

/-- [Lcom/example/abstractor/abstractor/c/CType; -/
def k12 : Class := { plain "[Lcom/example/abstractor/abstractor/c/CType;" (some 0) with kind := .array 6 (.object "com/example/abstractor/abstractor/c/CType"), interfaces := #[7, 4], accessFlags := 1041 }

def heap : Heap := #[{ cls := 6, slots := #[.ref 1, .ref 2, .ref 3, .ref 4, .ref 5, .ref 6, .ref 7, .ref 8, .ref 9, .ref 10, .ref 11, .ref 12, .ref 13, .null], vm := .statics 6 },
  { cls := 6, slots := #[.null, .int 0, .int 0, .null, .int (-1), .int 0], vm := .none },
  { cls := 6, slots := #[.null, .int 1, .int 0, .null, .int 0, .int 0], vm := .none },
  { cls := 6, slots := #[.null, .int 2, .int 0, .null, .int 1, .int 1], vm := .none },
  { cls := 6, slots := #[.null, .int 3, .int 0, .null, .int 1, .int 1], vm := .none },
  { cls := 6, slots := #[.null, .int 4, .int 0, .null, .int 1, .int 0], vm := .none },
  { cls := 6, slots := #[.null, .int 5, .int 0, .null, .int 2, .int 1], vm := .none },
  { cls := 6, slots := #[.null, .int 6, .int 0, .null, .int 2, .int 0], vm := .none },
  { cls := 6, slots := #[.null, .int 7, .int 0, .null, .int 3, .int 1], vm := .none },
  { cls := 6, slots := #[.null, .int 8, .int 0, .null, .int 3, .int 0], vm := .none },
  { cls := 6, slots := #[.null, .int 9, .int 0, .null, .int 4, .int 1], vm := .none },
  { cls := 6, slots := #[.null, .int 10, .int 0, .null, .int 4, .int 0], vm := .none },
  { cls := 6, slots := #[.null, .int 11, .int 0, .null, .int 5, .int 1], vm := .none },
  { cls := 6, slots := #[.null, .int 12, .int 0, .null, .int 5, .int 0], vm := .none }]
def classes : Array Class := #[k0, k1, k2, k3, k4, k5, k6, k7, k8, k9, k10, k11, k12]
def interned : List (Array UInt16 × Addr) := []
def slotsUsed : Nat := 92
def theMethod : MethodId := ⟨1, 1⟩
def args0 : Array Value := #[.int 5]
def aboutOver (below : List Frame) : State where
  vm := { classes := classes, interned := interned.toArray }
  heap := heap
  slotsUsed := slotsUsed
  threads := #[{ frames := .invoking theMethod args0 :: below }]
def below0 : List Frame := [.native { method := ⟨0, 0⟩, args := #[] }]
def about1 : State := aboutOver below0
def p0 : Program := .bare "" "" ""
def e0 : Env := launch0.env 0 0 0
theorem w_frames : about1.frames = Frame.invoking theMethod args0 :: below0 := rfl
set_option maxRecDepth 65536 in
theorem w_args : argsFit about1.vm theMethod args0 = true := by decide +kernel
set_option maxRecDepth 65536 in
theorem w_heap : heapFits about1 = true := by decide +kernel
set_option maxRecDepth 65536 in
theorem w_runnable : about1.curStatus? = some .runnable := by decide +kernel
set_option maxRecDepth 65536 in
theorem w_alone : about1.alone = true := by decide +kernel
set_option maxRecDepth 65536 in
theorem w_named : about1.methodNamed? x = some theMethod := by decide +kernel
set_option maxRecDepth 65536 in
theorem w_hears : about1.hears theMethod below0 = true := by decide +kernel
set_option maxRecDepth 65536 in
theorem w_ripe : about1.ripe theMethod args0 below0 = true := by decide +kernel
theorem w_running : about1.status = .running := rfl
set_option maxRecDepth 65536 in
theorem w_room : about1.hasRoom e0.platform room_1 = true :=
  launch0.hasRoom_least _ room_1 (by decide +kernel) (by decide +kernel) (by decide +kernel) (by decide +kernel) (by decide +kernel) (by decide +kernel)
theorem allAtoms_all (ts : List Jvm.Cond) (a : Array Jvm.Value) (st : Jvm.State) : (allAtoms ts).before a st = ts.all (fun c => c.before a st) := by
  induction ts with
  | nil => rfl
  | cons c t ih =>
    show (Jvm.Cond.and c (allAtoms t)).before a st = _
    rw [Jvm.Cond.before_and, ih, List.all_cons]
def words1 : List Jvm.Cond := Jvm.Cond.code x code maxLocals ret :: tables_1
/-- a 'code' word, met by the world's own term for the bytes: nothing is compared byte by byte -/
theorem code_word {y : MethodName} {bytes : ByteArray} {mx : Nat} {rt : Option FieldType} {a : Array Value} {s : State} {m : MethodId} {meth : Method} {c : Code} (h1 : s.methodNamed? y = some m) (h2 : s.vm.method? m = some meth) (h3 : meth.code = some c) (h4 : c.code = bytes)
    (h5 : (c.maxLocals == mx && c.exceptionTable.isEmpty && decide (c.maxStack ≤ mostOperands) && decide (meth.sig.returnType = rt) && !meth.locks && decide (parseMethodDescriptor y.desc = some meth.sig)) = true) : (Jvm.Cond.code y bytes mx rt).before a s = true := by
  simp only [Bool.and_eq_true, beq_iff_eq, Bool.not_eq_true', decide_eq_true_eq] at h5
  obtain ⟨⟨⟨⟨⟨g1, g2⟩, g3⟩, g4⟩, g5⟩, g6⟩ := h5
  simp [Cond.before, Cond.holds, Cond.value, h1, h2, h3, h4, g1, g2, g3, g4, g5, g6]
def isCode : Jvm.Cond → Bool
  | .code _ _ _ _ => true
  | _ => false
theorem all_split {L : List Jvm.Cond} {P : Jvm.Cond → Bool} (h1 : L.all (fun c => isCode c || P c) = true) (h2 : ∀ c ∈ L.filter isCode, P c = true) : L.all P = true := by
  refine List.all_eq_true.mpr fun c hc => ?_
  have h := List.all_eq_true.mp h1 c hc
  rcases Bool.eq_false_or_eq_true (isCode c) with hi | hi
  · exact h2 c (List.mem_filter.mpr ⟨hc, hi⟩)
  · simpa [hi] using h
set_option maxRecDepth 65536 in
theorem w_c0 : (Jvm.Cond.code x code maxLocals ret).before args0 about1 = true := code_word (m := ⟨1, 1⟩) (meth := k1m1) (c := k1c1) (by decide +kernel) rfl rfl rfl (by decide +kernel)
set_option maxRecDepth 65536 in
theorem w_c1 : (Jvm.Cond.code ({ cls := "com/example/abstractor/abstractor/c/CType", name := "toUnsigned", desc := "()Lcom/example/abstractor/abstractor/c/CType;" } : Jvm.MethodName) prog_31_method_6_code (1 : Nat) (Option.some (Jvm.ClassFile.FieldType.object "com/example/abstractor/abstractor/c/CType"))).before args0 about1 = true := code_word (m := ⟨6, 2⟩) (meth := k6m2) (c := k6c2) (by decide +kernel) rfl rfl rfl (by decide +kernel)
set_option maxRecDepth 65536 in
theorem w_c2 : (Jvm.Cond.code ({ cls := "java/lang/Enum", name := "ordinal", desc := "()I" } : Jvm.MethodName) jdk_37_method_2_code (1 : Nat) (Option.some Jvm.ClassFile.FieldType.int)).before args0 about1 = true := code_word (m := ⟨5, 0⟩) (meth := k5m0) (c := k5c0) (by decide +kernel) rfl rfl rfl (by decide +kernel)
set_option maxRecDepth 65536 in
theorem w_c3 : (Jvm.Cond.code ({ cls := "com/example/abstractor/abstractor/c/CType", name := "isSigned", desc := "()Z" } : Jvm.MethodName) prog_31_method_5_code (1 : Nat) (Option.some Jvm.ClassFile.FieldType.boolean)).before args0 about1 = true := code_word (m := ⟨6, 1⟩) (meth := k6m1) (c := k6c1) (by decide +kernel) rfl rfl rfl (by decide +kernel)
set_option maxRecDepth 65536 in
theorem w_c4 : (Jvm.Cond.code ({ cls := "com/example/abstractor/abstractor/c/CType", name := "getRank", desc := "()I" } : Jvm.MethodName) prog_31_method_4_code (1 : Nat) (Option.some Jvm.ClassFile.FieldType.int)).before args0 about1 = true := code_word (m := ⟨6, 0⟩) (meth := k6m0) (c := k6c0) (by decide +kernel) rfl rfl rfl (by decide +kernel)
def codes1 : List Jvm.Cond := [Jvm.Cond.code x code maxLocals ret, Jvm.Cond.code ({ cls := "com/example/abstractor/abstractor/c/CType", name := "toUnsigned", desc := "()Lcom/example/abstractor/abstractor/c/CType;" } : Jvm.MethodName) prog_31_method_6_code (1 : Nat) (Option.some (Jvm.ClassFile.FieldType.object "com/example/abstractor/abstractor/c/CType")), Jvm.Cond.code ({ cls := "java/lang/Enum", name := "ordinal", desc := "()I" } : Jvm.MethodName) jdk_37_method_2_code (1 : Nat) (Option.some Jvm.ClassFile.FieldType.int), Jvm.Cond.code ({ cls := "com/example/abstractor/abstractor/c/CType", name := "isSigned", desc := "()Z" } : Jvm.MethodName) prog_31_method_5_code (1 : Nat) (Option.some Jvm.ClassFile.FieldType.boolean), Jvm.Cond.code ({ cls := "com/example/abstractor/abstractor/c/CType", name := "getRank", desc := "()I" } : Jvm.MethodName) prog_31_method_4_code (1 : Nat) (Option.some Jvm.ClassFile.FieldType.int)]
set_option maxRecDepth 65536 in
theorem codes_eq : words1.filter isCode = codes1 := rfl
theorem w_codes : ∀ c ∈ words1.filter isCode, c.before args0 about1 = true := by
  rw [codes_eq]
  intro c hc
  simp only [codes1, List.mem_cons, List.not_mem_nil, or_false] at hc
  rcases hc with rfl | rfl | rfl | rfl | rfl
  · exact w_c0
  · exact w_c1
  · exact w_c2
  · exact w_c3
  · exact w_c4
set_option maxRecDepth 65536 in
theorem w_t1 : (words1.take 24).all (fun c => isCode c || c.before args0 about1) = true := by decide +kernel
set_option maxRecDepth 65536 in
theorem w_t2 : ((words1.drop 24).take 24).all (fun c => isCode c || c.before args0 about1) = true := by decide +kernel
set_option maxRecDepth 65536 in
theorem w_t3 : ((words1.drop 24).drop 24).all (fun c => isCode c || c.before args0 about1) = true := by decide +kernel
theorem w_tables : (allAtoms (Jvm.Cond.code x code maxLocals ret :: tables_1)).before args0 about1 = true := by
  rw [allAtoms_all]
  show words1.all (fun c => c.before args0 about1) = true
  refine all_split ?_ w_codes
  rw [← List.take_append_drop 24 words1, List.all_append, w_t1, ← List.take_append_drop 24 (words1.drop 24), List.all_append, w_t2, w_t3]
  rfl
set_option maxRecDepth 65536 in
theorem w_case : (Jvm.Cond.and given_1 narrow_1).before args0 about1 = true := by decide +kernel
theorem w_applies : (headSpec (Jvm.Cond.code x code maxLocals ret :: tables_1) room_1).applies x e0.platform about1 = true :=
  (Spec.applies_iff w_frames).mpr ⟨w_running, w_runnable, w_alone, w_named, w_hears, w_ripe, w_room, w_tables⟩
theorem atStart : AtStart classFile x code maxLocals ret World_1 tables_1 room_1 Calls_1 rest_1 Pre_1 launch0 p0 e0 about1 theMethod args0 below0 :=
  ⟨lists_1, trivial, launch0.admits_env _ _ _, launch0.least_env, fairChoices_fair.cas, fairChoices_fair.clock, w_frames, w_args, w_heap, w_applies, trivial, trivial, w_case⟩
end start1
theorem witness_1 : WitnessClaimed_1 := ⟨start1.p0, start1.e0, start1.about1, start1.theMethod, start1.args0, start1.below0, start1.atStart⟩
end Jvm.Pilot.@@N@@
