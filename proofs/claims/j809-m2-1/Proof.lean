import JvmDerived
import JvmDerived.Pilot.@@N@@Statement
import JvmDerived.Pilot.@@N@@Code
set_option linter.unusedVariables false
set_option linter.unusedSimpArgs false
@@BLOCK:NumsL.lean.txt@@
namespace Jvm.RoadKit
open Sem ClassFile Op Lib Jvm.Stand Jvm.Free Jvm.LawKit
section New
variable {p : Program} {l : Launch} {e : Env} {R : Room} {s : State} {m : MethodId} {args : Array Value} {below : List Frame} {meth : Method} {c : Code} {T : State} {locs : List Loc} {cells slots : Nat}
theorem retI (X : Stand p l e R s m args below meth c T locs cells slots) (hx : p.tables.exec = Jvm.exec) {pc : Nat} {Ls : Array Slot} {z : Int32} {rest : List Value} (hret : meth.sig.returnType = some .int) (hd : decode c.code pc = .ok (.ireturn, 1)) {fs : List Frame}
    (hl : ∀ (f : JFrame) (acts : List Action), f.method = m → f.locked = none → f.entered = [] → (doReturn e (T.setTop f) acts (some (.int z))).1 = T.setFrames fs) : Steps p.tables e below (T.setTop (mkF m pc Ls (.int z :: rest))) (T.setFrames fs) := by
  have hm' : T.vm.method? m = some meth := X.method'
  have hn : narrow .int (.int z) = .int z := rfl
  show Steps p.tables e below (T.setTop { method := m, pc := pc, locals := Ls, stack := _ :: rest, locked := none }) _
  jvm_step X.here [X.here.top, hx, hd, hm', hret, hn]
  first | (intro acts; rw [hl _ acts rfl rfl rfl]) | rw [hl _ _ rfl rfl rfl]
  exact Steps.refl _
end New
end Jvm.RoadKit
namespace Jvm.Pilot.@@N@@
open Jvm Jvm.ClassFile Sem Op Lib Jvm.Free Jvm.Stand Jvm.LawKit Jvm.RoadKit Bundle Jvm.Pilot.@@N@@.Jvm.D
theorem own_ge {Z : State} {n0 : Nat} {h : Heap} {b : Addr} (X : Old Z n0 h) (q : h.size ≤ b) : n0 ≤ b := Nat.le_trans (X.1 ▸ X.2.1) q
theorem own_irr (x : Int32) : ¬ (x < x) := by rw [Int32.lt_iff_toInt_lt]; exact Int.lt_irrefl _
theorem own_fld {s : State} {args : Array Value} {t : Term} {C n d : String} {k : Int32} {w : Addr} (ht : t.eval args s none [] s = some (.ref w)) (h : (Jvm.Cond.eq (Term.field t C n d) (Term.int k)).value args s none s [] = some true) : Fld s s.heap w C n d (.int k) := by
  have q := eqv_i (Term.int_eval (k)) h
  rw [fld_at ht] at q
  exact Fld.start q
theorem own_fldN {s : State} {args : Array Value} {t : Term} {C n d : String} {w : Addr} (ht : t.eval args s none [] s = some (.ref w)) (h : (Jvm.Cond.eq (Term.field t C n d) Term.null).value args s none s [] = some true) : Fld s s.heap w C n d .null := by
  have q := null_v h
  rw [fld_at ht] at q
  exact Fld.start q
theorem own_fldR {s : State} {args : Array Value} {t : Term} {C n d : String} {w x : Addr} (ht : t.eval args s none [] s = some (.ref w)) (h : (Term.field t C n d).eval args s none [] s = some (.ref x)) : Fld s s.heap w C n d (.ref x) := by
  rw [fld_at ht] at h
  exact Fld.start h
theorem d1_0 : decode prog_6_method_6_code 0 = .ok (.aload_n 0, 1) := by decide +kernel
theorem d1_1 : decode prog_6_method_6_code 1 = .ok (.getfield 42, 3) := by decide +kernel
theorem d1_4 : decode prog_6_method_6_code 4 = .ok (.ifnonnull 7, 3) := by decide +kernel
theorem d1_7 : decode prog_6_method_6_code 7 = .ok (.iconst 1, 1) := by decide +kernel
theorem d1_8 : decode prog_6_method_6_code 8 = .ok (.goto 4, 3) := by decide +kernel
theorem d1_12 : decode prog_6_method_6_code 12 = .ok (.ireturn, 1) := by decide +kernel
theorem pn_com_example_deposita_deposita_core_CitationSender_Key : plainName "com/example/deposita/deposita/core/CitationSender$Key" = true := by first | (simp [plainName, overriddenIn]; done) | decide +kernel
theorem ef_1 (m : MethodId) (x0 : Addr) : entryFrame m #[(.ref x0)] 1 = mkF m 0 #[.val (.ref x0)] [] := by first | (simp [entryFrame, mkF, argsToLocals, Value.category]; done) | rfl
def Q1n (Z : State) (a0 : Addr) (h0 : Heap) (n0 : Nat) (v : Option Value) (h : Heap) (L : List Loc) : Prop := v = some (.int (1 : Int32)) ∧ Fr n0 L ∧ h = h0
set_option maxRecDepth 65536 in
set_option maxHeartbeats 40000000 in
theorem rm1n (l : Launch) (Z : State) (A0 : Array Value) (hw : ∀ d ∈ tables_1, d.before A0 Z = true) (ws : List Jvm.Cond) (a0 : Addr) (h0 : Heap) (n0 : Nat) (OLD : Old Z n0 h0) (f_1 : Fld Z h0 a0 "com/example/deposita/deposita/core/CitationSender$Key" "fallback" "Ljava/lang/String;" .null) :
    MetFree l (⟨"com/example/deposita/deposita/core/CitationSender$Key", "required", "()Z"⟩ : MethodName) (head1 (Jvm.Cond.code (⟨"com/example/deposita/deposita/core/CitationSender$Key", "required", "()Z"⟩ : MethodName) prog_6_method_6_code 1 (some .boolean) :: ws) ({ frames := 0, cells := 0, slots := 0, locals := 0 } : Room)) (fun a U => a = #[(.ref a0)] ∧ Z.Warmed39 U.vm ∧ U.heap = h0) (fun _ _ _ _ _ => True) (fun _ U o U' => ∃ v L, o = .returned v ∧ Q1n Z a0 h0 n0 v U'.heap L ∧ FrameEnd U o U' L ({ frames := 0, cells := 0, slots := 0, locals := 0 } : Room).cells ({ frames := 0, cells := 0, slots := 0, locals := 0 } : Room).slots) := by
  refine MetFree.of_bodySF (plainFor_of_name pn_com_example_deposita_deposita_core_CitationSender_Key) hisR ?_
  intro p e s m args below meth c s₁ Bd hml0 hP hK
  obtain ⟨rfl, hZ, hh⟩ := hP
  have hx := Bd.exec
  have hby := Bd.bytes
  have hml : c.maxLocals = 1 := hml0
  have hown : s.vm.findClass "com/example/deposita/deposita/core/CitationSender$Key" = some m.cls := findClass_of_methodNamed Bd.named
  have hnm := (name_of_methodNamed Bd.named Bd.method).1
  have X0 : Stand p l e ({ frames := 0, cells := 0, slots := 0, locals := 0 } : Room) s m #[(.ref a0)] below meth c s₁ [] 0 0 := Stand.of_body Bd
  have e0 : s₁.heap = h0 := by rw [← hh, Bd.state]; rfl
  have N0 := Fr.nil n0
  have pre0 : ∀ t, Steps p.tables e below (s₁.setTop (mkF m 0 #[.val (.ref a0)] [])) t → Steps p.tables e below (s₁.setTop (entryFrame m #[(.ref a0)] 1)) t := fun t k => castTop (ef_1 m a0) k
  obtain ⟨T2, X2, e2, st2⟩ := getF X0 hx hZ hown (host := "") (Or.inl (hw _ (List.mem_of_getElem? (i := 8) rfl))) Via.refl e0 f_1 (g := (mkF m 1 #[.val (.ref a0)] [(.ref a0)])) rfl rfl (hb hby d1_1)
  obtain ⟨fs, hr, hrun, hended, hW, hsame⟩ := X2.leave (v := some (.int (1 : Int32))) (fun h => by rw [Bd.returns] at h; cases h)
  refine ⟨_, _, pre0 _ ?_, hrun, hended, _, _, rfl, ?_, ⟨_, rfl⟩, hW, hsame.mono (by decide) (by decide)⟩
  · show Steps p.tables e below (s₁.setTop (mkF m 0 #[.val (.ref a0)] [])) _
    refine XS.aloadN X0.here hx rfl (hb hby d1_0) rfl rfl ?_
    show Steps p.tables e below (s₁.setTop (mkF m 1 #[.val (.ref a0)] [(.ref a0)])) _
    refine st2 _ ?_
    show Steps p.tables e below (T2.setTop (mkF m 4 #[.val (.ref a0)] [.null])) _
    refine XS.ifnonnullNo X2.here hx rfl (hb hby d1_4) rfl ?_
    show Steps p.tables e below (T2.setTop (mkF m 7 #[.val (.ref a0)] [])) _
    refine XS.iconst X2.here hx rfl (hb hby d1_7) ?_
    show Steps p.tables e below (T2.setTop (mkF m 8 #[.val (.ref a0)] [(.int (1 : Int32))])) _
    refine XS.goto X2.here hx rfl (pc0 := 8) (pc' := 12) rfl (hb hby d1_8) (by decide) (by decide) ?_
    show Steps p.tables e below (T2.setTop (mkF m 12 #[.val (.ref a0)] [(.int (1 : Int32))])) _
    exact retN X2 hx (t := .boolean) Bd.returns (by simp) (hb hby d1_12) hr
  · show Q1n Z a0 h0 n0 _ T2.heap _
    rw [e2]
    exact ⟨rfl, N0, rfl⟩
theorem d1_11 : decode prog_6_method_6_code 11 = .ok (.iconst 0, 1) := by decide +kernel
def Q1r (Z : State) (a0 : Addr) (w_fallback_a0 : Addr) (h0 : Heap) (n0 : Nat) (v : Option Value) (h : Heap) (L : List Loc) : Prop := v = some (.int (0 : Int32)) ∧ Fr n0 L ∧ h = h0
set_option maxRecDepth 65536 in
set_option maxHeartbeats 40000000 in
theorem rm1r (l : Launch) (Z : State) (A0 : Array Value) (hw : ∀ d ∈ tables_1, d.before A0 Z = true) (ws : List Jvm.Cond) (a0 : Addr) (w_fallback_a0 : Addr) (h0 : Heap) (n0 : Nat) (OLD : Old Z n0 h0) (f_1 : Fld Z h0 a0 "com/example/deposita/deposita/core/CitationSender$Key" "fallback" "Ljava/lang/String;" (.ref w_fallback_a0)) :
    MetFree l (⟨"com/example/deposita/deposita/core/CitationSender$Key", "required", "()Z"⟩ : MethodName) (head1 (Jvm.Cond.code (⟨"com/example/deposita/deposita/core/CitationSender$Key", "required", "()Z"⟩ : MethodName) prog_6_method_6_code 1 (some .boolean) :: ws) ({ frames := 0, cells := 0, slots := 0, locals := 0 } : Room)) (fun a U => a = #[(.ref a0)] ∧ Z.Warmed39 U.vm ∧ U.heap = h0) (fun _ _ _ _ _ => True) (fun _ U o U' => ∃ v L, o = .returned v ∧ Q1r Z a0 w_fallback_a0 h0 n0 v U'.heap L ∧ FrameEnd U o U' L ({ frames := 0, cells := 0, slots := 0, locals := 0 } : Room).cells ({ frames := 0, cells := 0, slots := 0, locals := 0 } : Room).slots) := by
  refine MetFree.of_bodySF (plainFor_of_name pn_com_example_deposita_deposita_core_CitationSender_Key) hisR ?_
  intro p e s m args below meth c s₁ Bd hml0 hP hK
  obtain ⟨rfl, hZ, hh⟩ := hP
  have hx := Bd.exec
  have hby := Bd.bytes
  have hml : c.maxLocals = 1 := hml0
  have hown : s.vm.findClass "com/example/deposita/deposita/core/CitationSender$Key" = some m.cls := findClass_of_methodNamed Bd.named
  have hnm := (name_of_methodNamed Bd.named Bd.method).1
  have X0 : Stand p l e ({ frames := 0, cells := 0, slots := 0, locals := 0 } : Room) s m #[(.ref a0)] below meth c s₁ [] 0 0 := Stand.of_body Bd
  have e0 : s₁.heap = h0 := by rw [← hh, Bd.state]; rfl
  have N0 := Fr.nil n0
  have pre0 : ∀ t, Steps p.tables e below (s₁.setTop (mkF m 0 #[.val (.ref a0)] [])) t → Steps p.tables e below (s₁.setTop (entryFrame m #[(.ref a0)] 1)) t := fun t k => castTop (ef_1 m a0) k
  obtain ⟨T2, X2, e2, st2⟩ := getF X0 hx hZ hown (host := "") (Or.inl (hw _ (List.mem_of_getElem? (i := 8) rfl))) Via.refl e0 f_1 (g := (mkF m 1 #[.val (.ref a0)] [(.ref a0)])) rfl rfl (hb hby d1_1)
  obtain ⟨fs, hr, hrun, hended, hW, hsame⟩ := X2.leave (v := some (.int (0 : Int32))) (fun h => by rw [Bd.returns] at h; cases h)
  refine ⟨_, _, pre0 _ ?_, hrun, hended, _, _, rfl, ?_, ⟨_, rfl⟩, hW, hsame.mono (by decide) (by decide)⟩
  · show Steps p.tables e below (s₁.setTop (mkF m 0 #[.val (.ref a0)] [])) _
    refine XS.aloadN X0.here hx rfl (hb hby d1_0) rfl rfl ?_
    show Steps p.tables e below (s₁.setTop (mkF m 1 #[.val (.ref a0)] [(.ref a0)])) _
    refine st2 _ ?_
    show Steps p.tables e below (T2.setTop (mkF m 4 #[.val (.ref a0)] [(.ref w_fallback_a0)])) _
    refine XS.ifnonnullYes X2.here hx rfl (pc0 := 4) (pc' := 11) rfl (hb hby d1_4) rfl (by decide) (by decide) ?_
    show Steps p.tables e below (T2.setTop (mkF m 11 #[.val (.ref a0)] [])) _
    refine XS.iconst X2.here hx rfl (hb hby d1_11) ?_
    show Steps p.tables e below (T2.setTop (mkF m 12 #[.val (.ref a0)] [(.int (0 : Int32))])) _
    exact retN X2 hx (t := .boolean) Bd.returns (by simp) (hb hby d1_12) hr
  · show Q1r Z a0 w_fallback_a0 h0 n0 _ T2.heap _
    rw [e2]
    exact ⟨rfl, N0, rfl⟩
theorem d2_0 : decode prog_6_method_7_code 0 = .ok (.aload_n 0, 1) := by decide +kernel
theorem d2_1 : decode prog_6_method_7_code 1 = .ok (.getfield 42, 3) := by decide +kernel
theorem d2_4 : decode prog_6_method_7_code 4 = .ok (.areturn, 1) := by decide +kernel
theorem ef_2 (m : MethodId) (x0 : Addr) : entryFrame m #[(.ref x0)] 1 = mkF m 0 #[.val (.ref x0)] [] := by first | (simp [entryFrame, mkF, argsToLocals, Value.category]; done) | rfl
def Q2n (Z : State) (a0 : Addr) (h0 : Heap) (n0 : Nat) (v : Option Value) (h : Heap) (L : List Loc) : Prop := v = some .null ∧ Fr n0 L ∧ h = h0
set_option maxRecDepth 65536 in
set_option maxHeartbeats 40000000 in
theorem rm2n (l : Launch) (Z : State) (A0 : Array Value) (hw : ∀ d ∈ tables_1, d.before A0 Z = true) (ws : List Jvm.Cond) (a0 : Addr) (h0 : Heap) (n0 : Nat) (OLD : Old Z n0 h0) (f_1 : Fld Z h0 a0 "com/example/deposita/deposita/core/CitationSender$Key" "fallback" "Ljava/lang/String;" .null) :
    MetFree l (⟨"com/example/deposita/deposita/core/CitationSender$Key", "fallback", "()Ljava/lang/String;"⟩ : MethodName) (head1 (Jvm.Cond.code (⟨"com/example/deposita/deposita/core/CitationSender$Key", "fallback", "()Ljava/lang/String;"⟩ : MethodName) prog_6_method_7_code 1 (some (.object "java/lang/String")) :: ws) ({ frames := 0, cells := 0, slots := 0, locals := 0 } : Room)) (fun a U => a = #[(.ref a0)] ∧ Z.Warmed39 U.vm ∧ U.heap = h0) (fun _ _ _ _ _ => True) (fun _ U o U' => ∃ v L, o = .returned v ∧ Q2n Z a0 h0 n0 v U'.heap L ∧ FrameEnd U o U' L ({ frames := 0, cells := 0, slots := 0, locals := 0 } : Room).cells ({ frames := 0, cells := 0, slots := 0, locals := 0 } : Room).slots) := by
  refine MetFree.of_bodySF (plainFor_of_name pn_com_example_deposita_deposita_core_CitationSender_Key) hisR ?_
  intro p e s m args below meth c s₁ Bd hml0 hP hK
  obtain ⟨rfl, hZ, hh⟩ := hP
  have hx := Bd.exec
  have hby := Bd.bytes
  have hml : c.maxLocals = 1 := hml0
  have hown : s.vm.findClass "com/example/deposita/deposita/core/CitationSender$Key" = some m.cls := findClass_of_methodNamed Bd.named
  have hnm := (name_of_methodNamed Bd.named Bd.method).1
  have X0 : Stand p l e ({ frames := 0, cells := 0, slots := 0, locals := 0 } : Room) s m #[(.ref a0)] below meth c s₁ [] 0 0 := Stand.of_body Bd
  have e0 : s₁.heap = h0 := by rw [← hh, Bd.state]; rfl
  have N0 := Fr.nil n0
  have pre0 : ∀ t, Steps p.tables e below (s₁.setTop (mkF m 0 #[.val (.ref a0)] [])) t → Steps p.tables e below (s₁.setTop (entryFrame m #[(.ref a0)] 1)) t := fun t k => castTop (ef_2 m a0) k
  obtain ⟨T2, X2, e2, st2⟩ := getF X0 hx hZ hown (host := "") (Or.inl (hw _ (List.mem_of_getElem? (i := 8) rfl))) Via.refl e0 f_1 (g := (mkF m 1 #[.val (.ref a0)] [(.ref a0)])) rfl rfl (hb hby d2_1)
  obtain ⟨fs, hr, hrun, hended, hW, hsame⟩ := X2.leave (v := some .null) (fun h => by rw [Bd.returns] at h; cases h)
  refine ⟨_, _, pre0 _ ?_, hrun, hended, _, _, rfl, ?_, ⟨_, rfl⟩, hW, hsame.mono (by decide) (by decide)⟩
  · show Steps p.tables e below (s₁.setTop (mkF m 0 #[.val (.ref a0)] [])) _
    refine XS.aloadN X0.here hx rfl (hb hby d2_0) rfl rfl ?_
    show Steps p.tables e below (s₁.setTop (mkF m 1 #[.val (.ref a0)] [(.ref a0)])) _
    refine st2 _ ?_
    show Steps p.tables e below (T2.setTop (mkF m 4 #[.val (.ref a0)] [.null])) _
    jvm_step X2.here [X2.here.top, hx, (hb hby d2_4), X2.method', Bd.returns, Value.isRef, FieldType.isReference]
    first | (intro acts; rw [hr _ acts rfl rfl rfl]) | rw [hr _ _ rfl rfl rfl]
    exact Steps.refl _
  · show Q2n Z a0 h0 n0 _ T2.heap _
    rw [e2]
    exact ⟨rfl, N0, rfl⟩
def Q2r (Z : State) (a0 : Addr) (w_fallback_a0 : Addr) (h0 : Heap) (n0 : Nat) (v : Option Value) (h : Heap) (L : List Loc) : Prop := v = some (.ref w_fallback_a0) ∧ Fr n0 L ∧ h = h0
set_option maxRecDepth 65536 in
set_option maxHeartbeats 40000000 in
theorem rm2r (l : Launch) (Z : State) (A0 : Array Value) (hw : ∀ d ∈ tables_1, d.before A0 Z = true) (ws : List Jvm.Cond) (a0 : Addr) (w_fallback_a0 : Addr) (h0 : Heap) (n0 : Nat) (OLD : Old Z n0 h0) (f_1 : Fld Z h0 a0 "com/example/deposita/deposita/core/CitationSender$Key" "fallback" "Ljava/lang/String;" (.ref w_fallback_a0)) :
    MetFree l (⟨"com/example/deposita/deposita/core/CitationSender$Key", "fallback", "()Ljava/lang/String;"⟩ : MethodName) (head1 (Jvm.Cond.code (⟨"com/example/deposita/deposita/core/CitationSender$Key", "fallback", "()Ljava/lang/String;"⟩ : MethodName) prog_6_method_7_code 1 (some (.object "java/lang/String")) :: ws) ({ frames := 0, cells := 0, slots := 0, locals := 0 } : Room)) (fun a U => a = #[(.ref a0)] ∧ Z.Warmed39 U.vm ∧ U.heap = h0) (fun _ _ _ _ _ => True) (fun _ U o U' => ∃ v L, o = .returned v ∧ Q2r Z a0 w_fallback_a0 h0 n0 v U'.heap L ∧ FrameEnd U o U' L ({ frames := 0, cells := 0, slots := 0, locals := 0 } : Room).cells ({ frames := 0, cells := 0, slots := 0, locals := 0 } : Room).slots) := by
  refine MetFree.of_bodySF (plainFor_of_name pn_com_example_deposita_deposita_core_CitationSender_Key) hisR ?_
  intro p e s m args below meth c s₁ Bd hml0 hP hK
  obtain ⟨rfl, hZ, hh⟩ := hP
  have hx := Bd.exec
  have hby := Bd.bytes
  have hml : c.maxLocals = 1 := hml0
  have hown : s.vm.findClass "com/example/deposita/deposita/core/CitationSender$Key" = some m.cls := findClass_of_methodNamed Bd.named
  have hnm := (name_of_methodNamed Bd.named Bd.method).1
  have X0 : Stand p l e ({ frames := 0, cells := 0, slots := 0, locals := 0 } : Room) s m #[(.ref a0)] below meth c s₁ [] 0 0 := Stand.of_body Bd
  have e0 : s₁.heap = h0 := by rw [← hh, Bd.state]; rfl
  have N0 := Fr.nil n0
  have pre0 : ∀ t, Steps p.tables e below (s₁.setTop (mkF m 0 #[.val (.ref a0)] [])) t → Steps p.tables e below (s₁.setTop (entryFrame m #[(.ref a0)] 1)) t := fun t k => castTop (ef_2 m a0) k
  obtain ⟨T2, X2, e2, st2⟩ := getF X0 hx hZ hown (host := "") (Or.inl (hw _ (List.mem_of_getElem? (i := 8) rfl))) Via.refl e0 f_1 (g := (mkF m 1 #[.val (.ref a0)] [(.ref a0)])) rfl rfl (hb hby d2_1)
  obtain ⟨fs, hr, hrun, hended, hW, hsame⟩ := X2.leave (v := some (.ref w_fallback_a0)) (fun h => by rw [Bd.returns] at h; cases h)
  refine ⟨_, _, pre0 _ ?_, hrun, hended, _, _, rfl, ?_, ⟨_, rfl⟩, hW, hsame.mono (by decide) (by decide)⟩
  · show Steps p.tables e below (s₁.setTop (mkF m 0 #[.val (.ref a0)] [])) _
    refine XS.aloadN X0.here hx rfl (hb hby d2_0) rfl rfl ?_
    show Steps p.tables e below (s₁.setTop (mkF m 1 #[.val (.ref a0)] [(.ref a0)])) _
    refine st2 _ ?_
    show Steps p.tables e below (T2.setTop (mkF m 4 #[.val (.ref a0)] [(.ref w_fallback_a0)])) _
    jvm_step X2.here [X2.here.top, hx, (hb hby d2_4), X2.method', Bd.returns, Value.isRef, FieldType.isReference]
    first | (intro acts; rw [hr _ acts rfl rfl rfl]) | rw [hr _ _ rfl rfl rfl]
    exact Steps.refl _
  · show Q2r Z a0 w_fallback_a0 h0 n0 _ T2.heap _
    rw [e2]
    exact ⟨rfl, N0, rfl⟩
theorem pd_0 : parseMethodDescriptor "()Z" = some ⟨[], some .boolean⟩ := by decide +kernel
theorem pd_1 : parseMethodDescriptor "()Ljava/lang/String;" = some ⟨[], some (.object "java/lang/String")⟩ := by decide +kernel
theorem pn_com_example_deposita_deposita_core_KeyRequiredPinLaw : plainName "com/example/deposita/deposita/core/KeyRequiredPinLaw" = true := by first | (simp [plainName, overriddenIn]; done) | decide +kernel
theorem ef_0 (m : MethodId) (x0 : Int32) : entryFrame m #[(.int x0)] maxLocals = mkF m 0 #[.val (.int x0), .unset, .unset, .unset, .unset] [] := by first | (simp [entryFrame, mkF, argsToLocals, Value.category, maxLocals]; done) | rfl
def Q0k0 (Z : State) (p0 : Int32) (w_RECORD_REFERENCE : Addr) (h0 : Heap) (n0 : Nat) (v : Option Value) (h : Heap) (L : List Loc) : Prop := v = some (.int (1 : Int32)) ∧ Fr n0 L
set_option maxRecDepth 65536 in
set_option maxHeartbeats 40000000 in
theorem rm0k0 (l : Launch) (Z : State) (A0 : Array Value) (hw : ∀ d ∈ tables_1, d.before A0 Z = true) (ws : List Jvm.Cond) (p0 : Int32) (w_RECORD_REFERENCE : Addr) (h0 : Heap) (n0 : Nat) (OLD : Old Z n0 h0) (c_1 : (p0 &&& (3 : Int32)) = (0 : Int32)) (f_2 : Sta Z Z.heap "com/example/deposita/deposita/core/CitationSender$Key" "RECORD_REFERENCE" "Lcom/example/deposita/deposita/core/CitationSender$Key;" (.ref w_RECORD_REFERENCE)) (f_4 : Exa Z Z.heap w_RECORD_REFERENCE "com/example/deposita/deposita/core/CitationSender$Key") (f_5 : Fld Z Z.heap w_RECORD_REFERENCE "com/example/deposita/deposita/core/CitationSender$Key" "fallback" "Ljava/lang/String;" .null) :
    MetFree l x (head1 (Jvm.Cond.code x code maxLocals ret :: ws) room_1) (fun a U => a = #[(.int p0)] ∧ Z.Warmed39 U.vm ∧ U.heap = h0) (fun _ _ _ _ _ => True) (fun _ U o U' => ∃ v L, o = .returned v ∧ Q0k0 Z p0 w_RECORD_REFERENCE h0 n0 v U'.heap L ∧ FrameEnd U o U' L room_1.cells room_1.slots) := by
  refine MetFree.of_bodySF (plainFor_of_name pn_com_example_deposita_deposita_core_KeyRequiredPinLaw) hisR ?_
  intro p e s m args below meth c s₁ Bd hml0 hP hK
  obtain ⟨rfl, hZ, hh⟩ := hP
  have hx := Bd.exec
  have hby := Bd.bytes
  have hml : c.maxLocals = 5 := hml0
  have hown : s.vm.findClass "com/example/deposita/deposita/core/KeyRequiredPinLaw" = some m.cls := findClass_of_methodNamed Bd.named
  have hnm := (name_of_methodNamed Bd.named Bd.method).1
  have X0 : Stand p l e room_1 s m #[(.int p0)] below meth c s₁ [] 0 0 := Stand.of_body Bd
  have e0 : s₁.heap = h0 := by rw [← hh, Bd.state]; rfl
  have N0 := Fr.nil n0
  have pre0 : ∀ t, Steps p.tables e below (s₁.setTop (mkF m 0 #[.val (.int p0), .unset, .unset, .unset, .unset] [])) t → Steps p.tables e below (s₁.setTop (entryFrame m #[(.int p0)] maxLocals)) t := fun t k => castTop (ef_0 m p0) k
  obtain ⟨T3, X3, e3, st3⟩ := getS2 X0 hx hZ hown (host := "") (Or.inl (hw _ (List.mem_of_getElem? (i := 0) rfl))) Via.refl e0 (f_2.ext OLD.2) (g := (mkF m 8 #[.val (.int p0), .val (.int (0 : Int32)), .unset, .unset, .unset] [])) rfl (hb hby at_8)
  obtain ⟨cq6, kq6, q6a, q6b, q6c⟩ := isOf hZ e3 (f_4.ext OLD.2)
  obtain ⟨_, _, ⟨T6, L6, k6, n6⟩, -, X6, ⟨Lc6, hQ6, l6, y6, z6⟩, st6⟩ := X3.virtualBack hx (y := (⟨"com/example/deposita/deposita/core/CitationSender$Key", "required", "()Z"⟩ : MethodName)) (z := (⟨"com/example/deposita/deposita/core/CitationSender$Key", "required", "()Z"⟩ : MethodName)) hown (mvT hZ (hw _ (List.mem_of_getElem? (i := 3) rfl))) (mvT hZ (hw _ (List.mem_of_getElem? (i := 4) rfl))) (notFace_of_selects (args := #[]) (mvT hZ (hw _ (List.mem_of_getElem? (i := 6) rfl)))) (mvT hZ (hw _ (List.mem_of_getElem? (i := 6) rfl))) (mvT hZ (hw _ (List.mem_of_getElem? (i := 5) rfl))) (by decide) (backOf (W := 0) (rm1n l Z A0 hw [] w_RECORD_REFERENCE h0 n0 OLD (f_5.ext OLD.2)) hZ (hw _ (List.mem_of_getElem? (i := 7) rfl)) (hw _ (List.mem_of_getElem? (i := 1) rfl)) (by decide) (by decide)) q6a q6c (g := (mkF m 55 #[.val (.int p0), .val (.int (0 : Int32)), .val (.ref w_RECORD_REFERENCE), .val (.int (1 : Int32)), .unset] [(.ref w_RECORD_REFERENCE)])) rfl (by rw [hml]; rfl) (Steps.refl _) (argsL := []) (rest := []) (lenOf pd_0 rfl) rfl (by show 2 * 0 + _ ≤ _; exact Nat.le_of_eq rfl) (hb hby at_55) (fun _ _ => ⟨rfl, e3, (by decide : 0 + 0 ≤ _), (by decide : 0 + 0 ≤ _)⟩)
  dsimp only [Pt.U, Pt.locs, Pt.cells, Pt.slots] at X6 l6 y6 z6 st6 hQ6
  subst l6 y6 z6
  obtain ⟨rfl, N6q, e6⟩ := hQ6
  have N6 := Fr.app N0 N6q
  obtain ⟨cq7, kq7, q7a, q7b, q7c⟩ := isOf hZ e6 (f_4.ext OLD.2)
  obtain ⟨_, _, ⟨T7, L7, k7, n7⟩, -, X7, ⟨Lc7, hQ7, l7, y7, z7⟩, st7⟩ := X6.virtualBack hx (y := (⟨"com/example/deposita/deposita/core/CitationSender$Key", "fallback", "()Ljava/lang/String;"⟩ : MethodName)) (z := (⟨"com/example/deposita/deposita/core/CitationSender$Key", "fallback", "()Ljava/lang/String;"⟩ : MethodName)) hown (mvT hZ (hw _ (List.mem_of_getElem? (i := 10) rfl))) (mvT hZ (hw _ (List.mem_of_getElem? (i := 11) rfl))) (notFace_of_selects (args := #[]) (mvT hZ (hw _ (List.mem_of_getElem? (i := 13) rfl)))) (mvT hZ (hw _ (List.mem_of_getElem? (i := 13) rfl))) (mvT hZ (hw _ (List.mem_of_getElem? (i := 12) rfl))) (by decide) (backOf (W := 1) (rm2n l Z A0 hw [] w_RECORD_REFERENCE h0 n0 OLD (f_5.ext OLD.2)) hZ (hw _ (List.mem_of_getElem? (i := 14) rfl)) (hw _ (List.mem_of_getElem? (i := 1) rfl)) (by decide) (by decide)) q7a q7c (g := (mkF m 69 #[.val (.int p0), .val (.int (0 : Int32)), .val (.ref w_RECORD_REFERENCE), .val (.int (1 : Int32)), .val (.int (1 : Int32))] [(.ref w_RECORD_REFERENCE), (.int (1 : Int32))])) rfl (by rw [hml]; rfl) (Steps.refl _) (argsL := []) (rest := [(.int (1 : Int32))]) (lenOf pd_1 rfl) rfl (by show 2 * 0 + _ ≤ _; exact Nat.le_of_eq rfl) (hb hby at_69) (fun _ _ => ⟨rfl, e6, (by decide : 0 + 0 ≤ _), (by decide : 0 + 0 ≤ _)⟩)
  dsimp only [Pt.U, Pt.locs, Pt.cells, Pt.slots] at X7 l7 y7 z7 st7 hQ7
  subst l7 y7 z7
  obtain ⟨rfl, N7q, e7⟩ := hQ7
  have N7 := Fr.app N6 N7q
  obtain ⟨fs, hr, hrun, hended, hW, hsame⟩ := X7.leave (v := some (.int (1 : Int32))) (fun h => by rw [Bd.returns] at h; cases h)
  refine ⟨_, _, pre0 _ ?_, hrun, hended, _, _, rfl, ?_, ⟨_, rfl⟩, hW, hsame.mono (by decide) (by decide)⟩
  · show Steps p.tables e below (s₁.setTop (mkF m 0 #[.val (.int p0), .unset, .unset, .unset, .unset] [])) _
    refine XS.iloadN X0.here hx rfl (hb hby at_0) rfl ?_
    show Steps p.tables e below (s₁.setTop (mkF m 1 #[.val (.int p0), .unset, .unset, .unset, .unset] [(.int p0)])) _
    refine XS.iconst X0.here hx rfl (hb hby at_1) ?_
    show Steps p.tables e below (s₁.setTop (mkF m 2 #[.val (.int p0), .unset, .unset, .unset, .unset] [(.int (3 : Int32)), (.int p0)])) _
    refine XS.iand X0.here hx rfl (hb hby at_2) rfl ?_
    show Steps p.tables e below (s₁.setTop (mkF m 3 #[.val (.int p0), .unset, .unset, .unset, .unset] [(.int (p0 &&& (3 : Int32)))])) _
    rw [c_1]
    show Steps p.tables e below (s₁.setTop (mkF m 3 #[.val (.int p0), .unset, .unset, .unset, .unset] [(.int (0 : Int32))])) _
    refine XS.istoreN X0.here hx rfl (hb hby at_3) rfl (l' := #[.val (.int p0), .val (.int (0 : Int32)), .unset, .unset, .unset]) rfl ?_
    show Steps p.tables e below (s₁.setTop (mkF m 4 #[.val (.int p0), .val (.int (0 : Int32)), .unset, .unset, .unset] [])) _
    refine XS.iloadN X0.here hx rfl (hb hby at_4) rfl ?_
    show Steps p.tables e below (s₁.setTop (mkF m 5 #[.val (.int p0), .val (.int (0 : Int32)), .unset, .unset, .unset] [(.int (0 : Int32))])) _
    refine XS.ifNo X0.here hx rfl (hb hby at_5) rfl ((if0 _ _).trans (teq (by decide : (0 : Int32) = (0 : Int32))).2) ?_
    show Steps p.tables e below (s₁.setTop (mkF m 8 #[.val (.int p0), .val (.int (0 : Int32)), .unset, .unset, .unset] [])) _
    refine st3 _ ?_
    show Steps p.tables e below (T3.setTop (mkF m 11 #[.val (.int p0), .val (.int (0 : Int32)), .unset, .unset, .unset] [(.ref w_RECORD_REFERENCE)])) _
    refine XS.astoreN X3.here hx rfl (hb hby at_11) rfl rfl (l' := #[.val (.int p0), .val (.int (0 : Int32)), .val (.ref w_RECORD_REFERENCE), .unset, .unset]) rfl ?_
    show Steps p.tables e below (T3.setTop (mkF m 12 #[.val (.int p0), .val (.int (0 : Int32)), .val (.ref w_RECORD_REFERENCE), .unset, .unset] [])) _
    refine XS.goto X3.here hx rfl (pc0 := 12) (pc' := 43) rfl (hb hby at_12) (by decide) (by decide) ?_
    show Steps p.tables e below (T3.setTop (mkF m 43 #[.val (.int p0), .val (.int (0 : Int32)), .val (.ref w_RECORD_REFERENCE), .unset, .unset] [])) _
    refine XS.iloadN X3.here hx rfl (hb hby at_43) rfl ?_
    show Steps p.tables e below (T3.setTop (mkF m 44 #[.val (.int p0), .val (.int (0 : Int32)), .val (.ref w_RECORD_REFERENCE), .unset, .unset] [(.int (0 : Int32))])) _
    refine XS.iconst X3.here hx rfl (hb hby at_44) ?_
    show Steps p.tables e below (T3.setTop (mkF m 45 #[.val (.int p0), .val (.int (0 : Int32)), .val (.ref w_RECORD_REFERENCE), .unset, .unset] [(.int (3 : Int32)), (.int (0 : Int32))])) _
    refine XS.icmpNo X3.here hx rfl (hb hby at_45) rfl (feq (by decide : ¬ ((0 : Int32) = (3 : Int32)))).1 ?_
    show Steps p.tables e below (T3.setTop (mkF m 48 #[.val (.int p0), .val (.int (0 : Int32)), .val (.ref w_RECORD_REFERENCE), .unset, .unset] [])) _
    refine XS.iconst X3.here hx rfl (hb hby at_48) ?_
    show Steps p.tables e below (T3.setTop (mkF m 49 #[.val (.int p0), .val (.int (0 : Int32)), .val (.ref w_RECORD_REFERENCE), .unset, .unset] [(.int (1 : Int32))])) _
    refine XS.goto X3.here hx rfl (pc0 := 49) (pc' := 53) rfl (hb hby at_49) (by decide) (by decide) ?_
    show Steps p.tables e below (T3.setTop (mkF m 53 #[.val (.int p0), .val (.int (0 : Int32)), .val (.ref w_RECORD_REFERENCE), .unset, .unset] [(.int (1 : Int32))])) _
    refine XS.istoreN X3.here hx rfl (hb hby at_53) rfl (l' := #[.val (.int p0), .val (.int (0 : Int32)), .val (.ref w_RECORD_REFERENCE), .val (.int (1 : Int32)), .unset]) rfl ?_
    show Steps p.tables e below (T3.setTop (mkF m 54 #[.val (.int p0), .val (.int (0 : Int32)), .val (.ref w_RECORD_REFERENCE), .val (.int (1 : Int32)), .unset] [])) _
    refine XS.aloadN X3.here hx rfl (hb hby at_54) rfl rfl ?_
    show Steps p.tables e below (T3.setTop (mkF m 55 #[.val (.int p0), .val (.int (0 : Int32)), .val (.ref w_RECORD_REFERENCE), .val (.int (1 : Int32)), .unset] [(.ref w_RECORD_REFERENCE)])) _
    refine st6.trans ?_
    show Steps p.tables e below (T6.setTop (mkF m 58 #[.val (.int p0), .val (.int (0 : Int32)), .val (.ref w_RECORD_REFERENCE), .val (.int (1 : Int32)), .unset] [(.int (1 : Int32))])) _
    refine XS.istore X6.here hx rfl (hb hby at_58) rfl (l' := #[.val (.int p0), .val (.int (0 : Int32)), .val (.ref w_RECORD_REFERENCE), .val (.int (1 : Int32)), .val (.int (1 : Int32))]) rfl ?_
    show Steps p.tables e below (T6.setTop (mkF m 60 #[.val (.int p0), .val (.int (0 : Int32)), .val (.ref w_RECORD_REFERENCE), .val (.int (1 : Int32)), .val (.int (1 : Int32))] [])) _
    refine XS.iload X6.here hx rfl (hb hby at_60) rfl ?_
    show Steps p.tables e below (T6.setTop (mkF m 62 #[.val (.int p0), .val (.int (0 : Int32)), .val (.ref w_RECORD_REFERENCE), .val (.int (1 : Int32)), .val (.int (1 : Int32))] [(.int (1 : Int32))])) _
    refine XS.iloadN X6.here hx rfl (hb hby at_62) rfl ?_
    show Steps p.tables e below (T6.setTop (mkF m 63 #[.val (.int p0), .val (.int (0 : Int32)), .val (.ref w_RECORD_REFERENCE), .val (.int (1 : Int32)), .val (.int (1 : Int32))] [(.int (1 : Int32)), (.int (1 : Int32))])) _
    refine XS.icmpNo X6.here hx rfl (hb hby at_63) rfl (teq (by decide : (1 : Int32) = (1 : Int32))).2 ?_
    show Steps p.tables e below (T6.setTop (mkF m 66 #[.val (.int p0), .val (.int (0 : Int32)), .val (.ref w_RECORD_REFERENCE), .val (.int (1 : Int32)), .val (.int (1 : Int32))] [])) _
    refine XS.iload X6.here hx rfl (hb hby at_66) rfl ?_
    show Steps p.tables e below (T6.setTop (mkF m 68 #[.val (.int p0), .val (.int (0 : Int32)), .val (.ref w_RECORD_REFERENCE), .val (.int (1 : Int32)), .val (.int (1 : Int32))] [(.int (1 : Int32))])) _
    refine XS.aloadN X6.here hx rfl (hb hby at_68) rfl rfl ?_
    show Steps p.tables e below (T6.setTop (mkF m 69 #[.val (.int p0), .val (.int (0 : Int32)), .val (.ref w_RECORD_REFERENCE), .val (.int (1 : Int32)), .val (.int (1 : Int32))] [(.ref w_RECORD_REFERENCE), (.int (1 : Int32))])) _
    refine st7.trans ?_
    show Steps p.tables e below (T7.setTop (mkF m 72 #[.val (.int p0), .val (.int (0 : Int32)), .val (.ref w_RECORD_REFERENCE), .val (.int (1 : Int32)), .val (.int (1 : Int32))] [.null, (.int (1 : Int32))])) _
    refine XS.ifnonnullNo X7.here hx rfl (hb hby at_72) rfl ?_
    show Steps p.tables e below (T7.setTop (mkF m 75 #[.val (.int p0), .val (.int (0 : Int32)), .val (.ref w_RECORD_REFERENCE), .val (.int (1 : Int32)), .val (.int (1 : Int32))] [(.int (1 : Int32))])) _
    refine XS.iconst X7.here hx rfl (hb hby at_75) ?_
    show Steps p.tables e below (T7.setTop (mkF m 76 #[.val (.int p0), .val (.int (0 : Int32)), .val (.ref w_RECORD_REFERENCE), .val (.int (1 : Int32)), .val (.int (1 : Int32))] [(.int (1 : Int32)), (.int (1 : Int32))])) _
    refine XS.goto X7.here hx rfl (pc0 := 76) (pc' := 80) rfl (hb hby at_76) (by decide) (by decide) ?_
    show Steps p.tables e below (T7.setTop (mkF m 80 #[.val (.int p0), .val (.int (0 : Int32)), .val (.ref w_RECORD_REFERENCE), .val (.int (1 : Int32)), .val (.int (1 : Int32))] [(.int (1 : Int32)), (.int (1 : Int32))])) _
    refine XS.icmpNo X7.here hx rfl (hb hby at_80) rfl (teq (by decide : (1 : Int32) = (1 : Int32))).2 ?_
    show Steps p.tables e below (T7.setTop (mkF m 83 #[.val (.int p0), .val (.int (0 : Int32)), .val (.ref w_RECORD_REFERENCE), .val (.int (1 : Int32)), .val (.int (1 : Int32))] [])) _
    refine XS.iconst X7.here hx rfl (hb hby at_83) ?_
    show Steps p.tables e below (T7.setTop (mkF m 84 #[.val (.int p0), .val (.int (0 : Int32)), .val (.ref w_RECORD_REFERENCE), .val (.int (1 : Int32)), .val (.int (1 : Int32))] [(.int (1 : Int32))])) _
    refine XS.goto X7.here hx rfl (pc0 := 84) (pc' := 88) rfl (hb hby at_84) (by decide) (by decide) ?_
    show Steps p.tables e below (T7.setTop (mkF m 88 #[.val (.int p0), .val (.int (0 : Int32)), .val (.ref w_RECORD_REFERENCE), .val (.int (1 : Int32)), .val (.int (1 : Int32))] [(.int (1 : Int32))])) _
    exact retN X7 hx (t := .boolean) Bd.returns (by simp) (hb hby at_88) hr
  · show Q0k0 Z p0 w_RECORD_REFERENCE h0 n0 _ T7.heap _
    exact ⟨rfl, N7⟩
def Q0k1 (Z : State) (p0 : Int32) (w_FROM_COMPANY : Addr) (h0 : Heap) (n0 : Nat) (v : Option Value) (h : Heap) (L : List Loc) : Prop := v = some (.int (1 : Int32)) ∧ Fr n0 L
set_option maxRecDepth 65536 in
set_option maxHeartbeats 40000000 in
theorem rm0k1 (l : Launch) (Z : State) (A0 : Array Value) (hw : ∀ d ∈ tables_1, d.before A0 Z = true) (ws : List Jvm.Cond) (p0 : Int32) (w_FROM_COMPANY : Addr) (h0 : Heap) (n0 : Nat) (OLD : Old Z n0 h0) (c_1 : (p0 &&& (3 : Int32)) = (1 : Int32)) (f_2 : Sta Z Z.heap "com/example/deposita/deposita/core/CitationSender$Key" "FROM_COMPANY" "Lcom/example/deposita/deposita/core/CitationSender$Key;" (.ref w_FROM_COMPANY)) (f_4 : Exa Z Z.heap w_FROM_COMPANY "com/example/deposita/deposita/core/CitationSender$Key") (f_5 : Fld Z Z.heap w_FROM_COMPANY "com/example/deposita/deposita/core/CitationSender$Key" "fallback" "Ljava/lang/String;" .null) :
    MetFree l x (head1 (Jvm.Cond.code x code maxLocals ret :: ws) room_1) (fun a U => a = #[(.int p0)] ∧ Z.Warmed39 U.vm ∧ U.heap = h0) (fun _ _ _ _ _ => True) (fun _ U o U' => ∃ v L, o = .returned v ∧ Q0k1 Z p0 w_FROM_COMPANY h0 n0 v U'.heap L ∧ FrameEnd U o U' L room_1.cells room_1.slots) := by
  refine MetFree.of_bodySF (plainFor_of_name pn_com_example_deposita_deposita_core_KeyRequiredPinLaw) hisR ?_
  intro p e s m args below meth c s₁ Bd hml0 hP hK
  obtain ⟨rfl, hZ, hh⟩ := hP
  have hx := Bd.exec
  have hby := Bd.bytes
  have hml : c.maxLocals = 5 := hml0
  have hown : s.vm.findClass "com/example/deposita/deposita/core/KeyRequiredPinLaw" = some m.cls := findClass_of_methodNamed Bd.named
  have hnm := (name_of_methodNamed Bd.named Bd.method).1
  have X0 : Stand p l e room_1 s m #[(.int p0)] below meth c s₁ [] 0 0 := Stand.of_body Bd
  have e0 : s₁.heap = h0 := by rw [← hh, Bd.state]; rfl
  have N0 := Fr.nil n0
  have pre0 : ∀ t, Steps p.tables e below (s₁.setTop (mkF m 0 #[.val (.int p0), .unset, .unset, .unset, .unset] [])) t → Steps p.tables e below (s₁.setTop (entryFrame m #[(.int p0)] maxLocals)) t := fun t k => castTop (ef_0 m p0) k
  obtain ⟨T3, X3, e3, st3⟩ := getS2 X0 hx hZ hown (host := "") (Or.inl (hw _ (List.mem_of_getElem? (i := 19) rfl))) Via.refl e0 (f_2.ext OLD.2) (g := (mkF m 20 #[.val (.int p0), .val (.int (1 : Int32)), .unset, .unset, .unset] [])) rfl (hb hby at_20)
  obtain ⟨cq6, kq6, q6a, q6b, q6c⟩ := isOf hZ e3 (f_4.ext OLD.2)
  obtain ⟨_, _, ⟨T6, L6, k6, n6⟩, -, X6, ⟨Lc6, hQ6, l6, y6, z6⟩, st6⟩ := X3.virtualBack hx (y := (⟨"com/example/deposita/deposita/core/CitationSender$Key", "required", "()Z"⟩ : MethodName)) (z := (⟨"com/example/deposita/deposita/core/CitationSender$Key", "required", "()Z"⟩ : MethodName)) hown (mvT hZ (hw _ (List.mem_of_getElem? (i := 3) rfl))) (mvT hZ (hw _ (List.mem_of_getElem? (i := 4) rfl))) (notFace_of_selects (args := #[]) (mvT hZ (hw _ (List.mem_of_getElem? (i := 6) rfl)))) (mvT hZ (hw _ (List.mem_of_getElem? (i := 6) rfl))) (mvT hZ (hw _ (List.mem_of_getElem? (i := 5) rfl))) (by decide) (backOf (W := 0) (rm1n l Z A0 hw [] w_FROM_COMPANY h0 n0 OLD (f_5.ext OLD.2)) hZ (hw _ (List.mem_of_getElem? (i := 7) rfl)) (hw _ (List.mem_of_getElem? (i := 1) rfl)) (by decide) (by decide)) q6a q6c (g := (mkF m 55 #[.val (.int p0), .val (.int (1 : Int32)), .val (.ref w_FROM_COMPANY), .val (.int (1 : Int32)), .unset] [(.ref w_FROM_COMPANY)])) rfl (by rw [hml]; rfl) (Steps.refl _) (argsL := []) (rest := []) (lenOf pd_0 rfl) rfl (by show 2 * 0 + _ ≤ _; exact Nat.le_of_eq rfl) (hb hby at_55) (fun _ _ => ⟨rfl, e3, (by decide : 0 + 0 ≤ _), (by decide : 0 + 0 ≤ _)⟩)
  dsimp only [Pt.U, Pt.locs, Pt.cells, Pt.slots] at X6 l6 y6 z6 st6 hQ6
  subst l6 y6 z6
  obtain ⟨rfl, N6q, e6⟩ := hQ6
  have N6 := Fr.app N0 N6q
  obtain ⟨cq7, kq7, q7a, q7b, q7c⟩ := isOf hZ e6 (f_4.ext OLD.2)
  obtain ⟨_, _, ⟨T7, L7, k7, n7⟩, -, X7, ⟨Lc7, hQ7, l7, y7, z7⟩, st7⟩ := X6.virtualBack hx (y := (⟨"com/example/deposita/deposita/core/CitationSender$Key", "fallback", "()Ljava/lang/String;"⟩ : MethodName)) (z := (⟨"com/example/deposita/deposita/core/CitationSender$Key", "fallback", "()Ljava/lang/String;"⟩ : MethodName)) hown (mvT hZ (hw _ (List.mem_of_getElem? (i := 10) rfl))) (mvT hZ (hw _ (List.mem_of_getElem? (i := 11) rfl))) (notFace_of_selects (args := #[]) (mvT hZ (hw _ (List.mem_of_getElem? (i := 13) rfl)))) (mvT hZ (hw _ (List.mem_of_getElem? (i := 13) rfl))) (mvT hZ (hw _ (List.mem_of_getElem? (i := 12) rfl))) (by decide) (backOf (W := 1) (rm2n l Z A0 hw [] w_FROM_COMPANY h0 n0 OLD (f_5.ext OLD.2)) hZ (hw _ (List.mem_of_getElem? (i := 14) rfl)) (hw _ (List.mem_of_getElem? (i := 1) rfl)) (by decide) (by decide)) q7a q7c (g := (mkF m 69 #[.val (.int p0), .val (.int (1 : Int32)), .val (.ref w_FROM_COMPANY), .val (.int (1 : Int32)), .val (.int (1 : Int32))] [(.ref w_FROM_COMPANY), (.int (1 : Int32))])) rfl (by rw [hml]; rfl) (Steps.refl _) (argsL := []) (rest := [(.int (1 : Int32))]) (lenOf pd_1 rfl) rfl (by show 2 * 0 + _ ≤ _; exact Nat.le_of_eq rfl) (hb hby at_69) (fun _ _ => ⟨rfl, e6, (by decide : 0 + 0 ≤ _), (by decide : 0 + 0 ≤ _)⟩)
  dsimp only [Pt.U, Pt.locs, Pt.cells, Pt.slots] at X7 l7 y7 z7 st7 hQ7
  subst l7 y7 z7
  obtain ⟨rfl, N7q, e7⟩ := hQ7
  have N7 := Fr.app N6 N7q
  obtain ⟨fs, hr, hrun, hended, hW, hsame⟩ := X7.leave (v := some (.int (1 : Int32))) (fun h => by rw [Bd.returns] at h; cases h)
  refine ⟨_, _, pre0 _ ?_, hrun, hended, _, _, rfl, ?_, ⟨_, rfl⟩, hW, hsame.mono (by decide) (by decide)⟩
  · show Steps p.tables e below (s₁.setTop (mkF m 0 #[.val (.int p0), .unset, .unset, .unset, .unset] [])) _
    refine XS.iloadN X0.here hx rfl (hb hby at_0) rfl ?_
    show Steps p.tables e below (s₁.setTop (mkF m 1 #[.val (.int p0), .unset, .unset, .unset, .unset] [(.int p0)])) _
    refine XS.iconst X0.here hx rfl (hb hby at_1) ?_
    show Steps p.tables e below (s₁.setTop (mkF m 2 #[.val (.int p0), .unset, .unset, .unset, .unset] [(.int (3 : Int32)), (.int p0)])) _
    refine XS.iand X0.here hx rfl (hb hby at_2) rfl ?_
    show Steps p.tables e below (s₁.setTop (mkF m 3 #[.val (.int p0), .unset, .unset, .unset, .unset] [(.int (p0 &&& (3 : Int32)))])) _
    rw [c_1]
    show Steps p.tables e below (s₁.setTop (mkF m 3 #[.val (.int p0), .unset, .unset, .unset, .unset] [(.int (1 : Int32))])) _
    refine XS.istoreN X0.here hx rfl (hb hby at_3) rfl (l' := #[.val (.int p0), .val (.int (1 : Int32)), .unset, .unset, .unset]) rfl ?_
    show Steps p.tables e below (s₁.setTop (mkF m 4 #[.val (.int p0), .val (.int (1 : Int32)), .unset, .unset, .unset] [])) _
    refine XS.iloadN X0.here hx rfl (hb hby at_4) rfl ?_
    show Steps p.tables e below (s₁.setTop (mkF m 5 #[.val (.int p0), .val (.int (1 : Int32)), .unset, .unset, .unset] [(.int (1 : Int32))])) _
    refine XS.ifYes X0.here hx rfl (pc0 := 5) (pc' := 15) rfl (hb hby at_5) rfl ((if0 _ _).trans (feq (by decide : ¬ ((1 : Int32) = (0 : Int32)))).2) (by decide) (by decide) ?_
    show Steps p.tables e below (s₁.setTop (mkF m 15 #[.val (.int p0), .val (.int (1 : Int32)), .unset, .unset, .unset] [])) _
    refine XS.iloadN X0.here hx rfl (hb hby at_15) rfl ?_
    show Steps p.tables e below (s₁.setTop (mkF m 16 #[.val (.int p0), .val (.int (1 : Int32)), .unset, .unset, .unset] [(.int (1 : Int32))])) _
    refine XS.iconst X0.here hx rfl (hb hby at_16) ?_
    show Steps p.tables e below (s₁.setTop (mkF m 17 #[.val (.int p0), .val (.int (1 : Int32)), .unset, .unset, .unset] [(.int (1 : Int32)), (.int (1 : Int32))])) _
    refine XS.icmpNo X0.here hx rfl (hb hby at_17) rfl (teq (by decide : (1 : Int32) = (1 : Int32))).2 ?_
    show Steps p.tables e below (s₁.setTop (mkF m 20 #[.val (.int p0), .val (.int (1 : Int32)), .unset, .unset, .unset] [])) _
    refine st3 _ ?_
    show Steps p.tables e below (T3.setTop (mkF m 23 #[.val (.int p0), .val (.int (1 : Int32)), .unset, .unset, .unset] [(.ref w_FROM_COMPANY)])) _
    refine XS.astoreN X3.here hx rfl (hb hby at_23) rfl rfl (l' := #[.val (.int p0), .val (.int (1 : Int32)), .val (.ref w_FROM_COMPANY), .unset, .unset]) rfl ?_
    show Steps p.tables e below (T3.setTop (mkF m 24 #[.val (.int p0), .val (.int (1 : Int32)), .val (.ref w_FROM_COMPANY), .unset, .unset] [])) _
    refine XS.goto X3.here hx rfl (pc0 := 24) (pc' := 43) rfl (hb hby at_24) (by decide) (by decide) ?_
    show Steps p.tables e below (T3.setTop (mkF m 43 #[.val (.int p0), .val (.int (1 : Int32)), .val (.ref w_FROM_COMPANY), .unset, .unset] [])) _
    refine XS.iloadN X3.here hx rfl (hb hby at_43) rfl ?_
    show Steps p.tables e below (T3.setTop (mkF m 44 #[.val (.int p0), .val (.int (1 : Int32)), .val (.ref w_FROM_COMPANY), .unset, .unset] [(.int (1 : Int32))])) _
    refine XS.iconst X3.here hx rfl (hb hby at_44) ?_
    show Steps p.tables e below (T3.setTop (mkF m 45 #[.val (.int p0), .val (.int (1 : Int32)), .val (.ref w_FROM_COMPANY), .unset, .unset] [(.int (3 : Int32)), (.int (1 : Int32))])) _
    refine XS.icmpNo X3.here hx rfl (hb hby at_45) rfl (feq (by decide : ¬ ((1 : Int32) = (3 : Int32)))).1 ?_
    show Steps p.tables e below (T3.setTop (mkF m 48 #[.val (.int p0), .val (.int (1 : Int32)), .val (.ref w_FROM_COMPANY), .unset, .unset] [])) _
    refine XS.iconst X3.here hx rfl (hb hby at_48) ?_
    show Steps p.tables e below (T3.setTop (mkF m 49 #[.val (.int p0), .val (.int (1 : Int32)), .val (.ref w_FROM_COMPANY), .unset, .unset] [(.int (1 : Int32))])) _
    refine XS.goto X3.here hx rfl (pc0 := 49) (pc' := 53) rfl (hb hby at_49) (by decide) (by decide) ?_
    show Steps p.tables e below (T3.setTop (mkF m 53 #[.val (.int p0), .val (.int (1 : Int32)), .val (.ref w_FROM_COMPANY), .unset, .unset] [(.int (1 : Int32))])) _
    refine XS.istoreN X3.here hx rfl (hb hby at_53) rfl (l' := #[.val (.int p0), .val (.int (1 : Int32)), .val (.ref w_FROM_COMPANY), .val (.int (1 : Int32)), .unset]) rfl ?_
    show Steps p.tables e below (T3.setTop (mkF m 54 #[.val (.int p0), .val (.int (1 : Int32)), .val (.ref w_FROM_COMPANY), .val (.int (1 : Int32)), .unset] [])) _
    refine XS.aloadN X3.here hx rfl (hb hby at_54) rfl rfl ?_
    show Steps p.tables e below (T3.setTop (mkF m 55 #[.val (.int p0), .val (.int (1 : Int32)), .val (.ref w_FROM_COMPANY), .val (.int (1 : Int32)), .unset] [(.ref w_FROM_COMPANY)])) _
    refine st6.trans ?_
    show Steps p.tables e below (T6.setTop (mkF m 58 #[.val (.int p0), .val (.int (1 : Int32)), .val (.ref w_FROM_COMPANY), .val (.int (1 : Int32)), .unset] [(.int (1 : Int32))])) _
    refine XS.istore X6.here hx rfl (hb hby at_58) rfl (l' := #[.val (.int p0), .val (.int (1 : Int32)), .val (.ref w_FROM_COMPANY), .val (.int (1 : Int32)), .val (.int (1 : Int32))]) rfl ?_
    show Steps p.tables e below (T6.setTop (mkF m 60 #[.val (.int p0), .val (.int (1 : Int32)), .val (.ref w_FROM_COMPANY), .val (.int (1 : Int32)), .val (.int (1 : Int32))] [])) _
    refine XS.iload X6.here hx rfl (hb hby at_60) rfl ?_
    show Steps p.tables e below (T6.setTop (mkF m 62 #[.val (.int p0), .val (.int (1 : Int32)), .val (.ref w_FROM_COMPANY), .val (.int (1 : Int32)), .val (.int (1 : Int32))] [(.int (1 : Int32))])) _
    refine XS.iloadN X6.here hx rfl (hb hby at_62) rfl ?_
    show Steps p.tables e below (T6.setTop (mkF m 63 #[.val (.int p0), .val (.int (1 : Int32)), .val (.ref w_FROM_COMPANY), .val (.int (1 : Int32)), .val (.int (1 : Int32))] [(.int (1 : Int32)), (.int (1 : Int32))])) _
    refine XS.icmpNo X6.here hx rfl (hb hby at_63) rfl (teq (by decide : (1 : Int32) = (1 : Int32))).2 ?_
    show Steps p.tables e below (T6.setTop (mkF m 66 #[.val (.int p0), .val (.int (1 : Int32)), .val (.ref w_FROM_COMPANY), .val (.int (1 : Int32)), .val (.int (1 : Int32))] [])) _
    refine XS.iload X6.here hx rfl (hb hby at_66) rfl ?_
    show Steps p.tables e below (T6.setTop (mkF m 68 #[.val (.int p0), .val (.int (1 : Int32)), .val (.ref w_FROM_COMPANY), .val (.int (1 : Int32)), .val (.int (1 : Int32))] [(.int (1 : Int32))])) _
    refine XS.aloadN X6.here hx rfl (hb hby at_68) rfl rfl ?_
    show Steps p.tables e below (T6.setTop (mkF m 69 #[.val (.int p0), .val (.int (1 : Int32)), .val (.ref w_FROM_COMPANY), .val (.int (1 : Int32)), .val (.int (1 : Int32))] [(.ref w_FROM_COMPANY), (.int (1 : Int32))])) _
    refine st7.trans ?_
    show Steps p.tables e below (T7.setTop (mkF m 72 #[.val (.int p0), .val (.int (1 : Int32)), .val (.ref w_FROM_COMPANY), .val (.int (1 : Int32)), .val (.int (1 : Int32))] [.null, (.int (1 : Int32))])) _
    refine XS.ifnonnullNo X7.here hx rfl (hb hby at_72) rfl ?_
    show Steps p.tables e below (T7.setTop (mkF m 75 #[.val (.int p0), .val (.int (1 : Int32)), .val (.ref w_FROM_COMPANY), .val (.int (1 : Int32)), .val (.int (1 : Int32))] [(.int (1 : Int32))])) _
    refine XS.iconst X7.here hx rfl (hb hby at_75) ?_
    show Steps p.tables e below (T7.setTop (mkF m 76 #[.val (.int p0), .val (.int (1 : Int32)), .val (.ref w_FROM_COMPANY), .val (.int (1 : Int32)), .val (.int (1 : Int32))] [(.int (1 : Int32)), (.int (1 : Int32))])) _
    refine XS.goto X7.here hx rfl (pc0 := 76) (pc' := 80) rfl (hb hby at_76) (by decide) (by decide) ?_
    show Steps p.tables e below (T7.setTop (mkF m 80 #[.val (.int p0), .val (.int (1 : Int32)), .val (.ref w_FROM_COMPANY), .val (.int (1 : Int32)), .val (.int (1 : Int32))] [(.int (1 : Int32)), (.int (1 : Int32))])) _
    refine XS.icmpNo X7.here hx rfl (hb hby at_80) rfl (teq (by decide : (1 : Int32) = (1 : Int32))).2 ?_
    show Steps p.tables e below (T7.setTop (mkF m 83 #[.val (.int p0), .val (.int (1 : Int32)), .val (.ref w_FROM_COMPANY), .val (.int (1 : Int32)), .val (.int (1 : Int32))] [])) _
    refine XS.iconst X7.here hx rfl (hb hby at_83) ?_
    show Steps p.tables e below (T7.setTop (mkF m 84 #[.val (.int p0), .val (.int (1 : Int32)), .val (.ref w_FROM_COMPANY), .val (.int (1 : Int32)), .val (.int (1 : Int32))] [(.int (1 : Int32))])) _
    refine XS.goto X7.here hx rfl (pc0 := 84) (pc' := 88) rfl (hb hby at_84) (by decide) (by decide) ?_
    show Steps p.tables e below (T7.setTop (mkF m 88 #[.val (.int p0), .val (.int (1 : Int32)), .val (.ref w_FROM_COMPANY), .val (.int (1 : Int32)), .val (.int (1 : Int32))] [(.int (1 : Int32))])) _
    exact retN X7 hx (t := .boolean) Bd.returns (by simp) (hb hby at_88) hr
  · show Q0k1 Z p0 w_FROM_COMPANY h0 n0 _ T7.heap _
    exact ⟨rfl, N7⟩
def Q0k2 (Z : State) (p0 : Int32) (w_FROM_EMAIL : Addr) (h0 : Heap) (n0 : Nat) (v : Option Value) (h : Heap) (L : List Loc) : Prop := v = some (.int (1 : Int32)) ∧ Fr n0 L
set_option maxRecDepth 65536 in
set_option maxHeartbeats 40000000 in
theorem rm0k2 (l : Launch) (Z : State) (A0 : Array Value) (hw : ∀ d ∈ tables_1, d.before A0 Z = true) (ws : List Jvm.Cond) (p0 : Int32) (w_FROM_EMAIL : Addr) (h0 : Heap) (n0 : Nat) (OLD : Old Z n0 h0) (c_1 : (p0 &&& (3 : Int32)) = (2 : Int32)) (f_2 : Sta Z Z.heap "com/example/deposita/deposita/core/CitationSender$Key" "FROM_EMAIL" "Lcom/example/deposita/deposita/core/CitationSender$Key;" (.ref w_FROM_EMAIL)) (f_4 : Exa Z Z.heap w_FROM_EMAIL "com/example/deposita/deposita/core/CitationSender$Key") (f_5 : Fld Z Z.heap w_FROM_EMAIL "com/example/deposita/deposita/core/CitationSender$Key" "fallback" "Ljava/lang/String;" .null) :
    MetFree l x (head1 (Jvm.Cond.code x code maxLocals ret :: ws) room_1) (fun a U => a = #[(.int p0)] ∧ Z.Warmed39 U.vm ∧ U.heap = h0) (fun _ _ _ _ _ => True) (fun _ U o U' => ∃ v L, o = .returned v ∧ Q0k2 Z p0 w_FROM_EMAIL h0 n0 v U'.heap L ∧ FrameEnd U o U' L room_1.cells room_1.slots) := by
  refine MetFree.of_bodySF (plainFor_of_name pn_com_example_deposita_deposita_core_KeyRequiredPinLaw) hisR ?_
  intro p e s m args below meth c s₁ Bd hml0 hP hK
  obtain ⟨rfl, hZ, hh⟩ := hP
  have hx := Bd.exec
  have hby := Bd.bytes
  have hml : c.maxLocals = 5 := hml0
  have hown : s.vm.findClass "com/example/deposita/deposita/core/KeyRequiredPinLaw" = some m.cls := findClass_of_methodNamed Bd.named
  have hnm := (name_of_methodNamed Bd.named Bd.method).1
  have X0 : Stand p l e room_1 s m #[(.int p0)] below meth c s₁ [] 0 0 := Stand.of_body Bd
  have e0 : s₁.heap = h0 := by rw [← hh, Bd.state]; rfl
  have N0 := Fr.nil n0
  have pre0 : ∀ t, Steps p.tables e below (s₁.setTop (mkF m 0 #[.val (.int p0), .unset, .unset, .unset, .unset] [])) t → Steps p.tables e below (s₁.setTop (entryFrame m #[(.int p0)] maxLocals)) t := fun t k => castTop (ef_0 m p0) k
  obtain ⟨T3, X3, e3, st3⟩ := getS2 X0 hx hZ hown (host := "") (Or.inl (hw _ (List.mem_of_getElem? (i := 17) rfl))) Via.refl e0 (f_2.ext OLD.2) (g := (mkF m 32 #[.val (.int p0), .val (.int (2 : Int32)), .unset, .unset, .unset] [])) rfl (hb hby at_32)
  obtain ⟨cq6, kq6, q6a, q6b, q6c⟩ := isOf hZ e3 (f_4.ext OLD.2)
  obtain ⟨_, _, ⟨T6, L6, k6, n6⟩, -, X6, ⟨Lc6, hQ6, l6, y6, z6⟩, st6⟩ := X3.virtualBack hx (y := (⟨"com/example/deposita/deposita/core/CitationSender$Key", "required", "()Z"⟩ : MethodName)) (z := (⟨"com/example/deposita/deposita/core/CitationSender$Key", "required", "()Z"⟩ : MethodName)) hown (mvT hZ (hw _ (List.mem_of_getElem? (i := 3) rfl))) (mvT hZ (hw _ (List.mem_of_getElem? (i := 4) rfl))) (notFace_of_selects (args := #[]) (mvT hZ (hw _ (List.mem_of_getElem? (i := 6) rfl)))) (mvT hZ (hw _ (List.mem_of_getElem? (i := 6) rfl))) (mvT hZ (hw _ (List.mem_of_getElem? (i := 5) rfl))) (by decide) (backOf (W := 0) (rm1n l Z A0 hw [] w_FROM_EMAIL h0 n0 OLD (f_5.ext OLD.2)) hZ (hw _ (List.mem_of_getElem? (i := 7) rfl)) (hw _ (List.mem_of_getElem? (i := 1) rfl)) (by decide) (by decide)) q6a q6c (g := (mkF m 55 #[.val (.int p0), .val (.int (2 : Int32)), .val (.ref w_FROM_EMAIL), .val (.int (1 : Int32)), .unset] [(.ref w_FROM_EMAIL)])) rfl (by rw [hml]; rfl) (Steps.refl _) (argsL := []) (rest := []) (lenOf pd_0 rfl) rfl (by show 2 * 0 + _ ≤ _; exact Nat.le_of_eq rfl) (hb hby at_55) (fun _ _ => ⟨rfl, e3, (by decide : 0 + 0 ≤ _), (by decide : 0 + 0 ≤ _)⟩)
  dsimp only [Pt.U, Pt.locs, Pt.cells, Pt.slots] at X6 l6 y6 z6 st6 hQ6
  subst l6 y6 z6
  obtain ⟨rfl, N6q, e6⟩ := hQ6
  have N6 := Fr.app N0 N6q
  obtain ⟨cq7, kq7, q7a, q7b, q7c⟩ := isOf hZ e6 (f_4.ext OLD.2)
  obtain ⟨_, _, ⟨T7, L7, k7, n7⟩, -, X7, ⟨Lc7, hQ7, l7, y7, z7⟩, st7⟩ := X6.virtualBack hx (y := (⟨"com/example/deposita/deposita/core/CitationSender$Key", "fallback", "()Ljava/lang/String;"⟩ : MethodName)) (z := (⟨"com/example/deposita/deposita/core/CitationSender$Key", "fallback", "()Ljava/lang/String;"⟩ : MethodName)) hown (mvT hZ (hw _ (List.mem_of_getElem? (i := 10) rfl))) (mvT hZ (hw _ (List.mem_of_getElem? (i := 11) rfl))) (notFace_of_selects (args := #[]) (mvT hZ (hw _ (List.mem_of_getElem? (i := 13) rfl)))) (mvT hZ (hw _ (List.mem_of_getElem? (i := 13) rfl))) (mvT hZ (hw _ (List.mem_of_getElem? (i := 12) rfl))) (by decide) (backOf (W := 1) (rm2n l Z A0 hw [] w_FROM_EMAIL h0 n0 OLD (f_5.ext OLD.2)) hZ (hw _ (List.mem_of_getElem? (i := 14) rfl)) (hw _ (List.mem_of_getElem? (i := 1) rfl)) (by decide) (by decide)) q7a q7c (g := (mkF m 69 #[.val (.int p0), .val (.int (2 : Int32)), .val (.ref w_FROM_EMAIL), .val (.int (1 : Int32)), .val (.int (1 : Int32))] [(.ref w_FROM_EMAIL), (.int (1 : Int32))])) rfl (by rw [hml]; rfl) (Steps.refl _) (argsL := []) (rest := [(.int (1 : Int32))]) (lenOf pd_1 rfl) rfl (by show 2 * 0 + _ ≤ _; exact Nat.le_of_eq rfl) (hb hby at_69) (fun _ _ => ⟨rfl, e6, (by decide : 0 + 0 ≤ _), (by decide : 0 + 0 ≤ _)⟩)
  dsimp only [Pt.U, Pt.locs, Pt.cells, Pt.slots] at X7 l7 y7 z7 st7 hQ7
  subst l7 y7 z7
  obtain ⟨rfl, N7q, e7⟩ := hQ7
  have N7 := Fr.app N6 N7q
  obtain ⟨fs, hr, hrun, hended, hW, hsame⟩ := X7.leave (v := some (.int (1 : Int32))) (fun h => by rw [Bd.returns] at h; cases h)
  refine ⟨_, _, pre0 _ ?_, hrun, hended, _, _, rfl, ?_, ⟨_, rfl⟩, hW, hsame.mono (by decide) (by decide)⟩
  · show Steps p.tables e below (s₁.setTop (mkF m 0 #[.val (.int p0), .unset, .unset, .unset, .unset] [])) _
    refine XS.iloadN X0.here hx rfl (hb hby at_0) rfl ?_
    show Steps p.tables e below (s₁.setTop (mkF m 1 #[.val (.int p0), .unset, .unset, .unset, .unset] [(.int p0)])) _
    refine XS.iconst X0.here hx rfl (hb hby at_1) ?_
    show Steps p.tables e below (s₁.setTop (mkF m 2 #[.val (.int p0), .unset, .unset, .unset, .unset] [(.int (3 : Int32)), (.int p0)])) _
    refine XS.iand X0.here hx rfl (hb hby at_2) rfl ?_
    show Steps p.tables e below (s₁.setTop (mkF m 3 #[.val (.int p0), .unset, .unset, .unset, .unset] [(.int (p0 &&& (3 : Int32)))])) _
    rw [c_1]
    show Steps p.tables e below (s₁.setTop (mkF m 3 #[.val (.int p0), .unset, .unset, .unset, .unset] [(.int (2 : Int32))])) _
    refine XS.istoreN X0.here hx rfl (hb hby at_3) rfl (l' := #[.val (.int p0), .val (.int (2 : Int32)), .unset, .unset, .unset]) rfl ?_
    show Steps p.tables e below (s₁.setTop (mkF m 4 #[.val (.int p0), .val (.int (2 : Int32)), .unset, .unset, .unset] [])) _
    refine XS.iloadN X0.here hx rfl (hb hby at_4) rfl ?_
    show Steps p.tables e below (s₁.setTop (mkF m 5 #[.val (.int p0), .val (.int (2 : Int32)), .unset, .unset, .unset] [(.int (2 : Int32))])) _
    refine XS.ifYes X0.here hx rfl (pc0 := 5) (pc' := 15) rfl (hb hby at_5) rfl ((if0 _ _).trans (feq (by decide : ¬ ((2 : Int32) = (0 : Int32)))).2) (by decide) (by decide) ?_
    show Steps p.tables e below (s₁.setTop (mkF m 15 #[.val (.int p0), .val (.int (2 : Int32)), .unset, .unset, .unset] [])) _
    refine XS.iloadN X0.here hx rfl (hb hby at_15) rfl ?_
    show Steps p.tables e below (s₁.setTop (mkF m 16 #[.val (.int p0), .val (.int (2 : Int32)), .unset, .unset, .unset] [(.int (2 : Int32))])) _
    refine XS.iconst X0.here hx rfl (hb hby at_16) ?_
    show Steps p.tables e below (s₁.setTop (mkF m 17 #[.val (.int p0), .val (.int (2 : Int32)), .unset, .unset, .unset] [(.int (1 : Int32)), (.int (2 : Int32))])) _
    refine XS.icmpYes X0.here hx rfl (pc0 := 17) (pc' := 27) rfl (hb hby at_17) rfl (feq (by decide : ¬ ((2 : Int32) = (1 : Int32)))).2 (by decide) (by decide) ?_
    show Steps p.tables e below (s₁.setTop (mkF m 27 #[.val (.int p0), .val (.int (2 : Int32)), .unset, .unset, .unset] [])) _
    refine XS.iloadN X0.here hx rfl (hb hby at_27) rfl ?_
    show Steps p.tables e below (s₁.setTop (mkF m 28 #[.val (.int p0), .val (.int (2 : Int32)), .unset, .unset, .unset] [(.int (2 : Int32))])) _
    refine XS.iconst X0.here hx rfl (hb hby at_28) ?_
    show Steps p.tables e below (s₁.setTop (mkF m 29 #[.val (.int p0), .val (.int (2 : Int32)), .unset, .unset, .unset] [(.int (2 : Int32)), (.int (2 : Int32))])) _
    refine XS.icmpNo X0.here hx rfl (hb hby at_29) rfl (teq (by decide : (2 : Int32) = (2 : Int32))).2 ?_
    show Steps p.tables e below (s₁.setTop (mkF m 32 #[.val (.int p0), .val (.int (2 : Int32)), .unset, .unset, .unset] [])) _
    refine st3 _ ?_
    show Steps p.tables e below (T3.setTop (mkF m 35 #[.val (.int p0), .val (.int (2 : Int32)), .unset, .unset, .unset] [(.ref w_FROM_EMAIL)])) _
    refine XS.astoreN X3.here hx rfl (hb hby at_35) rfl rfl (l' := #[.val (.int p0), .val (.int (2 : Int32)), .val (.ref w_FROM_EMAIL), .unset, .unset]) rfl ?_
    show Steps p.tables e below (T3.setTop (mkF m 36 #[.val (.int p0), .val (.int (2 : Int32)), .val (.ref w_FROM_EMAIL), .unset, .unset] [])) _
    refine XS.goto X3.here hx rfl (pc0 := 36) (pc' := 43) rfl (hb hby at_36) (by decide) (by decide) ?_
    show Steps p.tables e below (T3.setTop (mkF m 43 #[.val (.int p0), .val (.int (2 : Int32)), .val (.ref w_FROM_EMAIL), .unset, .unset] [])) _
    refine XS.iloadN X3.here hx rfl (hb hby at_43) rfl ?_
    show Steps p.tables e below (T3.setTop (mkF m 44 #[.val (.int p0), .val (.int (2 : Int32)), .val (.ref w_FROM_EMAIL), .unset, .unset] [(.int (2 : Int32))])) _
    refine XS.iconst X3.here hx rfl (hb hby at_44) ?_
    show Steps p.tables e below (T3.setTop (mkF m 45 #[.val (.int p0), .val (.int (2 : Int32)), .val (.ref w_FROM_EMAIL), .unset, .unset] [(.int (3 : Int32)), (.int (2 : Int32))])) _
    refine XS.icmpNo X3.here hx rfl (hb hby at_45) rfl (feq (by decide : ¬ ((2 : Int32) = (3 : Int32)))).1 ?_
    show Steps p.tables e below (T3.setTop (mkF m 48 #[.val (.int p0), .val (.int (2 : Int32)), .val (.ref w_FROM_EMAIL), .unset, .unset] [])) _
    refine XS.iconst X3.here hx rfl (hb hby at_48) ?_
    show Steps p.tables e below (T3.setTop (mkF m 49 #[.val (.int p0), .val (.int (2 : Int32)), .val (.ref w_FROM_EMAIL), .unset, .unset] [(.int (1 : Int32))])) _
    refine XS.goto X3.here hx rfl (pc0 := 49) (pc' := 53) rfl (hb hby at_49) (by decide) (by decide) ?_
    show Steps p.tables e below (T3.setTop (mkF m 53 #[.val (.int p0), .val (.int (2 : Int32)), .val (.ref w_FROM_EMAIL), .unset, .unset] [(.int (1 : Int32))])) _
    refine XS.istoreN X3.here hx rfl (hb hby at_53) rfl (l' := #[.val (.int p0), .val (.int (2 : Int32)), .val (.ref w_FROM_EMAIL), .val (.int (1 : Int32)), .unset]) rfl ?_
    show Steps p.tables e below (T3.setTop (mkF m 54 #[.val (.int p0), .val (.int (2 : Int32)), .val (.ref w_FROM_EMAIL), .val (.int (1 : Int32)), .unset] [])) _
    refine XS.aloadN X3.here hx rfl (hb hby at_54) rfl rfl ?_
    show Steps p.tables e below (T3.setTop (mkF m 55 #[.val (.int p0), .val (.int (2 : Int32)), .val (.ref w_FROM_EMAIL), .val (.int (1 : Int32)), .unset] [(.ref w_FROM_EMAIL)])) _
    refine st6.trans ?_
    show Steps p.tables e below (T6.setTop (mkF m 58 #[.val (.int p0), .val (.int (2 : Int32)), .val (.ref w_FROM_EMAIL), .val (.int (1 : Int32)), .unset] [(.int (1 : Int32))])) _
    refine XS.istore X6.here hx rfl (hb hby at_58) rfl (l' := #[.val (.int p0), .val (.int (2 : Int32)), .val (.ref w_FROM_EMAIL), .val (.int (1 : Int32)), .val (.int (1 : Int32))]) rfl ?_
    show Steps p.tables e below (T6.setTop (mkF m 60 #[.val (.int p0), .val (.int (2 : Int32)), .val (.ref w_FROM_EMAIL), .val (.int (1 : Int32)), .val (.int (1 : Int32))] [])) _
    refine XS.iload X6.here hx rfl (hb hby at_60) rfl ?_
    show Steps p.tables e below (T6.setTop (mkF m 62 #[.val (.int p0), .val (.int (2 : Int32)), .val (.ref w_FROM_EMAIL), .val (.int (1 : Int32)), .val (.int (1 : Int32))] [(.int (1 : Int32))])) _
    refine XS.iloadN X6.here hx rfl (hb hby at_62) rfl ?_
    show Steps p.tables e below (T6.setTop (mkF m 63 #[.val (.int p0), .val (.int (2 : Int32)), .val (.ref w_FROM_EMAIL), .val (.int (1 : Int32)), .val (.int (1 : Int32))] [(.int (1 : Int32)), (.int (1 : Int32))])) _
    refine XS.icmpNo X6.here hx rfl (hb hby at_63) rfl (teq (by decide : (1 : Int32) = (1 : Int32))).2 ?_
    show Steps p.tables e below (T6.setTop (mkF m 66 #[.val (.int p0), .val (.int (2 : Int32)), .val (.ref w_FROM_EMAIL), .val (.int (1 : Int32)), .val (.int (1 : Int32))] [])) _
    refine XS.iload X6.here hx rfl (hb hby at_66) rfl ?_
    show Steps p.tables e below (T6.setTop (mkF m 68 #[.val (.int p0), .val (.int (2 : Int32)), .val (.ref w_FROM_EMAIL), .val (.int (1 : Int32)), .val (.int (1 : Int32))] [(.int (1 : Int32))])) _
    refine XS.aloadN X6.here hx rfl (hb hby at_68) rfl rfl ?_
    show Steps p.tables e below (T6.setTop (mkF m 69 #[.val (.int p0), .val (.int (2 : Int32)), .val (.ref w_FROM_EMAIL), .val (.int (1 : Int32)), .val (.int (1 : Int32))] [(.ref w_FROM_EMAIL), (.int (1 : Int32))])) _
    refine st7.trans ?_
    show Steps p.tables e below (T7.setTop (mkF m 72 #[.val (.int p0), .val (.int (2 : Int32)), .val (.ref w_FROM_EMAIL), .val (.int (1 : Int32)), .val (.int (1 : Int32))] [.null, (.int (1 : Int32))])) _
    refine XS.ifnonnullNo X7.here hx rfl (hb hby at_72) rfl ?_
    show Steps p.tables e below (T7.setTop (mkF m 75 #[.val (.int p0), .val (.int (2 : Int32)), .val (.ref w_FROM_EMAIL), .val (.int (1 : Int32)), .val (.int (1 : Int32))] [(.int (1 : Int32))])) _
    refine XS.iconst X7.here hx rfl (hb hby at_75) ?_
    show Steps p.tables e below (T7.setTop (mkF m 76 #[.val (.int p0), .val (.int (2 : Int32)), .val (.ref w_FROM_EMAIL), .val (.int (1 : Int32)), .val (.int (1 : Int32))] [(.int (1 : Int32)), (.int (1 : Int32))])) _
    refine XS.goto X7.here hx rfl (pc0 := 76) (pc' := 80) rfl (hb hby at_76) (by decide) (by decide) ?_
    show Steps p.tables e below (T7.setTop (mkF m 80 #[.val (.int p0), .val (.int (2 : Int32)), .val (.ref w_FROM_EMAIL), .val (.int (1 : Int32)), .val (.int (1 : Int32))] [(.int (1 : Int32)), (.int (1 : Int32))])) _
    refine XS.icmpNo X7.here hx rfl (hb hby at_80) rfl (teq (by decide : (1 : Int32) = (1 : Int32))).2 ?_
    show Steps p.tables e below (T7.setTop (mkF m 83 #[.val (.int p0), .val (.int (2 : Int32)), .val (.ref w_FROM_EMAIL), .val (.int (1 : Int32)), .val (.int (1 : Int32))] [])) _
    refine XS.iconst X7.here hx rfl (hb hby at_83) ?_
    show Steps p.tables e below (T7.setTop (mkF m 84 #[.val (.int p0), .val (.int (2 : Int32)), .val (.ref w_FROM_EMAIL), .val (.int (1 : Int32)), .val (.int (1 : Int32))] [(.int (1 : Int32))])) _
    refine XS.goto X7.here hx rfl (pc0 := 84) (pc' := 88) rfl (hb hby at_84) (by decide) (by decide) ?_
    show Steps p.tables e below (T7.setTop (mkF m 88 #[.val (.int p0), .val (.int (2 : Int32)), .val (.ref w_FROM_EMAIL), .val (.int (1 : Int32)), .val (.int (1 : Int32))] [(.int (1 : Int32))])) _
    exact retN X7 hx (t := .boolean) Bd.returns (by simp) (hb hby at_88) hr
  · show Q0k2 Z p0 w_FROM_EMAIL h0 n0 _ T7.heap _
    exact ⟨rfl, N7⟩
def Q0k3 (Z : State) (p0 : Int32) (w_NOTIFICATION_RESPONSE : Addr) (w_fallback_w_NOTIFICATION_RESPONSE : Addr) (h0 : Heap) (n0 : Nat) (v : Option Value) (h : Heap) (L : List Loc) : Prop := v = some (.int (1 : Int32)) ∧ Fr n0 L
set_option maxRecDepth 65536 in
set_option maxHeartbeats 40000000 in
theorem rm0k3 (l : Launch) (Z : State) (A0 : Array Value) (hw : ∀ d ∈ tables_1, d.before A0 Z = true) (ws : List Jvm.Cond) (p0 : Int32) (w_NOTIFICATION_RESPONSE : Addr) (w_fallback_w_NOTIFICATION_RESPONSE : Addr) (h0 : Heap) (n0 : Nat) (OLD : Old Z n0 h0) (c_1 : (p0 &&& (3 : Int32)) = (3 : Int32)) (f_2 : Sta Z Z.heap "com/example/deposita/deposita/core/CitationSender$Key" "NOTIFICATION_RESPONSE" "Lcom/example/deposita/deposita/core/CitationSender$Key;" (.ref w_NOTIFICATION_RESPONSE)) (f_4 : Exa Z Z.heap w_NOTIFICATION_RESPONSE "com/example/deposita/deposita/core/CitationSender$Key") (f_5 : Fld Z Z.heap w_NOTIFICATION_RESPONSE "com/example/deposita/deposita/core/CitationSender$Key" "fallback" "Ljava/lang/String;" (.ref w_fallback_w_NOTIFICATION_RESPONSE)) :
    MetFree l x (head1 (Jvm.Cond.code x code maxLocals ret :: ws) room_1) (fun a U => a = #[(.int p0)] ∧ Z.Warmed39 U.vm ∧ U.heap = h0) (fun _ _ _ _ _ => True) (fun _ U o U' => ∃ v L, o = .returned v ∧ Q0k3 Z p0 w_NOTIFICATION_RESPONSE w_fallback_w_NOTIFICATION_RESPONSE h0 n0 v U'.heap L ∧ FrameEnd U o U' L room_1.cells room_1.slots) := by
  refine MetFree.of_bodySF (plainFor_of_name pn_com_example_deposita_deposita_core_KeyRequiredPinLaw) hisR ?_
  intro p e s m args below meth c s₁ Bd hml0 hP hK
  obtain ⟨rfl, hZ, hh⟩ := hP
  have hx := Bd.exec
  have hby := Bd.bytes
  have hml : c.maxLocals = 5 := hml0
  have hown : s.vm.findClass "com/example/deposita/deposita/core/KeyRequiredPinLaw" = some m.cls := findClass_of_methodNamed Bd.named
  have hnm := (name_of_methodNamed Bd.named Bd.method).1
  have X0 : Stand p l e room_1 s m #[(.int p0)] below meth c s₁ [] 0 0 := Stand.of_body Bd
  have e0 : s₁.heap = h0 := by rw [← hh, Bd.state]; rfl
  have N0 := Fr.nil n0
  have pre0 : ∀ t, Steps p.tables e below (s₁.setTop (mkF m 0 #[.val (.int p0), .unset, .unset, .unset, .unset] [])) t → Steps p.tables e below (s₁.setTop (entryFrame m #[(.int p0)] maxLocals)) t := fun t k => castTop (ef_0 m p0) k
  obtain ⟨T3, X3, e3, st3⟩ := getS2 X0 hx hZ hown (host := "") (Or.inl (hw _ (List.mem_of_getElem? (i := 15) rfl))) Via.refl e0 (f_2.ext OLD.2) (g := (mkF m 39 #[.val (.int p0), .val (.int (3 : Int32)), .unset, .unset, .unset] [])) rfl (hb hby at_39)
  obtain ⟨cq6, kq6, q6a, q6b, q6c⟩ := isOf hZ e3 (f_4.ext OLD.2)
  obtain ⟨_, _, ⟨T6, L6, k6, n6⟩, -, X6, ⟨Lc6, hQ6, l6, y6, z6⟩, st6⟩ := X3.virtualBack hx (y := (⟨"com/example/deposita/deposita/core/CitationSender$Key", "required", "()Z"⟩ : MethodName)) (z := (⟨"com/example/deposita/deposita/core/CitationSender$Key", "required", "()Z"⟩ : MethodName)) hown (mvT hZ (hw _ (List.mem_of_getElem? (i := 3) rfl))) (mvT hZ (hw _ (List.mem_of_getElem? (i := 4) rfl))) (notFace_of_selects (args := #[]) (mvT hZ (hw _ (List.mem_of_getElem? (i := 6) rfl)))) (mvT hZ (hw _ (List.mem_of_getElem? (i := 6) rfl))) (mvT hZ (hw _ (List.mem_of_getElem? (i := 5) rfl))) (by decide) (backOf (W := 0) (rm1r l Z A0 hw [] w_NOTIFICATION_RESPONSE w_fallback_w_NOTIFICATION_RESPONSE h0 n0 OLD (f_5.ext OLD.2)) hZ (hw _ (List.mem_of_getElem? (i := 7) rfl)) (hw _ (List.mem_of_getElem? (i := 1) rfl)) (by decide) (by decide)) q6a q6c (g := (mkF m 55 #[.val (.int p0), .val (.int (3 : Int32)), .val (.ref w_NOTIFICATION_RESPONSE), .val (.int (0 : Int32)), .unset] [(.ref w_NOTIFICATION_RESPONSE)])) rfl (by rw [hml]; rfl) (Steps.refl _) (argsL := []) (rest := []) (lenOf pd_0 rfl) rfl (by show 2 * 0 + _ ≤ _; exact Nat.le_of_eq rfl) (hb hby at_55) (fun _ _ => ⟨rfl, e3, (by decide : 0 + 0 ≤ _), (by decide : 0 + 0 ≤ _)⟩)
  dsimp only [Pt.U, Pt.locs, Pt.cells, Pt.slots] at X6 l6 y6 z6 st6 hQ6
  subst l6 y6 z6
  obtain ⟨rfl, N6q, e6⟩ := hQ6
  have N6 := Fr.app N0 N6q
  obtain ⟨cq7, kq7, q7a, q7b, q7c⟩ := isOf hZ e6 (f_4.ext OLD.2)
  obtain ⟨_, _, ⟨T7, L7, k7, n7⟩, -, X7, ⟨Lc7, hQ7, l7, y7, z7⟩, st7⟩ := X6.virtualBack hx (y := (⟨"com/example/deposita/deposita/core/CitationSender$Key", "fallback", "()Ljava/lang/String;"⟩ : MethodName)) (z := (⟨"com/example/deposita/deposita/core/CitationSender$Key", "fallback", "()Ljava/lang/String;"⟩ : MethodName)) hown (mvT hZ (hw _ (List.mem_of_getElem? (i := 10) rfl))) (mvT hZ (hw _ (List.mem_of_getElem? (i := 11) rfl))) (notFace_of_selects (args := #[]) (mvT hZ (hw _ (List.mem_of_getElem? (i := 13) rfl)))) (mvT hZ (hw _ (List.mem_of_getElem? (i := 13) rfl))) (mvT hZ (hw _ (List.mem_of_getElem? (i := 12) rfl))) (by decide) (backOf (W := 1) (rm2r l Z A0 hw [] w_NOTIFICATION_RESPONSE w_fallback_w_NOTIFICATION_RESPONSE h0 n0 OLD (f_5.ext OLD.2)) hZ (hw _ (List.mem_of_getElem? (i := 14) rfl)) (hw _ (List.mem_of_getElem? (i := 1) rfl)) (by decide) (by decide)) q7a q7c (g := (mkF m 69 #[.val (.int p0), .val (.int (3 : Int32)), .val (.ref w_NOTIFICATION_RESPONSE), .val (.int (0 : Int32)), .val (.int (0 : Int32))] [(.ref w_NOTIFICATION_RESPONSE), (.int (0 : Int32))])) rfl (by rw [hml]; rfl) (Steps.refl _) (argsL := []) (rest := [(.int (0 : Int32))]) (lenOf pd_1 rfl) rfl (by show 2 * 0 + _ ≤ _; exact Nat.le_of_eq rfl) (hb hby at_69) (fun _ _ => ⟨rfl, e6, (by decide : 0 + 0 ≤ _), (by decide : 0 + 0 ≤ _)⟩)
  dsimp only [Pt.U, Pt.locs, Pt.cells, Pt.slots] at X7 l7 y7 z7 st7 hQ7
  subst l7 y7 z7
  obtain ⟨rfl, N7q, e7⟩ := hQ7
  have N7 := Fr.app N6 N7q
  obtain ⟨fs, hr, hrun, hended, hW, hsame⟩ := X7.leave (v := some (.int (1 : Int32))) (fun h => by rw [Bd.returns] at h; cases h)
  refine ⟨_, _, pre0 _ ?_, hrun, hended, _, _, rfl, ?_, ⟨_, rfl⟩, hW, hsame.mono (by decide) (by decide)⟩
  · show Steps p.tables e below (s₁.setTop (mkF m 0 #[.val (.int p0), .unset, .unset, .unset, .unset] [])) _
    refine XS.iloadN X0.here hx rfl (hb hby at_0) rfl ?_
    show Steps p.tables e below (s₁.setTop (mkF m 1 #[.val (.int p0), .unset, .unset, .unset, .unset] [(.int p0)])) _
    refine XS.iconst X0.here hx rfl (hb hby at_1) ?_
    show Steps p.tables e below (s₁.setTop (mkF m 2 #[.val (.int p0), .unset, .unset, .unset, .unset] [(.int (3 : Int32)), (.int p0)])) _
    refine XS.iand X0.here hx rfl (hb hby at_2) rfl ?_
    show Steps p.tables e below (s₁.setTop (mkF m 3 #[.val (.int p0), .unset, .unset, .unset, .unset] [(.int (p0 &&& (3 : Int32)))])) _
    rw [c_1]
    show Steps p.tables e below (s₁.setTop (mkF m 3 #[.val (.int p0), .unset, .unset, .unset, .unset] [(.int (3 : Int32))])) _
    refine XS.istoreN X0.here hx rfl (hb hby at_3) rfl (l' := #[.val (.int p0), .val (.int (3 : Int32)), .unset, .unset, .unset]) rfl ?_
    show Steps p.tables e below (s₁.setTop (mkF m 4 #[.val (.int p0), .val (.int (3 : Int32)), .unset, .unset, .unset] [])) _
    refine XS.iloadN X0.here hx rfl (hb hby at_4) rfl ?_
    show Steps p.tables e below (s₁.setTop (mkF m 5 #[.val (.int p0), .val (.int (3 : Int32)), .unset, .unset, .unset] [(.int (3 : Int32))])) _
    refine XS.ifYes X0.here hx rfl (pc0 := 5) (pc' := 15) rfl (hb hby at_5) rfl ((if0 _ _).trans (feq (by decide : ¬ ((3 : Int32) = (0 : Int32)))).2) (by decide) (by decide) ?_
    show Steps p.tables e below (s₁.setTop (mkF m 15 #[.val (.int p0), .val (.int (3 : Int32)), .unset, .unset, .unset] [])) _
    refine XS.iloadN X0.here hx rfl (hb hby at_15) rfl ?_
    show Steps p.tables e below (s₁.setTop (mkF m 16 #[.val (.int p0), .val (.int (3 : Int32)), .unset, .unset, .unset] [(.int (3 : Int32))])) _
    refine XS.iconst X0.here hx rfl (hb hby at_16) ?_
    show Steps p.tables e below (s₁.setTop (mkF m 17 #[.val (.int p0), .val (.int (3 : Int32)), .unset, .unset, .unset] [(.int (1 : Int32)), (.int (3 : Int32))])) _
    refine XS.icmpYes X0.here hx rfl (pc0 := 17) (pc' := 27) rfl (hb hby at_17) rfl (feq (by decide : ¬ ((3 : Int32) = (1 : Int32)))).2 (by decide) (by decide) ?_
    show Steps p.tables e below (s₁.setTop (mkF m 27 #[.val (.int p0), .val (.int (3 : Int32)), .unset, .unset, .unset] [])) _
    refine XS.iloadN X0.here hx rfl (hb hby at_27) rfl ?_
    show Steps p.tables e below (s₁.setTop (mkF m 28 #[.val (.int p0), .val (.int (3 : Int32)), .unset, .unset, .unset] [(.int (3 : Int32))])) _
    refine XS.iconst X0.here hx rfl (hb hby at_28) ?_
    show Steps p.tables e below (s₁.setTop (mkF m 29 #[.val (.int p0), .val (.int (3 : Int32)), .unset, .unset, .unset] [(.int (2 : Int32)), (.int (3 : Int32))])) _
    refine XS.icmpYes X0.here hx rfl (pc0 := 29) (pc' := 39) rfl (hb hby at_29) rfl (feq (by decide : ¬ ((3 : Int32) = (2 : Int32)))).2 (by decide) (by decide) ?_
    show Steps p.tables e below (s₁.setTop (mkF m 39 #[.val (.int p0), .val (.int (3 : Int32)), .unset, .unset, .unset] [])) _
    refine st3 _ ?_
    show Steps p.tables e below (T3.setTop (mkF m 42 #[.val (.int p0), .val (.int (3 : Int32)), .unset, .unset, .unset] [(.ref w_NOTIFICATION_RESPONSE)])) _
    refine XS.astoreN X3.here hx rfl (hb hby at_42) rfl rfl (l' := #[.val (.int p0), .val (.int (3 : Int32)), .val (.ref w_NOTIFICATION_RESPONSE), .unset, .unset]) rfl ?_
    show Steps p.tables e below (T3.setTop (mkF m 43 #[.val (.int p0), .val (.int (3 : Int32)), .val (.ref w_NOTIFICATION_RESPONSE), .unset, .unset] [])) _
    refine XS.iloadN X3.here hx rfl (hb hby at_43) rfl ?_
    show Steps p.tables e below (T3.setTop (mkF m 44 #[.val (.int p0), .val (.int (3 : Int32)), .val (.ref w_NOTIFICATION_RESPONSE), .unset, .unset] [(.int (3 : Int32))])) _
    refine XS.iconst X3.here hx rfl (hb hby at_44) ?_
    show Steps p.tables e below (T3.setTop (mkF m 45 #[.val (.int p0), .val (.int (3 : Int32)), .val (.ref w_NOTIFICATION_RESPONSE), .unset, .unset] [(.int (3 : Int32)), (.int (3 : Int32))])) _
    refine XS.icmpYes X3.here hx rfl (pc0 := 45) (pc' := 52) rfl (hb hby at_45) rfl (teq (by decide : (3 : Int32) = (3 : Int32))).1 (by decide) (by decide) ?_
    show Steps p.tables e below (T3.setTop (mkF m 52 #[.val (.int p0), .val (.int (3 : Int32)), .val (.ref w_NOTIFICATION_RESPONSE), .unset, .unset] [])) _
    refine XS.iconst X3.here hx rfl (hb hby at_52) ?_
    show Steps p.tables e below (T3.setTop (mkF m 53 #[.val (.int p0), .val (.int (3 : Int32)), .val (.ref w_NOTIFICATION_RESPONSE), .unset, .unset] [(.int (0 : Int32))])) _
    refine XS.istoreN X3.here hx rfl (hb hby at_53) rfl (l' := #[.val (.int p0), .val (.int (3 : Int32)), .val (.ref w_NOTIFICATION_RESPONSE), .val (.int (0 : Int32)), .unset]) rfl ?_
    show Steps p.tables e below (T3.setTop (mkF m 54 #[.val (.int p0), .val (.int (3 : Int32)), .val (.ref w_NOTIFICATION_RESPONSE), .val (.int (0 : Int32)), .unset] [])) _
    refine XS.aloadN X3.here hx rfl (hb hby at_54) rfl rfl ?_
    show Steps p.tables e below (T3.setTop (mkF m 55 #[.val (.int p0), .val (.int (3 : Int32)), .val (.ref w_NOTIFICATION_RESPONSE), .val (.int (0 : Int32)), .unset] [(.ref w_NOTIFICATION_RESPONSE)])) _
    refine st6.trans ?_
    show Steps p.tables e below (T6.setTop (mkF m 58 #[.val (.int p0), .val (.int (3 : Int32)), .val (.ref w_NOTIFICATION_RESPONSE), .val (.int (0 : Int32)), .unset] [(.int (0 : Int32))])) _
    refine XS.istore X6.here hx rfl (hb hby at_58) rfl (l' := #[.val (.int p0), .val (.int (3 : Int32)), .val (.ref w_NOTIFICATION_RESPONSE), .val (.int (0 : Int32)), .val (.int (0 : Int32))]) rfl ?_
    show Steps p.tables e below (T6.setTop (mkF m 60 #[.val (.int p0), .val (.int (3 : Int32)), .val (.ref w_NOTIFICATION_RESPONSE), .val (.int (0 : Int32)), .val (.int (0 : Int32))] [])) _
    refine XS.iload X6.here hx rfl (hb hby at_60) rfl ?_
    show Steps p.tables e below (T6.setTop (mkF m 62 #[.val (.int p0), .val (.int (3 : Int32)), .val (.ref w_NOTIFICATION_RESPONSE), .val (.int (0 : Int32)), .val (.int (0 : Int32))] [(.int (0 : Int32))])) _
    refine XS.iloadN X6.here hx rfl (hb hby at_62) rfl ?_
    show Steps p.tables e below (T6.setTop (mkF m 63 #[.val (.int p0), .val (.int (3 : Int32)), .val (.ref w_NOTIFICATION_RESPONSE), .val (.int (0 : Int32)), .val (.int (0 : Int32))] [(.int (0 : Int32)), (.int (0 : Int32))])) _
    refine XS.icmpNo X6.here hx rfl (hb hby at_63) rfl (teq (by decide : (0 : Int32) = (0 : Int32))).2 ?_
    show Steps p.tables e below (T6.setTop (mkF m 66 #[.val (.int p0), .val (.int (3 : Int32)), .val (.ref w_NOTIFICATION_RESPONSE), .val (.int (0 : Int32)), .val (.int (0 : Int32))] [])) _
    refine XS.iload X6.here hx rfl (hb hby at_66) rfl ?_
    show Steps p.tables e below (T6.setTop (mkF m 68 #[.val (.int p0), .val (.int (3 : Int32)), .val (.ref w_NOTIFICATION_RESPONSE), .val (.int (0 : Int32)), .val (.int (0 : Int32))] [(.int (0 : Int32))])) _
    refine XS.aloadN X6.here hx rfl (hb hby at_68) rfl rfl ?_
    show Steps p.tables e below (T6.setTop (mkF m 69 #[.val (.int p0), .val (.int (3 : Int32)), .val (.ref w_NOTIFICATION_RESPONSE), .val (.int (0 : Int32)), .val (.int (0 : Int32))] [(.ref w_NOTIFICATION_RESPONSE), (.int (0 : Int32))])) _
    refine st7.trans ?_
    show Steps p.tables e below (T7.setTop (mkF m 72 #[.val (.int p0), .val (.int (3 : Int32)), .val (.ref w_NOTIFICATION_RESPONSE), .val (.int (0 : Int32)), .val (.int (0 : Int32))] [(.ref w_fallback_w_NOTIFICATION_RESPONSE), (.int (0 : Int32))])) _
    refine XS.ifnonnullYes X7.here hx rfl (pc0 := 72) (pc' := 79) rfl (hb hby at_72) rfl (by decide) (by decide) ?_
    show Steps p.tables e below (T7.setTop (mkF m 79 #[.val (.int p0), .val (.int (3 : Int32)), .val (.ref w_NOTIFICATION_RESPONSE), .val (.int (0 : Int32)), .val (.int (0 : Int32))] [(.int (0 : Int32))])) _
    refine XS.iconst X7.here hx rfl (hb hby at_79) ?_
    show Steps p.tables e below (T7.setTop (mkF m 80 #[.val (.int p0), .val (.int (3 : Int32)), .val (.ref w_NOTIFICATION_RESPONSE), .val (.int (0 : Int32)), .val (.int (0 : Int32))] [(.int (0 : Int32)), (.int (0 : Int32))])) _
    refine XS.icmpNo X7.here hx rfl (hb hby at_80) rfl (teq (by decide : (0 : Int32) = (0 : Int32))).2 ?_
    show Steps p.tables e below (T7.setTop (mkF m 83 #[.val (.int p0), .val (.int (3 : Int32)), .val (.ref w_NOTIFICATION_RESPONSE), .val (.int (0 : Int32)), .val (.int (0 : Int32))] [])) _
    refine XS.iconst X7.here hx rfl (hb hby at_83) ?_
    show Steps p.tables e below (T7.setTop (mkF m 84 #[.val (.int p0), .val (.int (3 : Int32)), .val (.ref w_NOTIFICATION_RESPONSE), .val (.int (0 : Int32)), .val (.int (0 : Int32))] [(.int (1 : Int32))])) _
    refine XS.goto X7.here hx rfl (pc0 := 84) (pc' := 88) rfl (hb hby at_84) (by decide) (by decide) ?_
    show Steps p.tables e below (T7.setTop (mkF m 88 #[.val (.int p0), .val (.int (3 : Int32)), .val (.ref w_NOTIFICATION_RESPONSE), .val (.int (0 : Int32)), .val (.int (0 : Int32))] [(.int (1 : Int32))])) _
    exact retN X7 hx (t := .boolean) Bd.returns (by simp) (hb hby at_88) hr
  · show Q0k3 Z p0 w_NOTIFICATION_RESPONSE w_fallback_w_NOTIFICATION_RESPONSE h0 n0 _ T7.heap _
    exact ⟨rfl, N7⟩
theorem own_and3 (x : Int32) : (x &&& 3) = 0 ∨ (x &&& 3) = 1 ∨ (x &&& 3) = 2 ∨ (x &&& 3) = 3 := by
  have e1 : (x &&& (3 : Int32)).toInt = x.toInt % 2 ^ 2 := Jvm.Kit.i32_mask x 3 (k := 2) (by decide) (by decide)
  have p : (x &&& (3 : Int32)).toInt = 0 ∨ (x &&& (3 : Int32)).toInt = 1 ∨ (x &&& (3 : Int32)).toInt = 2 ∨ (x &&& (3 : Int32)).toInt = 3 := by omega
  rcases p with q | q | q | q
  · exact Or.inl (Int32.toInt_inj.mp q)
  · exact Or.inr (Or.inl (Int32.toInt_inj.mp q))
  · exact Or.inr (Or.inr (Or.inl (Int32.toInt_inj.mp q)))
  · exact Or.inr (Or.inr (Or.inr (Int32.toInt_inj.mp q)))
set_option maxRecDepth 65536 in
set_option maxHeartbeats 40000000 in
theorem comes_1 {Post : Tables → Env → Array Value → State → Outcome → State → Prop} (hpost : ∀ tb e args s v u, (limb_1_1.after args s (.returned v) u = true ∧ limb_1_2.after args s (.returned v) u = true ∧ True) → FrameEnd s (.returned v) u (Jvm.fieldLocs frame_1_writes args s ++ Jvm.arrayLocs frame_1_arrays args s ++ Jvm.staticLocs frame_1_statics s) 0 0 → Post tb e args s (.returned v) u) :
    ArmFor flags0 classFile x code maxLocals ret World_1 tables_1 room_1 Calls_1 rest_1 Pre_1 Post := by
  intro l hfl _ _ p e ha hc hk s m args below hf hA hF happ hP
  obtain ⟨hcalls, hrest, hpre⟩ := hP
  obtain ⟨-, -, -, hnamed, -, -, -, hat⟩ := (Spec.applies_iff hf).mp happ
  obtain ⟨hg, hn⟩ := and_e (Cond.before_iff.mp (show (Jvm.Cond.and given_1 narrow_1).before args s = true from hpre))
  obtain ⟨gc, hg⟩ := and_e hg
  have ga0 := hg
  obtain ⟨w0, rfl⟩ : ∃ w0 : Value, args = #[w0] := by
    have hs : args.size = 1 := by simpa [Cond.value, given_1] using gc
    obtain ⟨L⟩ := args
    match L, hs with
    | [w0], _ => exact ⟨w0, rfl⟩
  have hw := fun d (hd : d ∈ tables_1) => atoms_spec (ws := Jvm.Cond.code x code maxLocals ret :: tables_1) hat d (List.mem_cons_of_mem _ hd)
  obtain ⟨i0, ei0⟩ := is_v ga0
  obtain rfl : w0 = (.int i0) := Option.some.inj ei0
  obtain ⟨k0, hn⟩ := and_e hn
  obtain ⟨k1, hn⟩ := and_e hn
  obtain ⟨k2, hn⟩ := and_e hn
  obtain ⟨k3, hn⟩ := and_e hn
  obtain ⟨k4, hn⟩ := and_e hn
  obtain ⟨k5, hn⟩ := and_e hn
  obtain ⟨k6, hn⟩ := and_e hn
  have k7 := hn
  obtain ⟨w_RECORD_REFERENCE, e_w_RECORD_REFERENCE⟩ := exa_v k0
  have E_w_RECORD_REFERENCE := Exa.start e_w_RECORD_REFERENCE k0
  have S_w_RECORD_REFERENCE := Sta.start e_w_RECORD_REFERENCE (Or.inr ⟨(hw _ (List.mem_of_getElem? (i := 1) rfl)), (hw _ (List.mem_of_getElem? (i := 2) rfl))⟩)
  obtain ⟨w_NOTIFICATION_RESPONSE, e_w_NOTIFICATION_RESPONSE⟩ := exa_v k2
  have E_w_NOTIFICATION_RESPONSE := Exa.start e_w_NOTIFICATION_RESPONSE k2
  have S_w_NOTIFICATION_RESPONSE := Sta.start e_w_NOTIFICATION_RESPONSE (Or.inr ⟨(hw _ (List.mem_of_getElem? (i := 1) rfl)), (hw _ (List.mem_of_getElem? (i := 16) rfl))⟩)
  obtain ⟨w_FROM_EMAIL, e_w_FROM_EMAIL⟩ := exa_v k4
  have E_w_FROM_EMAIL := Exa.start e_w_FROM_EMAIL k4
  have S_w_FROM_EMAIL := Sta.start e_w_FROM_EMAIL (Or.inr ⟨(hw _ (List.mem_of_getElem? (i := 1) rfl)), (hw _ (List.mem_of_getElem? (i := 18) rfl))⟩)
  obtain ⟨w_FROM_COMPANY, e_w_FROM_COMPANY⟩ := exa_v k6
  have E_w_FROM_COMPANY := Exa.start e_w_FROM_COMPANY k6
  have S_w_FROM_COMPANY := Sta.start e_w_FROM_COMPANY (Or.inr ⟨(hw _ (List.mem_of_getElem? (i := 1) rfl)), (hw _ (List.mem_of_getElem? (i := 20) rfl))⟩)
  have F1 := own_fldN e_w_RECORD_REFERENCE k1
  obtain ⟨w_fallback_w_NOTIFICATION_RESPONSE, e_w_fallback_w_NOTIFICATION_RESPONSE⟩ := exa_v k3
  have E_w_fallback_w_NOTIFICATION_RESPONSE := Exa.start e_w_fallback_w_NOTIFICATION_RESPONSE k3
  have F3 := own_fldR e_w_NOTIFICATION_RESPONSE e_w_fallback_w_NOTIFICATION_RESPONSE
  have F5 := own_fldN e_w_FROM_EMAIL k5
  have F7 := own_fldN e_w_FROM_COMPANY k7
  rcases own_and3 i0 with hk0 | hk0 | hk0 | hk0
  · obtain ⟨n, o, h1, h2, h3, _, L, rfl, ⟨rfl, N⟩, hq⟩ := rm0k0 l s _ hw tables_1 i0 w_RECORD_REFERENCE s.heap s.heap.size (Old.start s) hk0 S_w_RECORD_REFERENCE E_w_RECORD_REFERENCE F1 p e ha hc hk s m _ below hf ((Spec.applies_iff_loose hf).mp happ).1 ⟨rfl, State.Warmed39.refl s, rfl⟩ trivial
    refine ⟨n, _, h1, h2, h3, hpost _ _ _ _ _ _ ⟨Cond.after_iff.mpr rfl, Cond.after_iff.mpr (eq_i res_at (Term.int_eval (1)) rfl), trivial⟩ ⟨hq.1, hq.2.1, (hq.2.2.sift fun y hy => Or.inr (N y hy)).mono (by decide) (by decide)⟩⟩
  · obtain ⟨n, o, h1, h2, h3, _, L, rfl, ⟨rfl, N⟩, hq⟩ := rm0k1 l s _ hw tables_1 i0 w_FROM_COMPANY s.heap s.heap.size (Old.start s) hk0 S_w_FROM_COMPANY E_w_FROM_COMPANY F7 p e ha hc hk s m _ below hf ((Spec.applies_iff_loose hf).mp happ).1 ⟨rfl, State.Warmed39.refl s, rfl⟩ trivial
    refine ⟨n, _, h1, h2, h3, hpost _ _ _ _ _ _ ⟨Cond.after_iff.mpr rfl, Cond.after_iff.mpr (eq_i res_at (Term.int_eval (1)) rfl), trivial⟩ ⟨hq.1, hq.2.1, (hq.2.2.sift fun y hy => Or.inr (N y hy)).mono (by decide) (by decide)⟩⟩
  · obtain ⟨n, o, h1, h2, h3, _, L, rfl, ⟨rfl, N⟩, hq⟩ := rm0k2 l s _ hw tables_1 i0 w_FROM_EMAIL s.heap s.heap.size (Old.start s) hk0 S_w_FROM_EMAIL E_w_FROM_EMAIL F5 p e ha hc hk s m _ below hf ((Spec.applies_iff_loose hf).mp happ).1 ⟨rfl, State.Warmed39.refl s, rfl⟩ trivial
    refine ⟨n, _, h1, h2, h3, hpost _ _ _ _ _ _ ⟨Cond.after_iff.mpr rfl, Cond.after_iff.mpr (eq_i res_at (Term.int_eval (1)) rfl), trivial⟩ ⟨hq.1, hq.2.1, (hq.2.2.sift fun y hy => Or.inr (N y hy)).mono (by decide) (by decide)⟩⟩
  · obtain ⟨n, o, h1, h2, h3, _, L, rfl, ⟨rfl, N⟩, hq⟩ := rm0k3 l s _ hw tables_1 i0 w_NOTIFICATION_RESPONSE w_fallback_w_NOTIFICATION_RESPONSE s.heap s.heap.size (Old.start s) hk0 S_w_NOTIFICATION_RESPONSE E_w_NOTIFICATION_RESPONSE F3 p e ha hc hk s m _ below hf ((Spec.applies_iff_loose hf).mp happ).1 ⟨rfl, State.Warmed39.refl s, rfl⟩ trivial
    refine ⟨n, _, h1, h2, h3, hpost _ _ _ _ _ _ ⟨Cond.after_iff.mpr rfl, Cond.after_iff.mpr (eq_i res_at (Term.int_eval (1)) rfl), trivial⟩ ⟨hq.1, hq.2.1, (hq.2.2.sift fun y hy => Or.inr (N y hy)).mono (by decide) (by decide)⟩⟩
theorem main_1_1 : Claimed_1_1 := comes_1 fun _ _ _ _ _ _ h hF => ⟨h.1, hF⟩
theorem main_1_2 : Claimed_1_2 := comes_1 fun _ _ _ _ _ _ h hF => ⟨h.2.1, hF⟩
end Jvm.Pilot.@@N@@
namespace Jvm.Pilot.@@N@@
open Jvm Jvm.ClassFile Sem Op Lib Jvm.Free Jvm.Stand Jvm.Pilot.@@N@@.Jvm.D
/-! MADE BY PROGRAM (witnessworld.py) out of the Statement's table words and the real class files: 16 classes; the members and pool entries that the words name. The judged class is class 1, her method 1. -/
namespace start1
open Jvm.ClassFile
def u (s : String) : CpInfo := .utf8 (stringToUtf16 s)
/-- a pool by its gaps: so many unusable entries, then the entry; so many at the end -/
def gap : Nat → List CpInfo → List CpInfo
  | 0, r => r
  | n + 1, r => .unusable :: gap n r
def poolList (es : List (Nat × CpInfo)) (last : Nat) : List CpInfo := es.foldr (fun e r => gap e.1 (e.2 :: r)) (gap last [])
def pool (es : List (Nat × CpInfo)) (last : Nat) : Array CpInfo := ⟨poolList es last⟩
def fileOf (pool : Array CpInfo) (this : Nat) (attrs : Array Attribute := #[]) (ms : Array MethodInfo := #[]) (fl : Nat := 33) (sup : Nat := 0) (ifs : Array Nat := #[]) (fds : Array FieldInfo := #[]) : ClassFile where
  minorVersion := 0
  majorVersion := 65
  constantPool := pool
  accessFlags := fl
  thisClass := this
  superClass := sup
  interfaces := ifs
  fields := fds
  methods := ms
  attributes := attrs
def plain (name : String) (sup : Option ClassId) : Class where
  name := name
  kind := .ordinary
  loader := none
  accessFlags := 33
  super := sup
  interfaces := #[]
  cf := none
  fields := #[]
  methods := #[]
  instanceTypes := #[]
  staticTypes := #[]
  resolved := #[]
  callSites := []
  init := .initialized
  statics := none
  mirror := none

def pool0 : Array CpInfo := pool [(5, u "<init>"), (0, u "()V"), (1, .class_ 10), (1, u "java/lang/Object")] 113

def k0m0 : Method := { name := "<init>", desc := "()V", sig := { parameters := [], returnType := none }, accessFlags := 1, code := none }
/-- java/lang/Object -/
def k0 : Class := { plain "java/lang/Object" none with
  accessFlags := 33
  interfaces := #[]
  cf := some (fileOf pool0 8 #[] #[{ accessFlags := 1, nameIndex := 5, descriptorIndex := 6, attributes := #[] }] 33 0 #[] #[])
  fields := #[]
  methods := #[k0m0]
  instanceTypes := #[]
  staticTypes := #[]
  resolved := Array.replicate 124 none
  statics := none }

def pool1 : Array CpInfo := pool [(2, .class_ 4), (1, u "java/lang/Object"), (0, u "<init>"), (0, u "()V"), (0, .fieldref 8 9), (0, .class_ 10), (0, .nameAndType 11 12), (0, u "com/example/deposita/deposita/core/CitationSender$Key"), (0, u "RECORD_REFERENCE"), (0, u "Lcom/example/deposita/deposita/core/CitationSender$Key;"), (0, .fieldref 8 14), (0, .nameAndType 15 12), (0, u "FROM_COMPANY"), (0, .fieldref 8 17), (0, .nameAndType 18 12), (0, u "FROM_EMAIL"), (0, .fieldref 8 20), (0, .nameAndType 21 12), (0, u "NOTIFICATION_RESPONSE"), (0, .methodref 8 23), (0, .nameAndType 24 25), (0, u "required"), (0, u "()Z"), (0, .methodref 8 27), (0, .nameAndType 28 29), (0, u "fallback"), (0, u "()Ljava/lang/String;"), (0, .class_ 31), (0, u "com/example/deposita/deposita/core/KeyRequiredPinLaw"), (2, u "law"), (0, u "(I)Z")] 7

def k1m0 : Method := { name := "<init>", desc := "()V", sig := { parameters := [], returnType := none }, accessFlags := 1, code := none }
def k1c1 : Code := { maxStack := 2, maxLocals := 5, code := code, exceptionTable := #[], attributes := #[] }
def k1m1 : Method := { name := "law", desc := "(I)Z", sig := { parameters := [.int], returnType := some .boolean }, accessFlags := 9, code := some k1c1 }
/-- com/example/deposita/deposita/core/KeyRequiredPinLaw -/
def k1 : Class := { plain "com/example/deposita/deposita/core/KeyRequiredPinLaw" (some 0) with
  accessFlags := 49
  interfaces := #[]
  cf := some (fileOf pool1 30 #[] #[{ accessFlags := 1, nameIndex := 5, descriptorIndex := 6, attributes := #[] }, { accessFlags := 9, nameIndex := 34, descriptorIndex := 35, attributes := #[] }] 49 2 #[] #[])
  fields := #[]
  methods := #[k1m0, k1m1]
  instanceTypes := #[]
  staticTypes := #[]
  resolved := Array.replicate 43 none
  statics := none }

def pool2 : Array CpInfo := pool [(1, .class_ 2), (0, u "java/lang/constant/Constable"), (0, .class_ 4), (0, u "java/lang/Object")] 6

/-- java/lang/constant/Constable -/
def k2 : Class := { plain "java/lang/constant/Constable" (some 0) with
  accessFlags := 1537
  interfaces := #[]
  cf := some (fileOf pool2 1 #[] #[] 1537 3 #[] #[])
  fields := #[]
  methods := #[]
  instanceTypes := #[]
  staticTypes := #[]
  resolved := Array.replicate 11 none
  statics := none }

def pool3 : Array CpInfo := pool [(1, .class_ 2), (0, u "java/lang/Comparable"), (0, .class_ 4), (0, u "java/lang/Object")] 7

/-- java/lang/Comparable -/
def k3 : Class := { plain "java/lang/Comparable" (some 0) with
  accessFlags := 1537
  interfaces := #[]
  cf := some (fileOf pool3 1 #[] #[] 1537 3 #[] #[])
  fields := #[]
  methods := #[]
  instanceTypes := #[]
  staticTypes := #[]
  resolved := Array.replicate 12 none
  statics := none }

def pool4 : Array CpInfo := pool [(1, .class_ 2), (0, u "java/io/Serializable"), (0, .class_ 4), (0, u "java/lang/Object")] 2

/-- java/io/Serializable -/
def k4 : Class := { plain "java/io/Serializable" (some 0) with
  accessFlags := 1537
  interfaces := #[]
  cf := some (fileOf pool4 1 #[] #[] 1537 3 #[] #[])
  fields := #[]
  methods := #[]
  instanceTypes := #[]
  staticTypes := #[]
  resolved := Array.replicate 7 none
  statics := none }

def pool5 : Array CpInfo := pool [(2, .class_ 4), (1, u "java/lang/Enum"), (0, u "name"), (0, u "Ljava/lang/String;"), (2, u "ordinal"), (0, u "I"), (1, .class_ 14), (1, u "java/lang/Object"), (4, u "hash"), (86, .class_ 108), (1, u "java/lang/Enum$EnumDesc"), (2, .class_ 112), (0, u "java/lang/constant/Constable"), (0, .class_ 114), (0, u "java/lang/Comparable"), (0, .class_ 116), (0, u "java/io/Serializable")] 87

/-- java/lang/Enum -/
def k5 : Class := { plain "java/lang/Enum" (some 0) with
  accessFlags := 1057
  interfaces := #[2, 3, 4]
  cf := some (fileOf pool5 2 #[.nestMembers #[106]] #[] 1057 12 #[111, 113, 115] #[{ accessFlags := 18, nameIndex := 5, descriptorIndex := 6, attributes := #[] }, { accessFlags := 18, nameIndex := 9, descriptorIndex := 10, attributes := #[] }, { accessFlags := 2, nameIndex := 19, descriptorIndex := 10, attributes := #[] }])
  fields := #[{ name := "name", type := (.object "java/lang/String"), accessFlags := 18, slot := 0, constantValue := 0 }, { name := "ordinal", type := .int, accessFlags := 18, slot := 1, constantValue := 0 }, { name := "hash", type := .int, accessFlags := 2, slot := 2, constantValue := 0 }]
  methods := #[]
  instanceTypes := #[(.object "java/lang/String"), .int, .int]
  staticTypes := #[]
  resolved := Array.replicate 204 none
  statics := none }

def pool6 : Array CpInfo := pool [(3, .class_ 4), (0, u "com/example/deposita/deposita/core/SenderKey"), (0, .class_ 6), (0, u "java/lang/Object"), (0, u "UNLIMITED"), (0, u "I")] 16

/-- com/example/deposita/deposita/core/SenderKey -/
def k6 : Class := { plain "com/example/deposita/deposita/core/SenderKey" (some 0) with
  accessFlags := 1537
  interfaces := #[]
  cf := some (fileOf pool6 3 #[] #[] 1537 5 #[] #[{ accessFlags := 25, nameIndex := 7, descriptorIndex := 8, attributes := #[] }])
  fields := #[{ name := "UNLIMITED", type := .int, accessFlags := 25, slot := 0, constantValue := 0 }]
  methods := #[]
  instanceTypes := #[]
  staticTypes := #[.int]
  resolved := Array.replicate 25 none
  statics := none }

def pool7 : Array CpInfo := pool [(1, .class_ 2), (0, u "com/example/deposita/deposita/core/CitationSender$Key"), (2, u "RECORD_REFERENCE"), (0, u "Lcom/example/deposita/deposita/core/CitationSender$Key;"), (2, u "FROM_COMPANY"), (2, u "FROM_EMAIL"), (2, u "NOTIFICATION_RESPONSE"), (2, u "$VALUES"), (0, u "[Lcom/example/deposita/deposita/core/CitationSender$Key;"), (6, .class_ 28), (1, u "java/lang/Enum"), (8, u "property"), (0, u "Ljava/lang/String;"), (2, u "summary"), (0, .fieldref 1 43), (0, .nameAndType 44 38), (0, u "fallback"), (2, u "suggestedLength"), (0, u "I"), (32, .class_ 82), (0, u "com/example/deposita/deposita/core/SenderKey"), (32, u "()Ljava/lang/String;"), (0, u "required"), (0, u "()Z"), (9, .class_ 128), (0, u "com/example/deposita/deposita/core/CitationSender")] 2

def k7c0 : Code := { maxStack := 1, maxLocals := 1, code := prog_6_method_6_code, exceptionTable := #[], attributes := #[] }
def k7m0 : Method := { name := "required", desc := "()Z", sig := { parameters := [], returnType := some .boolean }, accessFlags := 1, code := some k7c0 }
def k7c1 : Code := { maxStack := 1, maxLocals := 1, code := prog_6_method_7_code, exceptionTable := #[], attributes := #[] }
def k7m1 : Method := { name := "fallback", desc := "()Ljava/lang/String;", sig := { parameters := [], returnType := some (.object "java/lang/String") }, accessFlags := 1, code := some k7c1 }
/-- com/example/deposita/deposita/core/CitationSender$Key -/
def k7 : Class := { plain "com/example/deposita/deposita/core/CitationSender$Key" (some 5) with
  accessFlags := 16433
  interfaces := #[6]
  cf := some (fileOf pool7 1 #[.nestHost 127] #[{ accessFlags := 1, nameIndex := 116, descriptorIndex := 117, attributes := #[] }, { accessFlags := 1, nameIndex := 44, descriptorIndex := 115, attributes := #[] }] 16433 26 #[81] #[{ accessFlags := 16409, nameIndex := 5, descriptorIndex := 6, attributes := #[] }, { accessFlags := 16409, nameIndex := 9, descriptorIndex := 6, attributes := #[] }, { accessFlags := 16409, nameIndex := 12, descriptorIndex := 6, attributes := #[] }, { accessFlags := 16409, nameIndex := 15, descriptorIndex := 6, attributes := #[] }, { accessFlags := 18, nameIndex := 37, descriptorIndex := 38, attributes := #[] }, { accessFlags := 18, nameIndex := 41, descriptorIndex := 38, attributes := #[] }, { accessFlags := 18, nameIndex := 44, descriptorIndex := 38, attributes := #[] }, { accessFlags := 18, nameIndex := 47, descriptorIndex := 48, attributes := #[] }, { accessFlags := 4122, nameIndex := 18, descriptorIndex := 19, attributes := #[] }])
  fields := #[{ name := "RECORD_REFERENCE", type := (.object "com/example/deposita/deposita/core/CitationSender$Key"), accessFlags := 16409, slot := 0, constantValue := 0 }, { name := "FROM_COMPANY", type := (.object "com/example/deposita/deposita/core/CitationSender$Key"), accessFlags := 16409, slot := 1, constantValue := 0 }, { name := "FROM_EMAIL", type := (.object "com/example/deposita/deposita/core/CitationSender$Key"), accessFlags := 16409, slot := 2, constantValue := 0 }, { name := "NOTIFICATION_RESPONSE", type := (.object "com/example/deposita/deposita/core/CitationSender$Key"), accessFlags := 16409, slot := 3, constantValue := 0 }, { name := "property", type := (.object "java/lang/String"), accessFlags := 18, slot := 3, constantValue := 0 }, { name := "summary", type := (.object "java/lang/String"), accessFlags := 18, slot := 4, constantValue := 0 }, { name := "fallback", type := (.object "java/lang/String"), accessFlags := 18, slot := 5, constantValue := 0 }, { name := "suggestedLength", type := .int, accessFlags := 18, slot := 6, constantValue := 0 }, { name := "$VALUES", type := (.array (.object "com/example/deposita/deposita/core/CitationSender$Key")), accessFlags := 4122, slot := 4, constantValue := 0 }]
  methods := #[k7m0, k7m1]
  instanceTypes := #[(.object "java/lang/String"), .int, .int, (.object "java/lang/String"), (.object "java/lang/String"), (.object "java/lang/String"), .int]
  staticTypes := #[(.object "com/example/deposita/deposita/core/CitationSender$Key"), (.object "com/example/deposita/deposita/core/CitationSender$Key"), (.object "com/example/deposita/deposita/core/CitationSender$Key"), (.object "com/example/deposita/deposita/core/CitationSender$Key"), (.array (.object "com/example/deposita/deposita/core/CitationSender$Key"))]
  resolved := Array.replicate 131 none
  statics := some 0 }

def pool8 : Array CpInfo := pool [(2, .class_ 4), (1, u "java/lang/CharSequence"), (42, .class_ 48), (0, u "java/lang/CharSequence$1CodePointIterator"), (10, .class_ 60), (0, u "java/lang/CharSequence$1CharIterator"), (5, .class_ 67), (0, u "java/lang/Object")] 63

/-- java/lang/CharSequence -/
def k8 : Class := { plain "java/lang/CharSequence" (some 0) with
  accessFlags := 1537
  interfaces := #[]
  cf := some (fileOf pool8 2 #[.nestMembers #[47, 59]] #[] 1537 66 #[] #[])
  fields := #[]
  methods := #[]
  instanceTypes := #[]
  staticTypes := #[]
  resolved := Array.replicate 131 none
  statics := none }

def pool9 : Array CpInfo := pool [(1, .class_ 2), (0, u "java/lang/constant/ConstantDesc"), (0, .class_ 4), (0, u "java/lang/Object")] 32

/-- java/lang/constant/ConstantDesc -/
def k9 : Class := { plain "java/lang/constant/ConstantDesc" (some 0) with
  accessFlags := 1537
  interfaces := #[]
  cf := some (fileOf pool9 1 #[] #[] 1537 3 #[] #[])
  fields := #[]
  methods := #[]
  instanceTypes := #[]
  staticTypes := #[]
  resolved := Array.replicate 37 none
  statics := none }

def pool10 : Array CpInfo := pool [(2, .class_ 4), (1, u "java/lang/Object"), (0, u "<init>"), (0, u "()V"), (3, .class_ 12), (1, u "java/lang/String"), (0, u "value"), (0, u "[B"), (2, u "coder"), (0, u "B"), (2, u "hash"), (0, u "I"), (2, u "hashIsZero"), (0, u "Z"), (13, u "COMPACT_STRINGS"), (534, .class_ 576), (0, u "java/lang/CharSequence"), (22, u "CASE_INSENSITIVE_ORDER"), (0, u "Ljava/util/Comparator;"), (500, u "serialPersistentFields"), (0, u "[Ljava/io/ObjectStreamField;"), (0, .class_ 1104), (0, u "java/lang/String$CaseInsensitiveComparator"), (1, .class_ 1107), (0, u "java/io/Serializable"), (0, .class_ 1109), (0, u "java/lang/Comparable"), (0, .class_ 1111), (0, u "java/lang/constant/Constable"), (0, .class_ 1113), (0, u "java/lang/constant/ConstantDesc"), (2, u "serialVersionUID"), (0, u "J"), (3, u "REPL"), (0, u "C"), (2, u "LATIN1"), (1, u "UTF16")] 323

def k10m0 : Method := { name := "<init>", desc := "()V", sig := { parameters := [], returnType := none }, accessFlags := 1, code := none }
/-- java/lang/String -/
def k10 : Class := { plain "java/lang/String" (some 0) with
  accessFlags := 49
  interfaces := #[4, 3, 8, 2, 9]
  cf := some (fileOf pool10 10 #[.nestMembers #[1103]] #[{ accessFlags := 1, nameIndex := 5, descriptorIndex := 6, attributes := #[] }] 49 2 #[1106, 1108, 575, 1110, 1112] #[{ accessFlags := 18, nameIndex := 13, descriptorIndex := 14, attributes := #[] }, { accessFlags := 18, nameIndex := 17, descriptorIndex := 18, attributes := #[] }, { accessFlags := 2, nameIndex := 21, descriptorIndex := 22, attributes := #[] }, { accessFlags := 2, nameIndex := 25, descriptorIndex := 26, attributes := #[] }, { accessFlags := 26, nameIndex := 1116, descriptorIndex := 1117, attributes := #[] }, { accessFlags := 24, nameIndex := 40, descriptorIndex := 26, attributes := #[] }, { accessFlags := 26, nameIndex := 1101, descriptorIndex := 1102, attributes := #[] }, { accessFlags := 26, nameIndex := 1121, descriptorIndex := 1122, attributes := #[] }, { accessFlags := 25, nameIndex := 599, descriptorIndex := 600, attributes := #[] }, { accessFlags := 24, nameIndex := 1125, descriptorIndex := 18, attributes := #[] }, { accessFlags := 24, nameIndex := 1127, descriptorIndex := 18, attributes := #[] }])
  fields := #[{ name := "value", type := (.array .byte), accessFlags := 18, slot := 0, constantValue := 0 }, { name := "coder", type := .byte, accessFlags := 18, slot := 1, constantValue := 0 }, { name := "hash", type := .int, accessFlags := 2, slot := 2, constantValue := 0 }, { name := "hashIsZero", type := .boolean, accessFlags := 2, slot := 3, constantValue := 0 }, { name := "serialVersionUID", type := .long, accessFlags := 26, slot := 0, constantValue := 0 }, { name := "COMPACT_STRINGS", type := .boolean, accessFlags := 24, slot := 1, constantValue := 0 }, { name := "serialPersistentFields", type := (.array (.object "java/io/ObjectStreamField")), accessFlags := 26, slot := 2, constantValue := 0 }, { name := "REPL", type := .char, accessFlags := 26, slot := 3, constantValue := 0 }, { name := "CASE_INSENSITIVE_ORDER", type := (.object "java/util/Comparator"), accessFlags := 25, slot := 4, constantValue := 0 }, { name := "LATIN1", type := .byte, accessFlags := 24, slot := 5, constantValue := 0 }, { name := "UTF16", type := .byte, accessFlags := 24, slot := 6, constantValue := 0 }]
  methods := #[k10m0]
  instanceTypes := #[(.array .byte), .byte, .int, .boolean]
  staticTypes := #[.long, .boolean, (.array (.object "java/io/ObjectStreamField")), .char, (.object "java/util/Comparator"), .byte, .byte]
  resolved := Array.replicate 1451 none
  statics := none }

def pool11 : Array CpInfo := pool [(1, u "java/lang/Cloneable"), (0, .class_ 1), (0, u "java/lang/Object"), (0, .class_ 3)] 3

/-- java/lang/Cloneable -/
def k11 : Class := { plain "java/lang/Cloneable" (some 0) with
  accessFlags := 1537
  interfaces := #[]
  cf := some (fileOf pool11 2 #[] #[] 1537 4 #[] #[])
  fields := #[]
  methods := #[]
  instanceTypes := #[]
  staticTypes := #[]
  resolved := Array.replicate 8 none
  statics := none }

/-- the primitive byte -/
def k12 : Class := { plain "byte" none with kind := .primitive 'B', accessFlags := 0x411 }
/-- [B -/
def k13 : Class := { plain "[B" (some 0) with kind := .array 12 .byte, interfaces := #[11, 4], accessFlags := 1041 }

/-- the primitive int -/
def k14 : Class := { plain "int" none with kind := .primitive 'I', accessFlags := 0x411 }
/-- [I -/
def k15 : Class := { plain "[I" (some 0) with kind := .array 14 .int, interfaces := #[11, 4], accessFlags := 1041 }

def heap : Heap := #[{ cls := 7, slots := #[.ref 1, .ref 2, .ref 3, .ref 4, .null], vm := .statics 7 },
  { cls := 7, slots := #[.null, .int 0, .int 0, .null, .null, .null, .int 0], vm := .none },
  { cls := 7, slots := #[.null, .int 1, .int 0, .null, .null, .null, .int 0], vm := .none },
  { cls := 7, slots := #[.null, .int 2, .int 0, .null, .null, .null, .int 0], vm := .none },
  { cls := 7, slots := #[.null, .int 3, .int 0, .null, .null, .ref 5, .int 0], vm := .none },
  { cls := 10, slots := #[.null, .int 0, .int 0, .int 0], vm := .none }]
def classes : Array Class := #[k0, k1, k2, k3, k4, k5, k6, k7, k8, k9, k10, k11, k12, k13, k14, k15]
def interned : List (Array UInt16 × Addr) := []
def slotsUsed : Nat := 37
def theMethod : MethodId := ⟨1, 1⟩
def args0 : Array Value := #[.int 5]
def aboutOver (below : List Frame) : State where
  vm := { classes := classes, interned := interned.toArray }
  heap := heap
  slotsUsed := slotsUsed
  threads := #[{ frames := .invoking theMethod args0 :: below }]
def below0 : List Frame := [.native { method := ⟨0, 0⟩, args := #[] }]
def about1 : State := aboutOver below0
def p0 : Program := .bare "" "" ""
def e0 : Env := launch0.env 0 0 0
theorem w_frames : about1.frames = Frame.invoking theMethod args0 :: below0 := rfl
set_option maxRecDepth 65536 in
theorem w_args : argsFit about1.vm theMethod args0 = true := by decide +kernel
set_option maxRecDepth 65536 in
theorem w_heap : heapFits about1 = true := by decide +kernel
set_option maxRecDepth 65536 in
theorem w_runnable : about1.curStatus? = some .runnable := by decide +kernel
set_option maxRecDepth 65536 in
theorem w_alone : about1.alone = true := by decide +kernel
set_option maxRecDepth 65536 in
theorem w_named : about1.methodNamed? x = some theMethod := by decide +kernel
set_option maxRecDepth 65536 in
theorem w_hears : about1.hears theMethod below0 = true := by decide +kernel
set_option maxRecDepth 65536 in
theorem w_ripe : about1.ripe theMethod args0 below0 = true := by decide +kernel
theorem w_running : about1.status = .running := rfl
set_option maxRecDepth 65536 in
theorem w_room : about1.hasRoom e0.platform room_1 = true :=
  launch0.hasRoom_least _ room_1 (by decide +kernel) (by decide +kernel) (by decide +kernel) (by decide +kernel) (by decide +kernel) (by decide +kernel)
theorem allAtoms_all (ts : List Jvm.Cond) (a : Array Jvm.Value) (st : Jvm.State) : (allAtoms ts).before a st = ts.all (fun c => c.before a st) := by
  induction ts with
  | nil => rfl
  | cons c t ih =>
    show (Jvm.Cond.and c (allAtoms t)).before a st = _
    rw [Jvm.Cond.before_and, ih, List.all_cons]
def words1 : List Jvm.Cond := Jvm.Cond.code x code maxLocals ret :: tables_1
/-- a 'code' word, met by the world's own term for the bytes: nothing is compared byte by byte -/
theorem code_word {y : MethodName} {bytes : ByteArray} {mx : Nat} {rt : Option FieldType} {a : Array Value} {s : State} {m : MethodId} {meth : Method} {c : Code} (h1 : s.methodNamed? y = some m) (h2 : s.vm.method? m = some meth) (h3 : meth.code = some c) (h4 : c.code = bytes)
    (h5 : (c.maxLocals == mx && c.exceptionTable.isEmpty && decide (c.maxStack ≤ mostOperands) && decide (meth.sig.returnType = rt) && !meth.locks && decide (parseMethodDescriptor y.desc = some meth.sig)) = true) : (Jvm.Cond.code y bytes mx rt).before a s = true := by
  simp only [Bool.and_eq_true, beq_iff_eq, Bool.not_eq_true', decide_eq_true_eq] at h5
  obtain ⟨⟨⟨⟨⟨g1, g2⟩, g3⟩, g4⟩, g5⟩, g6⟩ := h5
  simp [Cond.before, Cond.holds, Cond.value, h1, h2, h3, h4, g1, g2, g3, g4, g5, g6]
def isCode : Jvm.Cond → Bool
  | .code _ _ _ _ => true
  | _ => false
theorem all_split {L : List Jvm.Cond} {P : Jvm.Cond → Bool} (h1 : L.all (fun c => isCode c || P c) = true) (h2 : ∀ c ∈ L.filter isCode, P c = true) : L.all P = true := by
  refine List.all_eq_true.mpr fun c hc => ?_
  have h := List.all_eq_true.mp h1 c hc
  rcases Bool.eq_false_or_eq_true (isCode c) with hi | hi
  · exact h2 c (List.mem_filter.mpr ⟨hc, hi⟩)
  · simpa [hi] using h
set_option maxRecDepth 65536 in
theorem w_c0 : (Jvm.Cond.code x code maxLocals ret).before args0 about1 = true := code_word (m := ⟨1, 1⟩) (meth := k1m1) (c := k1c1) (by decide +kernel) rfl rfl rfl (by decide +kernel)
set_option maxRecDepth 65536 in
theorem w_c1 : (Jvm.Cond.code ({ cls := "com/example/deposita/deposita/core/CitationSender$Key", name := "required", desc := "()Z" } : Jvm.MethodName) prog_6_method_6_code (1 : Nat) (Option.some Jvm.ClassFile.FieldType.boolean)).before args0 about1 = true := code_word (m := ⟨7, 0⟩) (meth := k7m0) (c := k7c0) (by decide +kernel) rfl rfl rfl (by decide +kernel)
set_option maxRecDepth 65536 in
theorem w_c2 : (Jvm.Cond.code ({ cls := "com/example/deposita/deposita/core/CitationSender$Key", name := "fallback", desc := "()Ljava/lang/String;" } : Jvm.MethodName) prog_6_method_7_code (1 : Nat) (Option.some (Jvm.ClassFile.FieldType.object "java/lang/String"))).before args0 about1 = true := code_word (m := ⟨7, 1⟩) (meth := k7m1) (c := k7c1) (by decide +kernel) rfl rfl rfl (by decide +kernel)
def codes1 : List Jvm.Cond := [Jvm.Cond.code x code maxLocals ret, Jvm.Cond.code ({ cls := "com/example/deposita/deposita/core/CitationSender$Key", name := "required", desc := "()Z" } : Jvm.MethodName) prog_6_method_6_code (1 : Nat) (Option.some Jvm.ClassFile.FieldType.boolean), Jvm.Cond.code ({ cls := "com/example/deposita/deposita/core/CitationSender$Key", name := "fallback", desc := "()Ljava/lang/String;" } : Jvm.MethodName) prog_6_method_7_code (1 : Nat) (Option.some (Jvm.ClassFile.FieldType.object "java/lang/String"))]
set_option maxRecDepth 65536 in
theorem codes_eq : words1.filter isCode = codes1 := rfl
theorem w_codes : ∀ c ∈ words1.filter isCode, c.before args0 about1 = true := by
  rw [codes_eq]
  intro c hc
  simp only [codes1, List.mem_cons, List.not_mem_nil, or_false] at hc
  rcases hc with rfl | rfl | rfl
  · exact w_c0
  · exact w_c1
  · exact w_c2
set_option maxRecDepth 65536 in
theorem w_t1 : words1.all (fun c => isCode c || c.before args0 about1) = true := by decide +kernel
theorem w_tables : (allAtoms (Jvm.Cond.code x code maxLocals ret :: tables_1)).before args0 about1 = true := by
  rw [allAtoms_all]
  show words1.all (fun c => c.before args0 about1) = true
  refine all_split ?_ w_codes
  rw [w_t1]
set_option maxRecDepth 65536 in
theorem w_case : (Jvm.Cond.and given_1 narrow_1).before args0 about1 = true := by decide +kernel
theorem w_applies : (headSpec (Jvm.Cond.code x code maxLocals ret :: tables_1) room_1).applies x e0.platform about1 = true :=
  (Spec.applies_iff w_frames).mpr ⟨w_running, w_runnable, w_alone, w_named, w_hears, w_ripe, w_room, w_tables⟩
theorem atStart : AtStart classFile x code maxLocals ret World_1 tables_1 room_1 Calls_1 rest_1 Pre_1 launch0 p0 e0 about1 theMethod args0 below0 :=
  ⟨lists_1, trivial, launch0.admits_env _ _ _, launch0.least_env, fairChoices_fair.cas, fairChoices_fair.clock, w_frames, w_args, w_heap, w_applies, trivial, trivial, w_case⟩
end start1
theorem witness_1 : WitnessClaimed_1 := ⟨start1.p0, start1.e0, start1.about1, start1.theMethod, start1.args0, start1.below0, start1.atStart⟩
end Jvm.Pilot.@@N@@
